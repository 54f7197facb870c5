/-
  No cell of these rows narrows 'for every input' (looked for: loops, veiled, ifaces, maps, wideKeys, modest, calm, conditions, laid).
  DERIVED. THE GIVEN ROWS OF THIS SEAT. 18 by the template 'for every input the law returns true; each argument reads behind the call as it read before'; 0 by the template 'total and deterministic' (their statements: YtdhibalpnccbiaaTotals.lean).
  GIVEN WITH THE SEED: the statements are not yours to turn. If you find one false, say at which input.
  Laid BY PROGRAM, IN A SANDBOX (cutbox-rows.mjs): the forced cells as the released guide's own fill.sh prints them over the translation 2e11c554dc7f7fbd… (all of the seat's roots in one cut). By AI agents, Wed Nov 11 2026. No macro, syntax, notation, axiom, sorry.
-/
import Derived.Test.YtdhibalpnccbiaaChecked
import GoSem.Claim
import GoSem.ClaimJoined
import GoSem.ClaimMapViews
import Derived.JoinedTies
import Derived.KernelRfl
namespace Go.Proofs.Ytdhibalpnccbiaa
/- THE CELL 'sum', in the pinned program and in every row, IS THE sha256 OF THE DUMP (.gsa) THAT YtdhibalpnccbiaaProg.lean LOADS. Nothing in Lean hashes anything: it is a label: what it is worth is what the hold of that sum in a sandbox is worth. -/
noncomputable def Try.pinned : Pinned := { name := "ytdhibalpnccbiaa", sum := "2e11c554dc7f7fbd924f44d057162eee64c0b28f1cd739846279632166c3132a", checked := Try.checked }
namespace Rows
def none {H : Type} : Left H := { results := [], args := [] }

/-- 'laws.FnIsToolchain': WHATEVER THE INPUT: true; the input reads as it did. -/
def fnIsToolchainSpec : ChangeSpec := { name := "fnIsToolchain", fn := fun _ => fun
  | [d] => { results := [.lit (.bool true)], args := [d] }
  | _ => none }
def fnIsToolchainRow : OpenClaim := { program := "ytdhibalpnccbiaa", sum := "2e11c554dc7f7fbd924f44d057162eee64c0b28f1cd739846279632166c3132a", func := "loop.example/pub-modulesandtoolchains/laws.FnIsToolchain", spec := "fnIsToolchain", apart := false }
def FnIsToolchainSaid : Prop := fnIsToolchainRow.holds Try.pinned (OpenSpec.ofChange fnIsToolchainSpec)

/-- ITS FALSE NEIGHBOUR: 'it returns false'. Refute it at one input. -/
def fnIsToolchainWrong : ChangeSpec := { name := "fnIsToolchain", fn := fun _ => fun
  | [d] => { results := [.lit (.bool false)], args := [d] }
  | _ => none }
def FnIsToolchainWrongFalsely : Prop := fnIsToolchainRow.holds Try.pinned (OpenSpec.ofChange fnIsToolchainWrong)

/-- 'laws.FnIsPrerelease': WHATEVER THE INPUT: true; the input reads as it did. -/
def fnIsPrereleaseSpec : ChangeSpec := { name := "fnIsPrerelease", fn := fun _ => fun
  | [d] => { results := [.lit (.bool true)], args := [d] }
  | _ => none }
def fnIsPrereleaseRow : OpenClaim := { program := "ytdhibalpnccbiaa", sum := "2e11c554dc7f7fbd924f44d057162eee64c0b28f1cd739846279632166c3132a", func := "loop.example/pub-modulesandtoolchains/laws.FnIsPrerelease", spec := "fnIsPrerelease", apart := false }
def FnIsPrereleaseSaid : Prop := fnIsPrereleaseRow.holds Try.pinned (OpenSpec.ofChange fnIsPrereleaseSpec)

/-- ITS FALSE NEIGHBOUR: 'it returns false'. Refute it at one input. -/
def fnIsPrereleaseWrong : ChangeSpec := { name := "fnIsPrerelease", fn := fun _ => fun
  | [d] => { results := [.lit (.bool false)], args := [d] }
  | _ => none }
def FnIsPrereleaseWrongFalsely : Prop := fnIsPrereleaseRow.holds Try.pinned (OpenSpec.ofChange fnIsPrereleaseWrong)

/-- 'laws.FnPrev': WHATEVER THE INPUT: true; the input reads as it did. -/
def fnPrevSpec : ChangeSpec := { name := "fnPrev", fn := fun _ => fun
  | [d] => { results := [.lit (.bool true)], args := [d] }
  | _ => none }
def fnPrevRow : OpenClaim := { program := "ytdhibalpnccbiaa", sum := "2e11c554dc7f7fbd924f44d057162eee64c0b28f1cd739846279632166c3132a", func := "loop.example/pub-modulesandtoolchains/laws.FnPrev", spec := "fnPrev", apart := false }
def FnPrevSaid : Prop := fnPrevRow.holds Try.pinned (OpenSpec.ofChange fnPrevSpec)

/-- ITS FALSE NEIGHBOUR: 'it returns false'. Refute it at one input. -/
def fnPrevWrong : ChangeSpec := { name := "fnPrev", fn := fun _ => fun
  | [d] => { results := [.lit (.bool false)], args := [d] }
  | _ => none }
def FnPrevWrongFalsely : Prop := fnPrevRow.holds Try.pinned (OpenSpec.ofChange fnPrevWrong)

/-- 'laws.FnFromToolchain': WHATEVER THE INPUT: true; the input reads as it did. -/
def fnFromToolchainSpec : ChangeSpec := { name := "fnFromToolchain", fn := fun _ => fun
  | [d] => { results := [.lit (.bool true)], args := [d] }
  | _ => none }
def fnFromToolchainRow : OpenClaim := { program := "ytdhibalpnccbiaa", sum := "2e11c554dc7f7fbd924f44d057162eee64c0b28f1cd739846279632166c3132a", func := "loop.example/pub-modulesandtoolchains/laws.FnFromToolchain", spec := "fnFromToolchain", apart := false }
def FnFromToolchainSaid : Prop := fnFromToolchainRow.holds Try.pinned (OpenSpec.ofChange fnFromToolchainSpec)

/-- ITS FALSE NEIGHBOUR: 'it returns false'. Refute it at one input. -/
def fnFromToolchainWrong : ChangeSpec := { name := "fnFromToolchain", fn := fun _ => fun
  | [d] => { results := [.lit (.bool false)], args := [d] }
  | _ => none }
def FnFromToolchainWrongFalsely : Prop := fnFromToolchainRow.holds Try.pinned (OpenSpec.ofChange fnFromToolchainWrong)

/-- 'laws.FnNamed': WHATEVER THE INPUT: true; the input reads as it did. -/
def fnNamedSpec : ChangeSpec := { name := "fnNamed", fn := fun _ => fun
  | [d1, d2] => { results := [.lit (.bool true)], args := [d1, d2] }
  | _ => none }
def fnNamedRow : OpenClaim := { program := "ytdhibalpnccbiaa", sum := "2e11c554dc7f7fbd924f44d057162eee64c0b28f1cd739846279632166c3132a", func := "loop.example/pub-modulesandtoolchains/laws.FnNamed", spec := "fnNamed", apart := false }
def FnNamedSaid : Prop := fnNamedRow.holds Try.pinned (OpenSpec.ofChange fnNamedSpec)

/-- ITS FALSE NEIGHBOUR: 'it returns false'. Refute it at one input. -/
def fnNamedWrong : ChangeSpec := { name := "fnNamed", fn := fun _ => fun
  | [d1, d2] => { results := [.lit (.bool false)], args := [d1, d2] }
  | _ => none }
def FnNamedWrongFalsely : Prop := fnNamedRow.holds Try.pinned (OpenSpec.ofChange fnNamedWrong)

/-- 'laws.FnPrefix': WHATEVER THE INPUT: true; the input reads as it did. -/
def fnPrefixSpec : ChangeSpec := { name := "fnPrefix", fn := fun _ => fun
  | [d1, d2] => { results := [.lit (.bool true)], args := [d1, d2] }
  | _ => none }
def fnPrefixRow : OpenClaim := { program := "ytdhibalpnccbiaa", sum := "2e11c554dc7f7fbd924f44d057162eee64c0b28f1cd739846279632166c3132a", func := "loop.example/pub-modulesandtoolchains/laws.FnPrefix", spec := "fnPrefix", apart := false }
def FnPrefixSaid : Prop := fnPrefixRow.holds Try.pinned (OpenSpec.ofChange fnPrefixSpec)

/-- ITS FALSE NEIGHBOUR: 'it returns false'. Refute it at one input. -/
def fnPrefixWrong : ChangeSpec := { name := "fnPrefix", fn := fun _ => fun
  | [d1, d2] => { results := [.lit (.bool false)], args := [d1, d2] }
  | _ => none }
def FnPrefixWrongFalsely : Prop := fnPrefixRow.holds Try.pinned (OpenSpec.ofChange fnPrefixWrong)

/-- 'laws.FnValid': WHATEVER THE INPUT: true; the input reads as it did. -/
def fnValidSpec : ChangeSpec := { name := "fnValid", fn := fun _ => fun
  | [d1, d2] => { results := [.lit (.bool true)], args := [d1, d2] }
  | _ => none }
def fnValidRow : OpenClaim := { program := "ytdhibalpnccbiaa", sum := "2e11c554dc7f7fbd924f44d057162eee64c0b28f1cd739846279632166c3132a", func := "loop.example/pub-modulesandtoolchains/laws.FnValid", spec := "fnValid", apart := false }
def FnValidSaid : Prop := fnValidRow.holds Try.pinned (OpenSpec.ofChange fnValidSpec)

/-- ITS FALSE NEIGHBOUR: 'it returns false'. Refute it at one input. -/
def fnValidWrong : ChangeSpec := { name := "fnValid", fn := fun _ => fun
  | [d1, d2] => { results := [.lit (.bool false)], args := [d1, d2] }
  | _ => none }
def FnValidWrongFalsely : Prop := fnValidRow.holds Try.pinned (OpenSpec.ofChange fnValidWrong)

/-- 'laws.FnModPrerelease': WHATEVER THE INPUT: true; the input reads as it did. -/
def fnModPrereleaseSpec : ChangeSpec := { name := "fnModPrerelease", fn := fun _ => fun
  | [d1, d2] => { results := [.lit (.bool true)], args := [d1, d2] }
  | _ => none }
def fnModPrereleaseRow : OpenClaim := { program := "ytdhibalpnccbiaa", sum := "2e11c554dc7f7fbd924f44d057162eee64c0b28f1cd739846279632166c3132a", func := "loop.example/pub-modulesandtoolchains/laws.FnModPrerelease", spec := "fnModPrerelease", apart := false }
def FnModPrereleaseSaid : Prop := fnModPrereleaseRow.holds Try.pinned (OpenSpec.ofChange fnModPrereleaseSpec)

/-- ITS FALSE NEIGHBOUR: 'it returns false'. Refute it at one input. -/
def fnModPrereleaseWrong : ChangeSpec := { name := "fnModPrerelease", fn := fun _ => fun
  | [d1, d2] => { results := [.lit (.bool false)], args := [d1, d2] }
  | _ => none }
def FnModPrereleaseWrongFalsely : Prop := fnModPrereleaseRow.holds Try.pinned (OpenSpec.ofChange fnModPrereleaseWrong)

/-- 'laws.FnMajorMinor': WHATEVER THE INPUT: true; the input reads as it did. -/
def fnMajorMinorSpec : ChangeSpec := { name := "fnMajorMinor", fn := fun _ => fun
  | [d1, d2] => { results := [.lit (.bool true)], args := [d1, d2] }
  | _ => none }
def fnMajorMinorRow : OpenClaim := { program := "ytdhibalpnccbiaa", sum := "2e11c554dc7f7fbd924f44d057162eee64c0b28f1cd739846279632166c3132a", func := "loop.example/pub-modulesandtoolchains/laws.FnMajorMinor", spec := "fnMajorMinor", apart := false }
def FnMajorMinorSaid : Prop := fnMajorMinorRow.holds Try.pinned (OpenSpec.ofChange fnMajorMinorSpec)

/-- ITS FALSE NEIGHBOUR: 'it returns false'. Refute it at one input. -/
def fnMajorMinorWrong : ChangeSpec := { name := "fnMajorMinor", fn := fun _ => fun
  | [d1, d2] => { results := [.lit (.bool false)], args := [d1, d2] }
  | _ => none }
def FnMajorMinorWrongFalsely : Prop := fnMajorMinorRow.holds Try.pinned (OpenSpec.ofChange fnMajorMinorWrong)

/-- 'laws.FnCompareGo': WHATEVER THE INPUT: true; the input reads as it did. -/
def fnCompareGoSpec : ChangeSpec := { name := "fnCompareGo", fn := fun _ => fun
  | [d1, d2] => { results := [.lit (.bool true)], args := [d1, d2] }
  | _ => none }
def fnCompareGoRow : OpenClaim := { program := "ytdhibalpnccbiaa", sum := "2e11c554dc7f7fbd924f44d057162eee64c0b28f1cd739846279632166c3132a", func := "loop.example/pub-modulesandtoolchains/laws.FnCompareGo", spec := "fnCompareGo", apart := false }
def FnCompareGoSaid : Prop := fnCompareGoRow.holds Try.pinned (OpenSpec.ofChange fnCompareGoSpec)

/-- ITS FALSE NEIGHBOUR: 'it returns false'. Refute it at one input. -/
def fnCompareGoWrong : ChangeSpec := { name := "fnCompareGo", fn := fun _ => fun
  | [d1, d2] => { results := [.lit (.bool false)], args := [d1, d2] }
  | _ => none }
def FnCompareGoWrongFalsely : Prop := fnCompareGoRow.holds Try.pinned (OpenSpec.ofChange fnCompareGoWrong)

/-- 'laws.FnCompareOther': WHATEVER THE INPUT: true; the input reads as it did. -/
def fnCompareOtherSpec : ChangeSpec := { name := "fnCompareOther", fn := fun _ => fun
  | [d1, d2, d3] => { results := [.lit (.bool true)], args := [d1, d2, d3] }
  | _ => none }
def fnCompareOtherRow : OpenClaim := { program := "ytdhibalpnccbiaa", sum := "2e11c554dc7f7fbd924f44d057162eee64c0b28f1cd739846279632166c3132a", func := "loop.example/pub-modulesandtoolchains/laws.FnCompareOther", spec := "fnCompareOther", apart := false }
def FnCompareOtherSaid : Prop := fnCompareOtherRow.holds Try.pinned (OpenSpec.ofChange fnCompareOtherSpec)

/-- ITS FALSE NEIGHBOUR: 'it returns false'. Refute it at one input. -/
def fnCompareOtherWrong : ChangeSpec := { name := "fnCompareOther", fn := fun _ => fun
  | [d1, d2, d3] => { results := [.lit (.bool false)], args := [d1, d2, d3] }
  | _ => none }
def FnCompareOtherWrongFalsely : Prop := fnCompareOtherRow.holds Try.pinned (OpenSpec.ofChange fnCompareOtherWrong)

/-- 'laws.FnCompareToolchain': WHATEVER THE INPUT: true; the input reads as it did. -/
def fnCompareToolchainSpec : ChangeSpec := { name := "fnCompareToolchain", fn := fun _ => fun
  | [d1, d2] => { results := [.lit (.bool true)], args := [d1, d2] }
  | _ => none }
def fnCompareToolchainRow : OpenClaim := { program := "ytdhibalpnccbiaa", sum := "2e11c554dc7f7fbd924f44d057162eee64c0b28f1cd739846279632166c3132a", func := "loop.example/pub-modulesandtoolchains/laws.FnCompareToolchain", spec := "fnCompareToolchain", apart := false }
def FnCompareToolchainSaid : Prop := fnCompareToolchainRow.holds Try.pinned (OpenSpec.ofChange fnCompareToolchainSpec)

/-- ITS FALSE NEIGHBOUR: 'it returns false'. Refute it at one input. -/
def fnCompareToolchainWrong : ChangeSpec := { name := "fnCompareToolchain", fn := fun _ => fun
  | [d1, d2] => { results := [.lit (.bool false)], args := [d1, d2] }
  | _ => none }
def FnCompareToolchainWrongFalsely : Prop := fnCompareToolchainRow.holds Try.pinned (OpenSpec.ofChange fnCompareToolchainWrong)

/-- 'laws.FnCompareBack': WHATEVER THE INPUT: true; the input reads as it did. -/
def fnCompareBackSpec : ChangeSpec := { name := "fnCompareBack", fn := fun _ => fun
  | [d1, d2, d3] => { results := [.lit (.bool true)], args := [d1, d2, d3] }
  | _ => none }
def fnCompareBackRow : OpenClaim := { program := "ytdhibalpnccbiaa", sum := "2e11c554dc7f7fbd924f44d057162eee64c0b28f1cd739846279632166c3132a", func := "loop.example/pub-modulesandtoolchains/laws.FnCompareBack", spec := "fnCompareBack", apart := false }
def FnCompareBackSaid : Prop := fnCompareBackRow.holds Try.pinned (OpenSpec.ofChange fnCompareBackSpec)

/-- ITS FALSE NEIGHBOUR: 'it returns false'. Refute it at one input. -/
def fnCompareBackWrong : ChangeSpec := { name := "fnCompareBack", fn := fun _ => fun
  | [d1, d2, d3] => { results := [.lit (.bool false)], args := [d1, d2, d3] }
  | _ => none }
def FnCompareBackWrongFalsely : Prop := fnCompareBackRow.holds Try.pinned (OpenSpec.ofChange fnCompareBackWrong)

/-- 'laws.FnCompareThree': WHATEVER THE INPUT: true; the input reads as it did. -/
def fnCompareThreeSpec : ChangeSpec := { name := "fnCompareThree", fn := fun _ => fun
  | [d1, d2, d3, d4] => { results := [.lit (.bool true)], args := [d1, d2, d3, d4] }
  | _ => none }
def fnCompareThreeRow : OpenClaim := { program := "ytdhibalpnccbiaa", sum := "2e11c554dc7f7fbd924f44d057162eee64c0b28f1cd739846279632166c3132a", func := "loop.example/pub-modulesandtoolchains/laws.FnCompareThree", spec := "fnCompareThree", apart := false }
def FnCompareThreeSaid : Prop := fnCompareThreeRow.holds Try.pinned (OpenSpec.ofChange fnCompareThreeSpec)

/-- ITS FALSE NEIGHBOUR: 'it returns false'. Refute it at one input. -/
def fnCompareThreeWrong : ChangeSpec := { name := "fnCompareThree", fn := fun _ => fun
  | [d1, d2, d3, d4] => { results := [.lit (.bool false)], args := [d1, d2, d3, d4] }
  | _ => none }
def FnCompareThreeWrongFalsely : Prop := fnCompareThreeRow.holds Try.pinned (OpenSpec.ofChange fnCompareThreeWrong)

/-- 'laws.FnRelease': WHATEVER THE INPUT: true; the input reads as it did. -/
def fnReleaseSpec : ChangeSpec := { name := "fnRelease", fn := fun _ => fun
  | [d1, d2] => { results := [.lit (.bool true)], args := [d1, d2] }
  | _ => none }
def fnReleaseRow : OpenClaim := { program := "ytdhibalpnccbiaa", sum := "2e11c554dc7f7fbd924f44d057162eee64c0b28f1cd739846279632166c3132a", func := "loop.example/pub-modulesandtoolchains/laws.FnRelease", spec := "fnRelease", apart := false }
def FnReleaseSaid : Prop := fnReleaseRow.holds Try.pinned (OpenSpec.ofChange fnReleaseSpec)

/-- ITS FALSE NEIGHBOUR: 'it returns false'. Refute it at one input. -/
def fnReleaseWrong : ChangeSpec := { name := "fnRelease", fn := fun _ => fun
  | [d1, d2] => { results := [.lit (.bool false)], args := [d1, d2] }
  | _ => none }
def FnReleaseWrongFalsely : Prop := fnReleaseRow.holds Try.pinned (OpenSpec.ofChange fnReleaseWrong)

/-- 'laws.FnPrevLess': WHATEVER THE INPUT: true; the input reads as it did. -/
def fnPrevLessSpec : ChangeSpec := { name := "fnPrevLess", fn := fun _ => fun
  | [d1, d2] => { results := [.lit (.bool true)], args := [d1, d2] }
  | _ => none }
def fnPrevLessRow : OpenClaim := { program := "ytdhibalpnccbiaa", sum := "2e11c554dc7f7fbd924f44d057162eee64c0b28f1cd739846279632166c3132a", func := "loop.example/pub-modulesandtoolchains/laws.FnPrevLess", spec := "fnPrevLess", apart := false }
def FnPrevLessSaid : Prop := fnPrevLessRow.holds Try.pinned (OpenSpec.ofChange fnPrevLessSpec)

/-- ITS FALSE NEIGHBOUR: 'it returns false'. Refute it at one input. -/
def fnPrevLessWrong : ChangeSpec := { name := "fnPrevLess", fn := fun _ => fun
  | [d1, d2] => { results := [.lit (.bool false)], args := [d1, d2] }
  | _ => none }
def FnPrevLessWrongFalsely : Prop := fnPrevLessRow.holds Try.pinned (OpenSpec.ofChange fnPrevLessWrong)

/-- 'laws.FnMajorMinorLess': WHATEVER THE INPUT: true; the input reads as it did. -/
def fnMajorMinorLessSpec : ChangeSpec := { name := "fnMajorMinorLess", fn := fun _ => fun
  | [d1, d2] => { results := [.lit (.bool true)], args := [d1, d2] }
  | _ => none }
def fnMajorMinorLessRow : OpenClaim := { program := "ytdhibalpnccbiaa", sum := "2e11c554dc7f7fbd924f44d057162eee64c0b28f1cd739846279632166c3132a", func := "loop.example/pub-modulesandtoolchains/laws.FnMajorMinorLess", spec := "fnMajorMinorLess", apart := false }
def FnMajorMinorLessSaid : Prop := fnMajorMinorLessRow.holds Try.pinned (OpenSpec.ofChange fnMajorMinorLessSpec)

/-- ITS FALSE NEIGHBOUR: 'it returns false'. Refute it at one input. -/
def fnMajorMinorLessWrong : ChangeSpec := { name := "fnMajorMinorLess", fn := fun _ => fun
  | [d1, d2] => { results := [.lit (.bool false)], args := [d1, d2] }
  | _ => none }
def FnMajorMinorLessWrongFalsely : Prop := fnMajorMinorLessRow.holds Try.pinned (OpenSpec.ofChange fnMajorMinorLessWrong)

/-- 'laws.FnSort': WHATEVER THE INPUT: true; the input reads as it did. -/
def fnSortSpec : ChangeSpec := { name := "fnSort", fn := fun _ => fun
  | [d] => { results := [.lit (.bool true)], args := [d] }
  | _ => none }
def fnSortRow : OpenClaim := { program := "ytdhibalpnccbiaa", sum := "2e11c554dc7f7fbd924f44d057162eee64c0b28f1cd739846279632166c3132a", func := "loop.example/pub-modulesandtoolchains/laws.FnSort", spec := "fnSort", inPlace := ["internal/reflectlite.ValueOf", "internal/reflectlite.Swapper", "(internal/reflectlite.Value).Len"], unfollowed := true, recurses := true, apart := false }
def FnSortSaid : Prop := fnSortRow.holds Try.pinned (OpenSpec.ofChange fnSortSpec)

/-- ITS FALSE NEIGHBOUR: 'it returns false'. Refute it at one input. -/
def fnSortWrong : ChangeSpec := { name := "fnSort", fn := fun _ => fun
  | [d] => { results := [.lit (.bool false)], args := [d] }
  | _ => none }
def FnSortWrongFalsely : Prop := fnSortRow.holds Try.pinned (OpenSpec.ofChange fnSortWrong)

/- THE SECOND FORM. 'bulk': how many values and letters a reading holds, each counted each time it is reached (what is shared counts as often as it is met; a slice's spare places count too). A statement '..UptoSaid' is the law's where the arguments, and the package variables that the reading takes, are together of bulk at most 1048576: NARROWER than '..Said'. Prove '..Said' where nothing that the law and all that it calls make is longer than what came in: it says more and counts as full. Else prove '..UptoSaid'. A law counts once. -/
mutual
def uptoBulk {H : Type} : DataW H → Nat
  | .lit (.string bytes) => bytes.length + 1
  | .lit _ => 1
  | .nil => 1
  | .ptr d => uptoBulk d + 1
  | .slice elems spare => uptoBulkAll elems + uptoBulkAll spare + 1
  | .agg parts => uptoBulkAll parts + 1
  | .iface _ d => uptoBulk d + 1
  | .map entries => uptoBulkEntries entries + 1
  | .held _ => 1
def uptoBulkAll {H : Type} : List (DataW H) → Nat
  | [] => 0
  | d :: r => uptoBulk d + uptoBulkAll r
def uptoBulkEntries {H : Type} : List (Lit × DataW H) → Nat
  | [] => 0
  | x :: r => uptoBulkEntry x + uptoBulkEntries r
def uptoBulkEntry {H : Type} : Lit × DataW H → Nat
  | (.string bytes, d) => bytes.length + uptoBulk d + 1
  | (_, d) => uptoBulk d + 1
 end
def uptoSmall : (H : Type) → List (DataW H) → Bool := fun _ ds => decide (uptoBulkAll ds ≤ 1048576)
def OpenSpec.upto (s : _root_.Go.ChangeSpec) : _root_.Go.OpenSpec := { _root_.Go.OpenSpec.ofChange s with cond := some uptoSmall }

/-- 'laws.FnIsToolchain', WHERE WHAT IT READS IS OF BULK AT MOST 1048576: true; the input reads as it did. -/
def fnIsToolchainUptoRow : OpenClaim := { program := "ytdhibalpnccbiaa", sum := "2e11c554dc7f7fbd924f44d057162eee64c0b28f1cd739846279632166c3132a", func := "loop.example/pub-modulesandtoolchains/laws.FnIsToolchain", spec := "fnIsToolchain", apart := false, narrowed := true }
def FnIsToolchainUptoSaid : Prop := fnIsToolchainUptoRow.holds Try.pinned (OpenSpec.upto fnIsToolchainSpec)

/-- 'laws.FnIsPrerelease', WHERE WHAT IT READS IS OF BULK AT MOST 1048576: true; the input reads as it did. -/
def fnIsPrereleaseUptoRow : OpenClaim := { program := "ytdhibalpnccbiaa", sum := "2e11c554dc7f7fbd924f44d057162eee64c0b28f1cd739846279632166c3132a", func := "loop.example/pub-modulesandtoolchains/laws.FnIsPrerelease", spec := "fnIsPrerelease", apart := false, narrowed := true }
def FnIsPrereleaseUptoSaid : Prop := fnIsPrereleaseUptoRow.holds Try.pinned (OpenSpec.upto fnIsPrereleaseSpec)

/-- 'laws.FnPrev', WHERE WHAT IT READS IS OF BULK AT MOST 1048576: true; the input reads as it did. -/
def fnPrevUptoRow : OpenClaim := { program := "ytdhibalpnccbiaa", sum := "2e11c554dc7f7fbd924f44d057162eee64c0b28f1cd739846279632166c3132a", func := "loop.example/pub-modulesandtoolchains/laws.FnPrev", spec := "fnPrev", apart := false, narrowed := true }
def FnPrevUptoSaid : Prop := fnPrevUptoRow.holds Try.pinned (OpenSpec.upto fnPrevSpec)

/-- 'laws.FnFromToolchain', WHERE WHAT IT READS IS OF BULK AT MOST 1048576: true; the input reads as it did. -/
def fnFromToolchainUptoRow : OpenClaim := { program := "ytdhibalpnccbiaa", sum := "2e11c554dc7f7fbd924f44d057162eee64c0b28f1cd739846279632166c3132a", func := "loop.example/pub-modulesandtoolchains/laws.FnFromToolchain", spec := "fnFromToolchain", apart := false, narrowed := true }
def FnFromToolchainUptoSaid : Prop := fnFromToolchainUptoRow.holds Try.pinned (OpenSpec.upto fnFromToolchainSpec)

/-- 'laws.FnNamed', WHERE WHAT IT READS IS OF BULK AT MOST 1048576: true; the input reads as it did. -/
def fnNamedUptoRow : OpenClaim := { program := "ytdhibalpnccbiaa", sum := "2e11c554dc7f7fbd924f44d057162eee64c0b28f1cd739846279632166c3132a", func := "loop.example/pub-modulesandtoolchains/laws.FnNamed", spec := "fnNamed", apart := false, narrowed := true }
def FnNamedUptoSaid : Prop := fnNamedUptoRow.holds Try.pinned (OpenSpec.upto fnNamedSpec)

/-- 'laws.FnPrefix', WHERE WHAT IT READS IS OF BULK AT MOST 1048576: true; the input reads as it did. -/
def fnPrefixUptoRow : OpenClaim := { program := "ytdhibalpnccbiaa", sum := "2e11c554dc7f7fbd924f44d057162eee64c0b28f1cd739846279632166c3132a", func := "loop.example/pub-modulesandtoolchains/laws.FnPrefix", spec := "fnPrefix", apart := false, narrowed := true }
def FnPrefixUptoSaid : Prop := fnPrefixUptoRow.holds Try.pinned (OpenSpec.upto fnPrefixSpec)

/-- 'laws.FnValid', WHERE WHAT IT READS IS OF BULK AT MOST 1048576: true; the input reads as it did. -/
def fnValidUptoRow : OpenClaim := { program := "ytdhibalpnccbiaa", sum := "2e11c554dc7f7fbd924f44d057162eee64c0b28f1cd739846279632166c3132a", func := "loop.example/pub-modulesandtoolchains/laws.FnValid", spec := "fnValid", apart := false, narrowed := true }
def FnValidUptoSaid : Prop := fnValidUptoRow.holds Try.pinned (OpenSpec.upto fnValidSpec)

/-- 'laws.FnModPrerelease', WHERE WHAT IT READS IS OF BULK AT MOST 1048576: true; the input reads as it did. -/
def fnModPrereleaseUptoRow : OpenClaim := { program := "ytdhibalpnccbiaa", sum := "2e11c554dc7f7fbd924f44d057162eee64c0b28f1cd739846279632166c3132a", func := "loop.example/pub-modulesandtoolchains/laws.FnModPrerelease", spec := "fnModPrerelease", apart := false, narrowed := true }
def FnModPrereleaseUptoSaid : Prop := fnModPrereleaseUptoRow.holds Try.pinned (OpenSpec.upto fnModPrereleaseSpec)

/-- 'laws.FnMajorMinor', WHERE WHAT IT READS IS OF BULK AT MOST 1048576: true; the input reads as it did. -/
def fnMajorMinorUptoRow : OpenClaim := { program := "ytdhibalpnccbiaa", sum := "2e11c554dc7f7fbd924f44d057162eee64c0b28f1cd739846279632166c3132a", func := "loop.example/pub-modulesandtoolchains/laws.FnMajorMinor", spec := "fnMajorMinor", apart := false, narrowed := true }
def FnMajorMinorUptoSaid : Prop := fnMajorMinorUptoRow.holds Try.pinned (OpenSpec.upto fnMajorMinorSpec)

/-- 'laws.FnCompareGo', WHERE WHAT IT READS IS OF BULK AT MOST 1048576: true; the input reads as it did. -/
def fnCompareGoUptoRow : OpenClaim := { program := "ytdhibalpnccbiaa", sum := "2e11c554dc7f7fbd924f44d057162eee64c0b28f1cd739846279632166c3132a", func := "loop.example/pub-modulesandtoolchains/laws.FnCompareGo", spec := "fnCompareGo", apart := false, narrowed := true }
def FnCompareGoUptoSaid : Prop := fnCompareGoUptoRow.holds Try.pinned (OpenSpec.upto fnCompareGoSpec)

/-- 'laws.FnCompareOther', WHERE WHAT IT READS IS OF BULK AT MOST 1048576: true; the input reads as it did. -/
def fnCompareOtherUptoRow : OpenClaim := { program := "ytdhibalpnccbiaa", sum := "2e11c554dc7f7fbd924f44d057162eee64c0b28f1cd739846279632166c3132a", func := "loop.example/pub-modulesandtoolchains/laws.FnCompareOther", spec := "fnCompareOther", apart := false, narrowed := true }
def FnCompareOtherUptoSaid : Prop := fnCompareOtherUptoRow.holds Try.pinned (OpenSpec.upto fnCompareOtherSpec)

/-- 'laws.FnCompareToolchain', WHERE WHAT IT READS IS OF BULK AT MOST 1048576: true; the input reads as it did. -/
def fnCompareToolchainUptoRow : OpenClaim := { program := "ytdhibalpnccbiaa", sum := "2e11c554dc7f7fbd924f44d057162eee64c0b28f1cd739846279632166c3132a", func := "loop.example/pub-modulesandtoolchains/laws.FnCompareToolchain", spec := "fnCompareToolchain", apart := false, narrowed := true }
def FnCompareToolchainUptoSaid : Prop := fnCompareToolchainUptoRow.holds Try.pinned (OpenSpec.upto fnCompareToolchainSpec)

/-- 'laws.FnCompareBack', WHERE WHAT IT READS IS OF BULK AT MOST 1048576: true; the input reads as it did. -/
def fnCompareBackUptoRow : OpenClaim := { program := "ytdhibalpnccbiaa", sum := "2e11c554dc7f7fbd924f44d057162eee64c0b28f1cd739846279632166c3132a", func := "loop.example/pub-modulesandtoolchains/laws.FnCompareBack", spec := "fnCompareBack", apart := false, narrowed := true }
def FnCompareBackUptoSaid : Prop := fnCompareBackUptoRow.holds Try.pinned (OpenSpec.upto fnCompareBackSpec)

/-- 'laws.FnCompareThree', WHERE WHAT IT READS IS OF BULK AT MOST 1048576: true; the input reads as it did. -/
def fnCompareThreeUptoRow : OpenClaim := { program := "ytdhibalpnccbiaa", sum := "2e11c554dc7f7fbd924f44d057162eee64c0b28f1cd739846279632166c3132a", func := "loop.example/pub-modulesandtoolchains/laws.FnCompareThree", spec := "fnCompareThree", apart := false, narrowed := true }
def FnCompareThreeUptoSaid : Prop := fnCompareThreeUptoRow.holds Try.pinned (OpenSpec.upto fnCompareThreeSpec)

/-- 'laws.FnRelease', WHERE WHAT IT READS IS OF BULK AT MOST 1048576: true; the input reads as it did. -/
def fnReleaseUptoRow : OpenClaim := { program := "ytdhibalpnccbiaa", sum := "2e11c554dc7f7fbd924f44d057162eee64c0b28f1cd739846279632166c3132a", func := "loop.example/pub-modulesandtoolchains/laws.FnRelease", spec := "fnRelease", apart := false, narrowed := true }
def FnReleaseUptoSaid : Prop := fnReleaseUptoRow.holds Try.pinned (OpenSpec.upto fnReleaseSpec)

/-- 'laws.FnPrevLess', WHERE WHAT IT READS IS OF BULK AT MOST 1048576: true; the input reads as it did. -/
def fnPrevLessUptoRow : OpenClaim := { program := "ytdhibalpnccbiaa", sum := "2e11c554dc7f7fbd924f44d057162eee64c0b28f1cd739846279632166c3132a", func := "loop.example/pub-modulesandtoolchains/laws.FnPrevLess", spec := "fnPrevLess", apart := false, narrowed := true }
def FnPrevLessUptoSaid : Prop := fnPrevLessUptoRow.holds Try.pinned (OpenSpec.upto fnPrevLessSpec)

/-- 'laws.FnMajorMinorLess', WHERE WHAT IT READS IS OF BULK AT MOST 1048576: true; the input reads as it did. -/
def fnMajorMinorLessUptoRow : OpenClaim := { program := "ytdhibalpnccbiaa", sum := "2e11c554dc7f7fbd924f44d057162eee64c0b28f1cd739846279632166c3132a", func := "loop.example/pub-modulesandtoolchains/laws.FnMajorMinorLess", spec := "fnMajorMinorLess", apart := false, narrowed := true }
def FnMajorMinorLessUptoSaid : Prop := fnMajorMinorLessUptoRow.holds Try.pinned (OpenSpec.upto fnMajorMinorLessSpec)

/-- 'laws.FnSort', WHERE WHAT IT READS IS OF BULK AT MOST 1048576: true; the input reads as it did. -/
def fnSortUptoRow : OpenClaim := { program := "ytdhibalpnccbiaa", sum := "2e11c554dc7f7fbd924f44d057162eee64c0b28f1cd739846279632166c3132a", func := "loop.example/pub-modulesandtoolchains/laws.FnSort", spec := "fnSort", inPlace := ["internal/reflectlite.ValueOf", "internal/reflectlite.Swapper", "(internal/reflectlite.Value).Len"], unfollowed := true, recurses := true, apart := false, narrowed := true }
def FnSortUptoSaid : Prop := fnSortUptoRow.holds Try.pinned (OpenSpec.upto fnSortSpec)

end Rows
end Go.Proofs.Ytdhibalpnccbiaa
