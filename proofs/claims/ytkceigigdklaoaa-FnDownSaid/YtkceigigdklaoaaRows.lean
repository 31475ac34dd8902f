/-
  No cell of these rows narrows 'for every input' (looked for: loops, veiled, ifaces, maps, wideKeys, modest, calm, conditions, laid).
  DERIVED. THE GIVEN ROWS OF THIS SEAT. 13 by the template 'for every input the law returns true; each argument reads behind the call as it read before'; 0 by the template 'total and deterministic' (their statements: YtkceigigdklaoaaTotals.lean).
  GIVEN WITH THE SEED: the statements are not yours to turn. If you find one false, say at which input.
  Laid BY PROGRAM, IN A SANDBOX (cutbox-rows.mjs): the forced cells as the released guide's own fill.sh prints them over the translation 22c95acf9b825da7… (all of the seat's roots in one cut). By AI agents, Wed Nov 11 2026. No macro, syntax, notation, axiom, sorry.
-/
import Derived.Test.YtkceigigdklaoaaChecked
import GoSem.Claim
import GoSem.ClaimJoined
import GoSem.ClaimMapViews
import Derived.JoinedTies
import Derived.KernelRfl
namespace Go.Proofs.Ytkceigigdklaoaa
/- THE CELL 'sum', in the pinned program and in every row, IS THE sha256 OF THE DUMP (.gsa) THAT YtkceigigdklaoaaProg.lean LOADS. Nothing in Lean hashes anything: it is a label: what it is worth is what the hold of that sum in a sandbox is worth. -/
noncomputable def Try.pinned : Pinned := { name := "ytkceigigdklaoaa", sum := "22c95acf9b825da72026db17c96a161af84296b76c62f8f10e0c1a92e54b4ea5", checked := Try.checked }
namespace Rows
def none {H : Type} : Left H := { results := [], args := [] }

/-- 'laws.FnExactUp': WHATEVER THE INPUT: true; the input reads as it did. -/
def fnExactUpSpec : ChangeSpec := { name := "fnExactUp", fn := fun _ => fun
  | [d1, d2] => { results := [.lit (.bool true)], args := [d1, d2] }
  | _ => none }
def fnExactUpRow : OpenClaim := { program := "ytkceigigdklaoaa", sum := "22c95acf9b825da72026db17c96a161af84296b76c62f8f10e0c1a92e54b4ea5", func := "loop.example/pub-heapmoves/laws.FnExactUp", spec := "fnExactUp", unfollowed := true, recurses := true, apart := false }
def FnExactUpSaid : Prop := fnExactUpRow.holds Try.pinned (OpenSpec.ofChange fnExactUpSpec)

/-- ITS FALSE NEIGHBOUR: 'it returns false'. Refute it at one input. -/
def fnExactUpWrong : ChangeSpec := { name := "fnExactUp", fn := fun _ => fun
  | [d1, d2] => { results := [.lit (.bool false)], args := [d1, d2] }
  | _ => none }
def FnExactUpWrongFalsely : Prop := fnExactUpRow.holds Try.pinned (OpenSpec.ofChange fnExactUpWrong)

/-- 'laws.FnInitAgain': WHATEVER THE INPUT: true; the input reads as it did. -/
def fnInitAgainSpec : ChangeSpec := { name := "fnInitAgain", fn := fun _ => fun
  | [d] => { results := [.lit (.bool true)], args := [d] }
  | _ => none }
def fnInitAgainRow : OpenClaim := { program := "ytkceigigdklaoaa", sum := "22c95acf9b825da72026db17c96a161af84296b76c62f8f10e0c1a92e54b4ea5", func := "loop.example/pub-heapmoves/laws.FnInitAgain", spec := "fnInitAgain", unfollowed := true, recurses := true, apart := false }
def FnInitAgainSaid : Prop := fnInitAgainRow.holds Try.pinned (OpenSpec.ofChange fnInitAgainSpec)

/-- ITS FALSE NEIGHBOUR: 'it returns false'. Refute it at one input. -/
def fnInitAgainWrong : ChangeSpec := { name := "fnInitAgain", fn := fun _ => fun
  | [d] => { results := [.lit (.bool false)], args := [d] }
  | _ => none }
def FnInitAgainWrongFalsely : Prop := fnInitAgainRow.holds Try.pinned (OpenSpec.ofChange fnInitAgainWrong)

/-- 'laws.FnExactDown': WHATEVER THE INPUT: true; the input reads as it did. -/
def fnExactDownSpec : ChangeSpec := { name := "fnExactDown", fn := fun _ => fun
  | [d1, d2, d3] => { results := [.lit (.bool true)], args := [d1, d2, d3] }
  | _ => none }
def fnExactDownRow : OpenClaim := { program := "ytkceigigdklaoaa", sum := "22c95acf9b825da72026db17c96a161af84296b76c62f8f10e0c1a92e54b4ea5", func := "loop.example/pub-heapmoves/laws.FnExactDown", spec := "fnExactDown", unfollowed := true, recurses := true, apart := false }
def FnExactDownSaid : Prop := fnExactDownRow.holds Try.pinned (OpenSpec.ofChange fnExactDownSpec)

/-- ITS FALSE NEIGHBOUR: 'it returns false'. Refute it at one input. -/
def fnExactDownWrong : ChangeSpec := { name := "fnExactDown", fn := fun _ => fun
  | [d1, d2, d3] => { results := [.lit (.bool false)], args := [d1, d2, d3] }
  | _ => none }
def FnExactDownWrongFalsely : Prop := fnExactDownRow.holds Try.pinned (OpenSpec.ofChange fnExactDownWrong)

/-- 'laws.FnPopRemove': WHATEVER THE INPUT: true; the input reads as it did. -/
def fnPopRemoveSpec : ChangeSpec := { name := "fnPopRemove", fn := fun _ => fun
  | [d] => { results := [.lit (.bool true)], args := [d] }
  | _ => none }
def fnPopRemoveRow : OpenClaim := { program := "ytkceigigdklaoaa", sum := "22c95acf9b825da72026db17c96a161af84296b76c62f8f10e0c1a92e54b4ea5", func := "loop.example/pub-heapmoves/laws.FnPopRemove", spec := "fnPopRemove", unfollowed := true, recurses := true, apart := false }
def FnPopRemoveSaid : Prop := fnPopRemoveRow.holds Try.pinned (OpenSpec.ofChange fnPopRemoveSpec)

/-- ITS FALSE NEIGHBOUR: 'it returns false'. Refute it at one input. -/
def fnPopRemoveWrong : ChangeSpec := { name := "fnPopRemove", fn := fun _ => fun
  | [d] => { results := [.lit (.bool false)], args := [d] }
  | _ => none }
def FnPopRemoveWrongFalsely : Prop := fnPopRemoveRow.holds Try.pinned (OpenSpec.ofChange fnPopRemoveWrong)

/-- 'laws.FnUp': WHATEVER THE INPUT: true; the input reads as it did. -/
def fnUpSpec : ChangeSpec := { name := "fnUp", fn := fun _ => fun
  | [d1, d2] => { results := [.lit (.bool true)], args := [d1, d2] }
  | _ => none }
def fnUpRow : OpenClaim := { program := "ytkceigigdklaoaa", sum := "22c95acf9b825da72026db17c96a161af84296b76c62f8f10e0c1a92e54b4ea5", func := "loop.example/pub-heapmoves/laws.FnUp", spec := "fnUp", unfollowed := true, recurses := true, apart := false }
def FnUpSaid : Prop := fnUpRow.holds Try.pinned (OpenSpec.ofChange fnUpSpec)

/-- ITS FALSE NEIGHBOUR: 'it returns false'. Refute it at one input. -/
def fnUpWrong : ChangeSpec := { name := "fnUp", fn := fun _ => fun
  | [d1, d2] => { results := [.lit (.bool false)], args := [d1, d2] }
  | _ => none }
def FnUpWrongFalsely : Prop := fnUpRow.holds Try.pinned (OpenSpec.ofChange fnUpWrong)

/-- 'laws.FnPush': WHATEVER THE INPUT: true; the input reads as it did. -/
def fnPushSpec : ChangeSpec := { name := "fnPush", fn := fun _ => fun
  | [d1, d2] => { results := [.lit (.bool true)], args := [d1, d2] }
  | _ => none }
def fnPushRow : OpenClaim := { program := "ytkceigigdklaoaa", sum := "22c95acf9b825da72026db17c96a161af84296b76c62f8f10e0c1a92e54b4ea5", func := "loop.example/pub-heapmoves/laws.FnPush", spec := "fnPush", unfollowed := true, recurses := true, apart := false }
def FnPushSaid : Prop := fnPushRow.holds Try.pinned (OpenSpec.ofChange fnPushSpec)

/-- ITS FALSE NEIGHBOUR: 'it returns false'. Refute it at one input. -/
def fnPushWrong : ChangeSpec := { name := "fnPush", fn := fun _ => fun
  | [d1, d2] => { results := [.lit (.bool false)], args := [d1, d2] }
  | _ => none }
def FnPushWrongFalsely : Prop := fnPushRow.holds Try.pinned (OpenSpec.ofChange fnPushWrong)

/-- 'laws.FnDown': WHATEVER THE INPUT: true; the input reads as it did. -/
def fnDownSpec : ChangeSpec := { name := "fnDown", fn := fun _ => fun
  | [d1, d2, d3] => { results := [.lit (.bool true)], args := [d1, d2, d3] }
  | _ => none }
def fnDownRow : OpenClaim := { program := "ytkceigigdklaoaa", sum := "22c95acf9b825da72026db17c96a161af84296b76c62f8f10e0c1a92e54b4ea5", func := "loop.example/pub-heapmoves/laws.FnDown", spec := "fnDown", unfollowed := true, recurses := true, apart := false }
def FnDownSaid : Prop := fnDownRow.holds Try.pinned (OpenSpec.ofChange fnDownSpec)

/-- ITS FALSE NEIGHBOUR: 'it returns false'. Refute it at one input. -/
def fnDownWrong : ChangeSpec := { name := "fnDown", fn := fun _ => fun
  | [d1, d2, d3] => { results := [.lit (.bool false)], args := [d1, d2, d3] }
  | _ => none }
def FnDownWrongFalsely : Prop := fnDownRow.holds Try.pinned (OpenSpec.ofChange fnDownWrong)

/-- 'laws.FnInit': WHATEVER THE INPUT: true; the input reads as it did. -/
def fnInitSpec : ChangeSpec := { name := "fnInit", fn := fun _ => fun
  | [d] => { results := [.lit (.bool true)], args := [d] }
  | _ => none }
def fnInitRow : OpenClaim := { program := "ytkceigigdklaoaa", sum := "22c95acf9b825da72026db17c96a161af84296b76c62f8f10e0c1a92e54b4ea5", func := "loop.example/pub-heapmoves/laws.FnInit", spec := "fnInit", unfollowed := true, recurses := true, apart := false }
def FnInitSaid : Prop := fnInitRow.holds Try.pinned (OpenSpec.ofChange fnInitSpec)

/-- ITS FALSE NEIGHBOUR: 'it returns false'. Refute it at one input. -/
def fnInitWrong : ChangeSpec := { name := "fnInit", fn := fun _ => fun
  | [d] => { results := [.lit (.bool false)], args := [d] }
  | _ => none }
def FnInitWrongFalsely : Prop := fnInitRow.holds Try.pinned (OpenSpec.ofChange fnInitWrong)

/-- 'laws.FnFix': WHATEVER THE INPUT: true; the input reads as it did. -/
def fnFixSpec : ChangeSpec := { name := "fnFix", fn := fun _ => fun
  | [d1, d2, d3] => { results := [.lit (.bool true)], args := [d1, d2, d3] }
  | _ => none }
def fnFixRow : OpenClaim := { program := "ytkceigigdklaoaa", sum := "22c95acf9b825da72026db17c96a161af84296b76c62f8f10e0c1a92e54b4ea5", func := "loop.example/pub-heapmoves/laws.FnFix", spec := "fnFix", unfollowed := true, recurses := true, apart := false }
def FnFixSaid : Prop := fnFixRow.holds Try.pinned (OpenSpec.ofChange fnFixSpec)

/-- ITS FALSE NEIGHBOUR: 'it returns false'. Refute it at one input. -/
def fnFixWrong : ChangeSpec := { name := "fnFix", fn := fun _ => fun
  | [d1, d2, d3] => { results := [.lit (.bool false)], args := [d1, d2, d3] }
  | _ => none }
def FnFixWrongFalsely : Prop := fnFixRow.holds Try.pinned (OpenSpec.ofChange fnFixWrong)

/-- 'laws.FnPop': WHATEVER THE INPUT: true; the input reads as it did. -/
def fnPopSpec : ChangeSpec := { name := "fnPop", fn := fun _ => fun
  | [d] => { results := [.lit (.bool true)], args := [d] }
  | _ => none }
def fnPopRow : OpenClaim := { program := "ytkceigigdklaoaa", sum := "22c95acf9b825da72026db17c96a161af84296b76c62f8f10e0c1a92e54b4ea5", func := "loop.example/pub-heapmoves/laws.FnPop", spec := "fnPop", unfollowed := true, recurses := true, apart := false }
def FnPopSaid : Prop := fnPopRow.holds Try.pinned (OpenSpec.ofChange fnPopSpec)

/-- ITS FALSE NEIGHBOUR: 'it returns false'. Refute it at one input. -/
def fnPopWrong : ChangeSpec := { name := "fnPop", fn := fun _ => fun
  | [d] => { results := [.lit (.bool false)], args := [d] }
  | _ => none }
def FnPopWrongFalsely : Prop := fnPopRow.holds Try.pinned (OpenSpec.ofChange fnPopWrong)

/-- 'laws.FnSort': WHATEVER THE INPUT: true; the input reads as it did. -/
def fnSortSpec : ChangeSpec := { name := "fnSort", fn := fun _ => fun
  | [d] => { results := [.lit (.bool true)], args := [d] }
  | _ => none }
def fnSortRow : OpenClaim := { program := "ytkceigigdklaoaa", sum := "22c95acf9b825da72026db17c96a161af84296b76c62f8f10e0c1a92e54b4ea5", func := "loop.example/pub-heapmoves/laws.FnSort", spec := "fnSort", unfollowed := true, recurses := true, apart := false }
def FnSortSaid : Prop := fnSortRow.holds Try.pinned (OpenSpec.ofChange fnSortSpec)

/-- ITS FALSE NEIGHBOUR: 'it returns false'. Refute it at one input. -/
def fnSortWrong : ChangeSpec := { name := "fnSort", fn := fun _ => fun
  | [d] => { results := [.lit (.bool false)], args := [d] }
  | _ => none }
def FnSortWrongFalsely : Prop := fnSortRow.holds Try.pinned (OpenSpec.ofChange fnSortWrong)

/-- 'laws.FnRemove': WHATEVER THE INPUT: true; the input reads as it did. -/
def fnRemoveSpec : ChangeSpec := { name := "fnRemove", fn := fun _ => fun
  | [d1, d2] => { results := [.lit (.bool true)], args := [d1, d2] }
  | _ => none }
def fnRemoveRow : OpenClaim := { program := "ytkceigigdklaoaa", sum := "22c95acf9b825da72026db17c96a161af84296b76c62f8f10e0c1a92e54b4ea5", func := "loop.example/pub-heapmoves/laws.FnRemove", spec := "fnRemove", unfollowed := true, recurses := true, apart := false }
def FnRemoveSaid : Prop := fnRemoveRow.holds Try.pinned (OpenSpec.ofChange fnRemoveSpec)

/-- ITS FALSE NEIGHBOUR: 'it returns false'. Refute it at one input. -/
def fnRemoveWrong : ChangeSpec := { name := "fnRemove", fn := fun _ => fun
  | [d1, d2] => { results := [.lit (.bool false)], args := [d1, d2] }
  | _ => none }
def FnRemoveWrongFalsely : Prop := fnRemoveRow.holds Try.pinned (OpenSpec.ofChange fnRemoveWrong)

/-- 'laws.FnFixRemovePush': WHATEVER THE INPUT: true; the input reads as it did. -/
def fnFixRemovePushSpec : ChangeSpec := { name := "fnFixRemovePush", fn := fun _ => fun
  | [d1, d2, d3] => { results := [.lit (.bool true)], args := [d1, d2, d3] }
  | _ => none }
def fnFixRemovePushRow : OpenClaim := { program := "ytkceigigdklaoaa", sum := "22c95acf9b825da72026db17c96a161af84296b76c62f8f10e0c1a92e54b4ea5", func := "loop.example/pub-heapmoves/laws.FnFixRemovePush", spec := "fnFixRemovePush", unfollowed := true, recurses := true, apart := false }
def FnFixRemovePushSaid : Prop := fnFixRemovePushRow.holds Try.pinned (OpenSpec.ofChange fnFixRemovePushSpec)

/-- ITS FALSE NEIGHBOUR: 'it returns false'. Refute it at one input. -/
def fnFixRemovePushWrong : ChangeSpec := { name := "fnFixRemovePush", fn := fun _ => fun
  | [d1, d2, d3] => { results := [.lit (.bool false)], args := [d1, d2, d3] }
  | _ => none }
def FnFixRemovePushWrongFalsely : Prop := fnFixRemovePushRow.holds Try.pinned (OpenSpec.ofChange fnFixRemovePushWrong)

/- THE SECOND FORM. 'bulk': how many values and letters a reading holds, each counted each time it is reached (what is shared counts as often as it is met; a slice's spare places count too). A statement '..UptoSaid' is the law's where the arguments, and the package variables that the reading takes, are together of bulk at most 1048576: NARROWER than '..Said'. Prove '..Said' where nothing that the law and all that it calls make is longer than what came in: it says more and counts as full. Else prove '..UptoSaid'. A law counts once. -/
mutual
def uptoBulk {H : Type} : DataW H → Nat
  | .lit (.string bytes) => bytes.length + 1
  | .lit _ => 1
  | .nil => 1
  | .ptr d => uptoBulk d + 1
  | .slice elems spare => uptoBulkAll elems + uptoBulkAll spare + 1
  | .agg parts => uptoBulkAll parts + 1
  | .iface _ d => uptoBulk d + 1
  | .map entries => uptoBulkEntries entries + 1
  | .held _ => 1
def uptoBulkAll {H : Type} : List (DataW H) → Nat
  | [] => 0
  | d :: r => uptoBulk d + uptoBulkAll r
def uptoBulkEntries {H : Type} : List (Lit × DataW H) → Nat
  | [] => 0
  | x :: r => uptoBulkEntry x + uptoBulkEntries r
def uptoBulkEntry {H : Type} : Lit × DataW H → Nat
  | (.string bytes, d) => bytes.length + uptoBulk d + 1
  | (_, d) => uptoBulk d + 1
 end
def uptoSmall : (H : Type) → List (DataW H) → Bool := fun _ ds => decide (uptoBulkAll ds ≤ 1048576)
def OpenSpec.upto (s : _root_.Go.ChangeSpec) : _root_.Go.OpenSpec := { _root_.Go.OpenSpec.ofChange s with cond := some uptoSmall }

/-- 'laws.FnExactUp', WHERE WHAT IT READS IS OF BULK AT MOST 1048576: true; the input reads as it did. -/
def fnExactUpUptoRow : OpenClaim := { program := "ytkceigigdklaoaa", sum := "22c95acf9b825da72026db17c96a161af84296b76c62f8f10e0c1a92e54b4ea5", func := "loop.example/pub-heapmoves/laws.FnExactUp", spec := "fnExactUp", unfollowed := true, recurses := true, apart := false, narrowed := true }
def FnExactUpUptoSaid : Prop := fnExactUpUptoRow.holds Try.pinned (OpenSpec.upto fnExactUpSpec)

/-- 'laws.FnInitAgain', WHERE WHAT IT READS IS OF BULK AT MOST 1048576: true; the input reads as it did. -/
def fnInitAgainUptoRow : OpenClaim := { program := "ytkceigigdklaoaa", sum := "22c95acf9b825da72026db17c96a161af84296b76c62f8f10e0c1a92e54b4ea5", func := "loop.example/pub-heapmoves/laws.FnInitAgain", spec := "fnInitAgain", unfollowed := true, recurses := true, apart := false, narrowed := true }
def FnInitAgainUptoSaid : Prop := fnInitAgainUptoRow.holds Try.pinned (OpenSpec.upto fnInitAgainSpec)

/-- 'laws.FnExactDown', WHERE WHAT IT READS IS OF BULK AT MOST 1048576: true; the input reads as it did. -/
def fnExactDownUptoRow : OpenClaim := { program := "ytkceigigdklaoaa", sum := "22c95acf9b825da72026db17c96a161af84296b76c62f8f10e0c1a92e54b4ea5", func := "loop.example/pub-heapmoves/laws.FnExactDown", spec := "fnExactDown", unfollowed := true, recurses := true, apart := false, narrowed := true }
def FnExactDownUptoSaid : Prop := fnExactDownUptoRow.holds Try.pinned (OpenSpec.upto fnExactDownSpec)

/-- 'laws.FnPopRemove', WHERE WHAT IT READS IS OF BULK AT MOST 1048576: true; the input reads as it did. -/
def fnPopRemoveUptoRow : OpenClaim := { program := "ytkceigigdklaoaa", sum := "22c95acf9b825da72026db17c96a161af84296b76c62f8f10e0c1a92e54b4ea5", func := "loop.example/pub-heapmoves/laws.FnPopRemove", spec := "fnPopRemove", unfollowed := true, recurses := true, apart := false, narrowed := true }
def FnPopRemoveUptoSaid : Prop := fnPopRemoveUptoRow.holds Try.pinned (OpenSpec.upto fnPopRemoveSpec)

/-- 'laws.FnUp', WHERE WHAT IT READS IS OF BULK AT MOST 1048576: true; the input reads as it did. -/
def fnUpUptoRow : OpenClaim := { program := "ytkceigigdklaoaa", sum := "22c95acf9b825da72026db17c96a161af84296b76c62f8f10e0c1a92e54b4ea5", func := "loop.example/pub-heapmoves/laws.FnUp", spec := "fnUp", unfollowed := true, recurses := true, apart := false, narrowed := true }
def FnUpUptoSaid : Prop := fnUpUptoRow.holds Try.pinned (OpenSpec.upto fnUpSpec)

/-- 'laws.FnPush', WHERE WHAT IT READS IS OF BULK AT MOST 1048576: true; the input reads as it did. -/
def fnPushUptoRow : OpenClaim := { program := "ytkceigigdklaoaa", sum := "22c95acf9b825da72026db17c96a161af84296b76c62f8f10e0c1a92e54b4ea5", func := "loop.example/pub-heapmoves/laws.FnPush", spec := "fnPush", unfollowed := true, recurses := true, apart := false, narrowed := true }
def FnPushUptoSaid : Prop := fnPushUptoRow.holds Try.pinned (OpenSpec.upto fnPushSpec)

/-- 'laws.FnDown', WHERE WHAT IT READS IS OF BULK AT MOST 1048576: true; the input reads as it did. -/
def fnDownUptoRow : OpenClaim := { program := "ytkceigigdklaoaa", sum := "22c95acf9b825da72026db17c96a161af84296b76c62f8f10e0c1a92e54b4ea5", func := "loop.example/pub-heapmoves/laws.FnDown", spec := "fnDown", unfollowed := true, recurses := true, apart := false, narrowed := true }
def FnDownUptoSaid : Prop := fnDownUptoRow.holds Try.pinned (OpenSpec.upto fnDownSpec)

/-- 'laws.FnInit', WHERE WHAT IT READS IS OF BULK AT MOST 1048576: true; the input reads as it did. -/
def fnInitUptoRow : OpenClaim := { program := "ytkceigigdklaoaa", sum := "22c95acf9b825da72026db17c96a161af84296b76c62f8f10e0c1a92e54b4ea5", func := "loop.example/pub-heapmoves/laws.FnInit", spec := "fnInit", unfollowed := true, recurses := true, apart := false, narrowed := true }
def FnInitUptoSaid : Prop := fnInitUptoRow.holds Try.pinned (OpenSpec.upto fnInitSpec)

/-- 'laws.FnFix', WHERE WHAT IT READS IS OF BULK AT MOST 1048576: true; the input reads as it did. -/
def fnFixUptoRow : OpenClaim := { program := "ytkceigigdklaoaa", sum := "22c95acf9b825da72026db17c96a161af84296b76c62f8f10e0c1a92e54b4ea5", func := "loop.example/pub-heapmoves/laws.FnFix", spec := "fnFix", unfollowed := true, recurses := true, apart := false, narrowed := true }
def FnFixUptoSaid : Prop := fnFixUptoRow.holds Try.pinned (OpenSpec.upto fnFixSpec)

/-- 'laws.FnPop', WHERE WHAT IT READS IS OF BULK AT MOST 1048576: true; the input reads as it did. -/
def fnPopUptoRow : OpenClaim := { program := "ytkceigigdklaoaa", sum := "22c95acf9b825da72026db17c96a161af84296b76c62f8f10e0c1a92e54b4ea5", func := "loop.example/pub-heapmoves/laws.FnPop", spec := "fnPop", unfollowed := true, recurses := true, apart := false, narrowed := true }
def FnPopUptoSaid : Prop := fnPopUptoRow.holds Try.pinned (OpenSpec.upto fnPopSpec)

/-- 'laws.FnSort', WHERE WHAT IT READS IS OF BULK AT MOST 1048576: true; the input reads as it did. -/
def fnSortUptoRow : OpenClaim := { program := "ytkceigigdklaoaa", sum := "22c95acf9b825da72026db17c96a161af84296b76c62f8f10e0c1a92e54b4ea5", func := "loop.example/pub-heapmoves/laws.FnSort", spec := "fnSort", unfollowed := true, recurses := true, apart := false, narrowed := true }
def FnSortUptoSaid : Prop := fnSortUptoRow.holds Try.pinned (OpenSpec.upto fnSortSpec)

/-- 'laws.FnRemove', WHERE WHAT IT READS IS OF BULK AT MOST 1048576: true; the input reads as it did. -/
def fnRemoveUptoRow : OpenClaim := { program := "ytkceigigdklaoaa", sum := "22c95acf9b825da72026db17c96a161af84296b76c62f8f10e0c1a92e54b4ea5", func := "loop.example/pub-heapmoves/laws.FnRemove", spec := "fnRemove", unfollowed := true, recurses := true, apart := false, narrowed := true }
def FnRemoveUptoSaid : Prop := fnRemoveUptoRow.holds Try.pinned (OpenSpec.upto fnRemoveSpec)

/-- 'laws.FnFixRemovePush', WHERE WHAT IT READS IS OF BULK AT MOST 1048576: true; the input reads as it did. -/
def fnFixRemovePushUptoRow : OpenClaim := { program := "ytkceigigdklaoaa", sum := "22c95acf9b825da72026db17c96a161af84296b76c62f8f10e0c1a92e54b4ea5", func := "loop.example/pub-heapmoves/laws.FnFixRemovePush", spec := "fnFixRemovePush", unfollowed := true, recurses := true, apart := false, narrowed := true }
def FnFixRemovePushUptoSaid : Prop := fnFixRemovePushUptoRow.holds Try.pinned (OpenSpec.upto fnFixRemovePushSpec)

end Rows
end Go.Proofs.Ytkceigigdklaoaa
