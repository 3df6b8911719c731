/-
  No cell of these rows narrows 'for every input' (looked for: loops, veiled, ifaces, maps, wideKeys, modest, calm, conditions, laid).
  DERIVED. THE GIVEN ROWS OF THIS SEAT. 12 by the template 'for every input the law returns true; each argument reads behind the call as it read before'; 0 by the template 'total and deterministic' (their statements: YtajjnfnncbpjbabTotals.lean).
  GIVEN WITH THE SEED: the statements are not yours to turn. If you find one false, say at which input.
  Laid BY PROGRAM, IN A SANDBOX (cutbox-rows.mjs): the forced cells as the released guide's own fill.sh prints them over the translation b95b635f1b036281… (all of the seat's roots in one cut). By AI agents, Wed Nov 11 2026. No macro, syntax, notation, axiom, sorry.
-/
import Derived.Test.YtajjnfnncbpjbabChecked
import GoSem.Claim
import GoSem.ClaimJoined
import GoSem.ClaimMapViews
import Derived.JoinedTies
import Derived.KernelRfl
namespace Go.Proofs.Ytajjnfnncbpjbab
/- THE CELL 'sum', in the pinned program and in every row, IS THE sha256 OF THE DUMP (.gsa) THAT YtajjnfnncbpjbabProg.lean LOADS. Nothing in Lean hashes anything: it is a label: what it is worth is what the hold of that sum in a sandbox is worth. -/
noncomputable def Try.pinned : Pinned := { name := "ytajjnfnncbpjbab", sum := "b95b635f1b036281eb0d663a062bfd7ad04c87c6024adb5c5626b2cc295c7e49", checked := Try.checked }
namespace Rows
def none {H : Type} : Left H := { results := [], args := [] }

/-- 'laws.FnArgRdN0': WHATEVER THE INPUT: true; the input reads as it did. -/
def fnArgRdN0Spec : ChangeSpec := { name := "fnArgRdN0", fn := fun _ => fun
  | [d] => { results := [.lit (.bool true)], args := [d] }
  | _ => none }
def fnArgRdN0Row : OpenClaim := { program := "ytajjnfnncbpjbab", sum := "b95b635f1b036281eb0d663a062bfd7ad04c87c6024adb5c5626b2cc295c7e49", func := "loop.example/pub-g03336/laws.FnArgRdN0", spec := "fnArgRdN0", apart := false }
def FnArgRdN0Said : Prop := fnArgRdN0Row.holds Try.pinned (OpenSpec.ofChange fnArgRdN0Spec)

/-- ITS FALSE NEIGHBOUR: 'it returns false'. Refute it at one input. -/
def fnArgRdN0Wrong : ChangeSpec := { name := "fnArgRdN0", fn := fun _ => fun
  | [d] => { results := [.lit (.bool false)], args := [d] }
  | _ => none }
def FnArgRdN0WrongFalsely : Prop := fnArgRdN0Row.holds Try.pinned (OpenSpec.ofChange fnArgRdN0Wrong)

/-- 'laws.FnArgRdP': WHATEVER THE INPUT: true; the input reads as it did. -/
def fnArgRdPSpec : ChangeSpec := { name := "fnArgRdP", fn := fun _ => fun
  | [d] => { results := [.lit (.bool true)], args := [d] }
  | _ => none }
def fnArgRdPRow : OpenClaim := { program := "ytajjnfnncbpjbab", sum := "b95b635f1b036281eb0d663a062bfd7ad04c87c6024adb5c5626b2cc295c7e49", func := "loop.example/pub-g03336/laws.FnArgRdP", spec := "fnArgRdP", apart := false }
def FnArgRdPSaid : Prop := fnArgRdPRow.holds Try.pinned (OpenSpec.ofChange fnArgRdPSpec)

/-- ITS FALSE NEIGHBOUR: 'it returns false'. Refute it at one input. -/
def fnArgRdPWrong : ChangeSpec := { name := "fnArgRdP", fn := fun _ => fun
  | [d] => { results := [.lit (.bool false)], args := [d] }
  | _ => none }
def FnArgRdPWrongFalsely : Prop := fnArgRdPRow.holds Try.pinned (OpenSpec.ofChange fnArgRdPWrong)

/-- 'laws.FnArgRdRs1N0': WHATEVER THE INPUT: true; the input reads as it did. -/
def fnArgRdRs1N0Spec : ChangeSpec := { name := "fnArgRdRs1N0", fn := fun _ => fun
  | [d] => { results := [.lit (.bool true)], args := [d] }
  | _ => none }
def fnArgRdRs1N0Row : OpenClaim := { program := "ytajjnfnncbpjbab", sum := "b95b635f1b036281eb0d663a062bfd7ad04c87c6024adb5c5626b2cc295c7e49", func := "loop.example/pub-g03336/laws.FnArgRdRs1N0", spec := "fnArgRdRs1N0", apart := false }
def FnArgRdRs1N0Said : Prop := fnArgRdRs1N0Row.holds Try.pinned (OpenSpec.ofChange fnArgRdRs1N0Spec)

/-- ITS FALSE NEIGHBOUR: 'it returns false'. Refute it at one input. -/
def fnArgRdRs1N0Wrong : ChangeSpec := { name := "fnArgRdRs1N0", fn := fun _ => fun
  | [d] => { results := [.lit (.bool false)], args := [d] }
  | _ => none }
def FnArgRdRs1N0WrongFalsely : Prop := fnArgRdRs1N0Row.holds Try.pinned (OpenSpec.ofChange fnArgRdRs1N0Wrong)

/-- 'laws.FnArgRs1': WHATEVER THE INPUT: true; the input reads as it did. -/
def fnArgRs1Spec : ChangeSpec := { name := "fnArgRs1", fn := fun _ => fun
  | [d] => { results := [.lit (.bool true)], args := [d] }
  | _ => none }
def fnArgRs1Row : OpenClaim := { program := "ytajjnfnncbpjbab", sum := "b95b635f1b036281eb0d663a062bfd7ad04c87c6024adb5c5626b2cc295c7e49", func := "loop.example/pub-g03336/laws.FnArgRs1", spec := "fnArgRs1", apart := false }
def FnArgRs1Said : Prop := fnArgRs1Row.holds Try.pinned (OpenSpec.ofChange fnArgRs1Spec)

/-- ITS FALSE NEIGHBOUR: 'it returns false'. Refute it at one input. -/
def fnArgRs1Wrong : ChangeSpec := { name := "fnArgRs1", fn := fun _ => fun
  | [d] => { results := [.lit (.bool false)], args := [d] }
  | _ => none }
def FnArgRs1WrongFalsely : Prop := fnArgRs1Row.holds Try.pinned (OpenSpec.ofChange fnArgRs1Wrong)

/-- 'laws.FnArgRs1P': WHATEVER THE INPUT: true; the input reads as it did. -/
def fnArgRs1PSpec : ChangeSpec := { name := "fnArgRs1P", fn := fun _ => fun
  | [d] => { results := [.lit (.bool true)], args := [d] }
  | _ => none }
def fnArgRs1PRow : OpenClaim := { program := "ytajjnfnncbpjbab", sum := "b95b635f1b036281eb0d663a062bfd7ad04c87c6024adb5c5626b2cc295c7e49", func := "loop.example/pub-g03336/laws.FnArgRs1P", spec := "fnArgRs1P", apart := false }
def FnArgRs1PSaid : Prop := fnArgRs1PRow.holds Try.pinned (OpenSpec.ofChange fnArgRs1PSpec)

/-- ITS FALSE NEIGHBOUR: 'it returns false'. Refute it at one input. -/
def fnArgRs1PWrong : ChangeSpec := { name := "fnArgRs1P", fn := fun _ => fun
  | [d] => { results := [.lit (.bool false)], args := [d] }
  | _ => none }
def FnArgRs1PWrongFalsely : Prop := fnArgRs1PRow.holds Try.pinned (OpenSpec.ofChange fnArgRs1PWrong)

/-- 'laws.FnArgRs1Ptr': WHATEVER THE INPUT: true; the input reads as it did. -/
def fnArgRs1PtrSpec : ChangeSpec := { name := "fnArgRs1Ptr", fn := fun _ => fun
  | [d] => { results := [.lit (.bool true)], args := [d] }
  | _ => none }
def fnArgRs1PtrRow : OpenClaim := { program := "ytajjnfnncbpjbab", sum := "b95b635f1b036281eb0d663a062bfd7ad04c87c6024adb5c5626b2cc295c7e49", func := "loop.example/pub-g03336/laws.FnArgRs1Ptr", spec := "fnArgRs1Ptr", apart := false }
def FnArgRs1PtrSaid : Prop := fnArgRs1PtrRow.holds Try.pinned (OpenSpec.ofChange fnArgRs1PtrSpec)

/-- ITS FALSE NEIGHBOUR: 'it returns false'. Refute it at one input. -/
def fnArgRs1PtrWrong : ChangeSpec := { name := "fnArgRs1Ptr", fn := fun _ => fun
  | [d] => { results := [.lit (.bool false)], args := [d] }
  | _ => none }
def FnArgRs1PtrWrongFalsely : Prop := fnArgRs1PtrRow.holds Try.pinned (OpenSpec.ofChange fnArgRs1PtrWrong)

/-- 'laws.FnArgRs3': WHATEVER THE INPUT: true; the input reads as it did. -/
def fnArgRs3Spec : ChangeSpec := { name := "fnArgRs3", fn := fun _ => fun
  | [d] => { results := [.lit (.bool true)], args := [d] }
  | _ => none }
def fnArgRs3Row : OpenClaim := { program := "ytajjnfnncbpjbab", sum := "b95b635f1b036281eb0d663a062bfd7ad04c87c6024adb5c5626b2cc295c7e49", func := "loop.example/pub-g03336/laws.FnArgRs3", spec := "fnArgRs3", apart := false }
def FnArgRs3Said : Prop := fnArgRs3Row.holds Try.pinned (OpenSpec.ofChange fnArgRs3Spec)

/-- ITS FALSE NEIGHBOUR: 'it returns false'. Refute it at one input. -/
def fnArgRs3Wrong : ChangeSpec := { name := "fnArgRs3", fn := fun _ => fun
  | [d] => { results := [.lit (.bool false)], args := [d] }
  | _ => none }
def FnArgRs3WrongFalsely : Prop := fnArgRs3Row.holds Try.pinned (OpenSpec.ofChange fnArgRs3Wrong)

/-- 'laws.FnArgShamt5': WHATEVER THE INPUT: true; the input reads as it did. -/
def fnArgShamt5Spec : ChangeSpec := { name := "fnArgShamt5", fn := fun _ => fun
  | [d] => { results := [.lit (.bool true)], args := [d] }
  | _ => none }
def fnArgShamt5Row : OpenClaim := { program := "ytajjnfnncbpjbab", sum := "b95b635f1b036281eb0d663a062bfd7ad04c87c6024adb5c5626b2cc295c7e49", func := "loop.example/pub-g03336/laws.FnArgShamt5", spec := "fnArgShamt5", apart := false }
def FnArgShamt5Said : Prop := fnArgShamt5Row.holds Try.pinned (OpenSpec.ofChange fnArgShamt5Spec)

/-- ITS FALSE NEIGHBOUR: 'it returns false'. Refute it at one input. -/
def fnArgShamt5Wrong : ChangeSpec := { name := "fnArgShamt5", fn := fun _ => fun
  | [d] => { results := [.lit (.bool false)], args := [d] }
  | _ => none }
def FnArgShamt5WrongFalsely : Prop := fnArgShamt5Row.holds Try.pinned (OpenSpec.ofChange fnArgShamt5Wrong)

/-- 'laws.FnArgSimm12': WHATEVER THE INPUT: true; the input reads as it did. -/
def fnArgSimm12Spec : ChangeSpec := { name := "fnArgSimm12", fn := fun _ => fun
  | [d] => { results := [.lit (.bool true)], args := [d] }
  | _ => none }
def fnArgSimm12Row : OpenClaim := { program := "ytajjnfnncbpjbab", sum := "b95b635f1b036281eb0d663a062bfd7ad04c87c6024adb5c5626b2cc295c7e49", func := "loop.example/pub-g03336/laws.FnArgSimm12", spec := "fnArgSimm12", apart := false }
def FnArgSimm12Said : Prop := fnArgSimm12Row.holds Try.pinned (OpenSpec.ofChange fnArgSimm12Spec)

/-- ITS FALSE NEIGHBOUR: 'it returns false'. Refute it at one input. -/
def fnArgSimm12Wrong : ChangeSpec := { name := "fnArgSimm12", fn := fun _ => fun
  | [d] => { results := [.lit (.bool false)], args := [d] }
  | _ => none }
def FnArgSimm12WrongFalsely : Prop := fnArgSimm12Row.holds Try.pinned (OpenSpec.ofChange fnArgSimm12Wrong)

/-- 'laws.FnArgSucc': WHATEVER THE INPUT: true; the input reads as it did. -/
def fnArgSuccSpec : ChangeSpec := { name := "fnArgSucc", fn := fun _ => fun
  | [d] => { results := [.lit (.bool true)], args := [d] }
  | _ => none }
def fnArgSuccRow : OpenClaim := { program := "ytajjnfnncbpjbab", sum := "b95b635f1b036281eb0d663a062bfd7ad04c87c6024adb5c5626b2cc295c7e49", func := "loop.example/pub-g03336/laws.FnArgSucc", spec := "fnArgSucc", apart := false }
def FnArgSuccSaid : Prop := fnArgSuccRow.holds Try.pinned (OpenSpec.ofChange fnArgSuccSpec)

/-- ITS FALSE NEIGHBOUR: 'it returns false'. Refute it at one input. -/
def fnArgSuccWrong : ChangeSpec := { name := "fnArgSucc", fn := fun _ => fun
  | [d] => { results := [.lit (.bool false)], args := [d] }
  | _ => none }
def FnArgSuccWrongFalsely : Prop := fnArgSuccRow.holds Try.pinned (OpenSpec.ofChange fnArgSuccWrong)

/-- 'laws.FnArgVs1': WHATEVER THE INPUT: true; the input reads as it did. -/
def fnArgVs1Spec : ChangeSpec := { name := "fnArgVs1", fn := fun _ => fun
  | [d] => { results := [.lit (.bool true)], args := [d] }
  | _ => none }
def fnArgVs1Row : OpenClaim := { program := "ytajjnfnncbpjbab", sum := "b95b635f1b036281eb0d663a062bfd7ad04c87c6024adb5c5626b2cc295c7e49", func := "loop.example/pub-g03336/laws.FnArgVs1", spec := "fnArgVs1", apart := false }
def FnArgVs1Said : Prop := fnArgVs1Row.holds Try.pinned (OpenSpec.ofChange fnArgVs1Spec)

/-- ITS FALSE NEIGHBOUR: 'it returns false'. Refute it at one input. -/
def fnArgVs1Wrong : ChangeSpec := { name := "fnArgVs1", fn := fun _ => fun
  | [d] => { results := [.lit (.bool false)], args := [d] }
  | _ => none }
def FnArgVs1WrongFalsely : Prop := fnArgVs1Row.holds Try.pinned (OpenSpec.ofChange fnArgVs1Wrong)

/-- 'laws.FnArgVs3': WHATEVER THE INPUT: true; the input reads as it did. -/
def fnArgVs3Spec : ChangeSpec := { name := "fnArgVs3", fn := fun _ => fun
  | [d] => { results := [.lit (.bool true)], args := [d] }
  | _ => none }
def fnArgVs3Row : OpenClaim := { program := "ytajjnfnncbpjbab", sum := "b95b635f1b036281eb0d663a062bfd7ad04c87c6024adb5c5626b2cc295c7e49", func := "loop.example/pub-g03336/laws.FnArgVs3", spec := "fnArgVs3", apart := false }
def FnArgVs3Said : Prop := fnArgVs3Row.holds Try.pinned (OpenSpec.ofChange fnArgVs3Spec)

/-- ITS FALSE NEIGHBOUR: 'it returns false'. Refute it at one input. -/
def fnArgVs3Wrong : ChangeSpec := { name := "fnArgVs3", fn := fun _ => fun
  | [d] => { results := [.lit (.bool false)], args := [d] }
  | _ => none }
def FnArgVs3WrongFalsely : Prop := fnArgVs3Row.holds Try.pinned (OpenSpec.ofChange fnArgVs3Wrong)

/- THE SECOND FORM. 'bulk': how many values and letters a reading holds, each counted each time it is reached (what is shared counts as often as it is met; a slice's spare places count too). A statement '..UptoSaid' is the law's where the arguments, and the package variables that the reading takes, are together of bulk at most 1048576: NARROWER than '..Said'. Prove '..Said' where nothing that the law and all that it calls make is longer than what came in: it says more and counts as full. Else prove '..UptoSaid'. A law counts once. -/
mutual
def uptoBulk {H : Type} : DataW H → Nat
  | .lit (.string bytes) => bytes.length + 1
  | .lit _ => 1
  | .nil => 1
  | .ptr d => uptoBulk d + 1
  | .slice elems spare => uptoBulkAll elems + uptoBulkAll spare + 1
  | .agg parts => uptoBulkAll parts + 1
  | .iface _ d => uptoBulk d + 1
  | .map entries => uptoBulkEntries entries + 1
  | .held _ => 1
def uptoBulkAll {H : Type} : List (DataW H) → Nat
  | [] => 0
  | d :: r => uptoBulk d + uptoBulkAll r
def uptoBulkEntries {H : Type} : List (Lit × DataW H) → Nat
  | [] => 0
  | x :: r => uptoBulkEntry x + uptoBulkEntries r
def uptoBulkEntry {H : Type} : Lit × DataW H → Nat
  | (.string bytes, d) => bytes.length + uptoBulk d + 1
  | (_, d) => uptoBulk d + 1
 end
def uptoSmall : (H : Type) → List (DataW H) → Bool := fun _ ds => decide (uptoBulkAll ds ≤ 1048576)
def OpenSpec.upto (s : _root_.Go.ChangeSpec) : _root_.Go.OpenSpec := { _root_.Go.OpenSpec.ofChange s with cond := some uptoSmall }

/-- 'laws.FnArgRdN0', WHERE WHAT IT READS IS OF BULK AT MOST 1048576: true; the input reads as it did. -/
def fnArgRdN0UptoRow : OpenClaim := { program := "ytajjnfnncbpjbab", sum := "b95b635f1b036281eb0d663a062bfd7ad04c87c6024adb5c5626b2cc295c7e49", func := "loop.example/pub-g03336/laws.FnArgRdN0", spec := "fnArgRdN0", apart := false, narrowed := true }
def FnArgRdN0UptoSaid : Prop := fnArgRdN0UptoRow.holds Try.pinned (OpenSpec.upto fnArgRdN0Spec)

/-- 'laws.FnArgRdP', WHERE WHAT IT READS IS OF BULK AT MOST 1048576: true; the input reads as it did. -/
def fnArgRdPUptoRow : OpenClaim := { program := "ytajjnfnncbpjbab", sum := "b95b635f1b036281eb0d663a062bfd7ad04c87c6024adb5c5626b2cc295c7e49", func := "loop.example/pub-g03336/laws.FnArgRdP", spec := "fnArgRdP", apart := false, narrowed := true }
def FnArgRdPUptoSaid : Prop := fnArgRdPUptoRow.holds Try.pinned (OpenSpec.upto fnArgRdPSpec)

/-- 'laws.FnArgRdRs1N0', WHERE WHAT IT READS IS OF BULK AT MOST 1048576: true; the input reads as it did. -/
def fnArgRdRs1N0UptoRow : OpenClaim := { program := "ytajjnfnncbpjbab", sum := "b95b635f1b036281eb0d663a062bfd7ad04c87c6024adb5c5626b2cc295c7e49", func := "loop.example/pub-g03336/laws.FnArgRdRs1N0", spec := "fnArgRdRs1N0", apart := false, narrowed := true }
def FnArgRdRs1N0UptoSaid : Prop := fnArgRdRs1N0UptoRow.holds Try.pinned (OpenSpec.upto fnArgRdRs1N0Spec)

/-- 'laws.FnArgRs1', WHERE WHAT IT READS IS OF BULK AT MOST 1048576: true; the input reads as it did. -/
def fnArgRs1UptoRow : OpenClaim := { program := "ytajjnfnncbpjbab", sum := "b95b635f1b036281eb0d663a062bfd7ad04c87c6024adb5c5626b2cc295c7e49", func := "loop.example/pub-g03336/laws.FnArgRs1", spec := "fnArgRs1", apart := false, narrowed := true }
def FnArgRs1UptoSaid : Prop := fnArgRs1UptoRow.holds Try.pinned (OpenSpec.upto fnArgRs1Spec)

/-- 'laws.FnArgRs1P', WHERE WHAT IT READS IS OF BULK AT MOST 1048576: true; the input reads as it did. -/
def fnArgRs1PUptoRow : OpenClaim := { program := "ytajjnfnncbpjbab", sum := "b95b635f1b036281eb0d663a062bfd7ad04c87c6024adb5c5626b2cc295c7e49", func := "loop.example/pub-g03336/laws.FnArgRs1P", spec := "fnArgRs1P", apart := false, narrowed := true }
def FnArgRs1PUptoSaid : Prop := fnArgRs1PUptoRow.holds Try.pinned (OpenSpec.upto fnArgRs1PSpec)

/-- 'laws.FnArgRs1Ptr', WHERE WHAT IT READS IS OF BULK AT MOST 1048576: true; the input reads as it did. -/
def fnArgRs1PtrUptoRow : OpenClaim := { program := "ytajjnfnncbpjbab", sum := "b95b635f1b036281eb0d663a062bfd7ad04c87c6024adb5c5626b2cc295c7e49", func := "loop.example/pub-g03336/laws.FnArgRs1Ptr", spec := "fnArgRs1Ptr", apart := false, narrowed := true }
def FnArgRs1PtrUptoSaid : Prop := fnArgRs1PtrUptoRow.holds Try.pinned (OpenSpec.upto fnArgRs1PtrSpec)

/-- 'laws.FnArgRs3', WHERE WHAT IT READS IS OF BULK AT MOST 1048576: true; the input reads as it did. -/
def fnArgRs3UptoRow : OpenClaim := { program := "ytajjnfnncbpjbab", sum := "b95b635f1b036281eb0d663a062bfd7ad04c87c6024adb5c5626b2cc295c7e49", func := "loop.example/pub-g03336/laws.FnArgRs3", spec := "fnArgRs3", apart := false, narrowed := true }
def FnArgRs3UptoSaid : Prop := fnArgRs3UptoRow.holds Try.pinned (OpenSpec.upto fnArgRs3Spec)

/-- 'laws.FnArgShamt5', WHERE WHAT IT READS IS OF BULK AT MOST 1048576: true; the input reads as it did. -/
def fnArgShamt5UptoRow : OpenClaim := { program := "ytajjnfnncbpjbab", sum := "b95b635f1b036281eb0d663a062bfd7ad04c87c6024adb5c5626b2cc295c7e49", func := "loop.example/pub-g03336/laws.FnArgShamt5", spec := "fnArgShamt5", apart := false, narrowed := true }
def FnArgShamt5UptoSaid : Prop := fnArgShamt5UptoRow.holds Try.pinned (OpenSpec.upto fnArgShamt5Spec)

/-- 'laws.FnArgSimm12', WHERE WHAT IT READS IS OF BULK AT MOST 1048576: true; the input reads as it did. -/
def fnArgSimm12UptoRow : OpenClaim := { program := "ytajjnfnncbpjbab", sum := "b95b635f1b036281eb0d663a062bfd7ad04c87c6024adb5c5626b2cc295c7e49", func := "loop.example/pub-g03336/laws.FnArgSimm12", spec := "fnArgSimm12", apart := false, narrowed := true }
def FnArgSimm12UptoSaid : Prop := fnArgSimm12UptoRow.holds Try.pinned (OpenSpec.upto fnArgSimm12Spec)

/-- 'laws.FnArgSucc', WHERE WHAT IT READS IS OF BULK AT MOST 1048576: true; the input reads as it did. -/
def fnArgSuccUptoRow : OpenClaim := { program := "ytajjnfnncbpjbab", sum := "b95b635f1b036281eb0d663a062bfd7ad04c87c6024adb5c5626b2cc295c7e49", func := "loop.example/pub-g03336/laws.FnArgSucc", spec := "fnArgSucc", apart := false, narrowed := true }
def FnArgSuccUptoSaid : Prop := fnArgSuccUptoRow.holds Try.pinned (OpenSpec.upto fnArgSuccSpec)

/-- 'laws.FnArgVs1', WHERE WHAT IT READS IS OF BULK AT MOST 1048576: true; the input reads as it did. -/
def fnArgVs1UptoRow : OpenClaim := { program := "ytajjnfnncbpjbab", sum := "b95b635f1b036281eb0d663a062bfd7ad04c87c6024adb5c5626b2cc295c7e49", func := "loop.example/pub-g03336/laws.FnArgVs1", spec := "fnArgVs1", apart := false, narrowed := true }
def FnArgVs1UptoSaid : Prop := fnArgVs1UptoRow.holds Try.pinned (OpenSpec.upto fnArgVs1Spec)

/-- 'laws.FnArgVs3', WHERE WHAT IT READS IS OF BULK AT MOST 1048576: true; the input reads as it did. -/
def fnArgVs3UptoRow : OpenClaim := { program := "ytajjnfnncbpjbab", sum := "b95b635f1b036281eb0d663a062bfd7ad04c87c6024adb5c5626b2cc295c7e49", func := "loop.example/pub-g03336/laws.FnArgVs3", spec := "fnArgVs3", apart := false, narrowed := true }
def FnArgVs3UptoSaid : Prop := fnArgVs3UptoRow.holds Try.pinned (OpenSpec.upto fnArgVs3Spec)

end Rows
end Go.Proofs.Ytajjnfnncbpjbab
