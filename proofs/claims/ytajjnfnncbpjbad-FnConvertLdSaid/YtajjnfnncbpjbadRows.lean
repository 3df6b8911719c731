/-
  No cell of these rows narrows 'for every input' (looked for: loops, veiled, ifaces, maps, wideKeys, modest, calm, conditions, laid).
  DERIVED. THE GIVEN ROWS OF THIS SEAT. 7 by the template 'for every input the law returns true; each argument reads behind the call as it read before'; 0 by the template 'total and deterministic' (their statements: YtajjnfnncbpjbadTotals.lean).
  GIVEN WITH THE SEED: the statements are not yours to turn. If you find one false, say at which input.
  Laid BY PROGRAM, IN A SANDBOX (cutbox-rows.mjs): the forced cells as the released guide's own fill.sh prints them over the translation d214bad1b03c1efd… (all of the seat's roots in one cut). By AI agents, Wed Nov 11 2026. No macro, syntax, notation, axiom, sorry.
-/
import Derived.Test.YtajjnfnncbpjbadChecked
import GoSem.Claim
import GoSem.ClaimJoined
import GoSem.ClaimMapViews
import Derived.JoinedTies
import Derived.KernelRfl
namespace Go.Proofs.Ytajjnfnncbpjbad
/- THE CELL 'sum', in the pinned program and in every row, IS THE sha256 OF THE DUMP (.gsa) THAT YtajjnfnncbpjbadProg.lean LOADS. Nothing in Lean hashes anything: it is a label: what it is worth is what the hold of that sum in a sandbox is worth. -/
noncomputable def Try.pinned : Pinned := { name := "ytajjnfnncbpjbad", sum := "d214bad1b03c1efd8ad5a12a6dc1962c633604db9b05ba6a3751747dfe7cd311", checked := Try.checked }
namespace Rows
def none {H : Type} : Left H := { results := [], args := [] }

/-- 'laws.FnConvertOr': WHATEVER THE INPUT: true; the input reads as it did. -/
def fnConvertOrSpec : ChangeSpec := { name := "fnConvertOr", fn := fun _ => fun
  | [d] => { results := [.lit (.bool true)], args := [d] }
  | _ => none }
def fnConvertOrRow : OpenClaim := { program := "ytajjnfnncbpjbad", sum := "d214bad1b03c1efd8ad5a12a6dc1962c633604db9b05ba6a3751747dfe7cd311", func := "loop.example/pub-g03336/laws.FnConvertOr", spec := "fnConvertOr", apart := false }
def FnConvertOrSaid : Prop := fnConvertOrRow.holds Try.pinned (OpenSpec.ofChange fnConvertOrSpec)

/-- ITS FALSE NEIGHBOUR: 'it returns false'. Refute it at one input. -/
def fnConvertOrWrong : ChangeSpec := { name := "fnConvertOr", fn := fun _ => fun
  | [d] => { results := [.lit (.bool false)], args := [d] }
  | _ => none }
def FnConvertOrWrongFalsely : Prop := fnConvertOrRow.holds Try.pinned (OpenSpec.ofChange fnConvertOrWrong)

/-- 'laws.FnConvertSdsp': WHATEVER THE INPUT: true; the input reads as it did. -/
def fnConvertSdspSpec : ChangeSpec := { name := "fnConvertSdsp", fn := fun _ => fun
  | [d] => { results := [.lit (.bool true)], args := [d] }
  | _ => none }
def fnConvertSdspRow : OpenClaim := { program := "ytajjnfnncbpjbad", sum := "d214bad1b03c1efd8ad5a12a6dc1962c633604db9b05ba6a3751747dfe7cd311", func := "loop.example/pub-g03336/laws.FnConvertSdsp", spec := "fnConvertSdsp", apart := false }
def FnConvertSdspSaid : Prop := fnConvertSdspRow.holds Try.pinned (OpenSpec.ofChange fnConvertSdspSpec)

/-- ITS FALSE NEIGHBOUR: 'it returns false'. Refute it at one input. -/
def fnConvertSdspWrong : ChangeSpec := { name := "fnConvertSdsp", fn := fun _ => fun
  | [d] => { results := [.lit (.bool false)], args := [d] }
  | _ => none }
def FnConvertSdspWrongFalsely : Prop := fnConvertSdspRow.holds Try.pinned (OpenSpec.ofChange fnConvertSdspWrong)

/-- 'laws.FnConvertSrai': WHATEVER THE INPUT: true; the input reads as it did. -/
def fnConvertSraiSpec : ChangeSpec := { name := "fnConvertSrai", fn := fun _ => fun
  | [d] => { results := [.lit (.bool true)], args := [d] }
  | _ => none }
def fnConvertSraiRow : OpenClaim := { program := "ytajjnfnncbpjbad", sum := "d214bad1b03c1efd8ad5a12a6dc1962c633604db9b05ba6a3751747dfe7cd311", func := "loop.example/pub-g03336/laws.FnConvertSrai", spec := "fnConvertSrai", apart := false }
def FnConvertSraiSaid : Prop := fnConvertSraiRow.holds Try.pinned (OpenSpec.ofChange fnConvertSraiSpec)

/-- ITS FALSE NEIGHBOUR: 'it returns false'. Refute it at one input. -/
def fnConvertSraiWrong : ChangeSpec := { name := "fnConvertSrai", fn := fun _ => fun
  | [d] => { results := [.lit (.bool false)], args := [d] }
  | _ => none }
def FnConvertSraiWrongFalsely : Prop := fnConvertSraiRow.holds Try.pinned (OpenSpec.ofChange fnConvertSraiWrong)

/-- 'laws.FnConvertSub': WHATEVER THE INPUT: true; the input reads as it did. -/
def fnConvertSubSpec : ChangeSpec := { name := "fnConvertSub", fn := fun _ => fun
  | [d] => { results := [.lit (.bool true)], args := [d] }
  | _ => none }
def fnConvertSubRow : OpenClaim := { program := "ytajjnfnncbpjbad", sum := "d214bad1b03c1efd8ad5a12a6dc1962c633604db9b05ba6a3751747dfe7cd311", func := "loop.example/pub-g03336/laws.FnConvertSub", spec := "fnConvertSub", apart := false }
def FnConvertSubSaid : Prop := fnConvertSubRow.holds Try.pinned (OpenSpec.ofChange fnConvertSubSpec)

/-- ITS FALSE NEIGHBOUR: 'it returns false'. Refute it at one input. -/
def fnConvertSubWrong : ChangeSpec := { name := "fnConvertSub", fn := fun _ => fun
  | [d] => { results := [.lit (.bool false)], args := [d] }
  | _ => none }
def FnConvertSubWrongFalsely : Prop := fnConvertSubRow.holds Try.pinned (OpenSpec.ofChange fnConvertSubWrong)

/-- 'laws.FnConvertXor': WHATEVER THE INPUT: true; the input reads as it did. -/
def fnConvertXorSpec : ChangeSpec := { name := "fnConvertXor", fn := fun _ => fun
  | [d] => { results := [.lit (.bool true)], args := [d] }
  | _ => none }
def fnConvertXorRow : OpenClaim := { program := "ytajjnfnncbpjbad", sum := "d214bad1b03c1efd8ad5a12a6dc1962c633604db9b05ba6a3751747dfe7cd311", func := "loop.example/pub-g03336/laws.FnConvertXor", spec := "fnConvertXor", apart := false }
def FnConvertXorSaid : Prop := fnConvertXorRow.holds Try.pinned (OpenSpec.ofChange fnConvertXorSpec)

/-- ITS FALSE NEIGHBOUR: 'it returns false'. Refute it at one input. -/
def fnConvertXorWrong : ChangeSpec := { name := "fnConvertXor", fn := fun _ => fun
  | [d] => { results := [.lit (.bool false)], args := [d] }
  | _ => none }
def FnConvertXorWrongFalsely : Prop := fnConvertXorRow.holds Try.pinned (OpenSpec.ofChange fnConvertXorWrong)

/-- 'laws.FnConvertLd': WHATEVER THE INPUT: true; the input reads as it did. -/
def fnConvertLdSpec : ChangeSpec := { name := "fnConvertLd", fn := fun _ => fun
  | [d] => { results := [.lit (.bool true)], args := [d] }
  | _ => none }
def fnConvertLdRow : OpenClaim := { program := "ytajjnfnncbpjbad", sum := "d214bad1b03c1efd8ad5a12a6dc1962c633604db9b05ba6a3751747dfe7cd311", func := "loop.example/pub-g03336/laws.FnConvertLd", spec := "fnConvertLd", apart := false }
def FnConvertLdSaid : Prop := fnConvertLdRow.holds Try.pinned (OpenSpec.ofChange fnConvertLdSpec)

/-- ITS FALSE NEIGHBOUR: 'it returns false'. Refute it at one input. -/
def fnConvertLdWrong : ChangeSpec := { name := "fnConvertLd", fn := fun _ => fun
  | [d] => { results := [.lit (.bool false)], args := [d] }
  | _ => none }
def FnConvertLdWrongFalsely : Prop := fnConvertLdRow.holds Try.pinned (OpenSpec.ofChange fnConvertLdWrong)

/-- 'laws.FnConvertSw': WHATEVER THE INPUT: true; the input reads as it did. -/
def fnConvertSwSpec : ChangeSpec := { name := "fnConvertSw", fn := fun _ => fun
  | [d] => { results := [.lit (.bool true)], args := [d] }
  | _ => none }
def fnConvertSwRow : OpenClaim := { program := "ytajjnfnncbpjbad", sum := "d214bad1b03c1efd8ad5a12a6dc1962c633604db9b05ba6a3751747dfe7cd311", func := "loop.example/pub-g03336/laws.FnConvertSw", spec := "fnConvertSw", apart := false }
def FnConvertSwSaid : Prop := fnConvertSwRow.holds Try.pinned (OpenSpec.ofChange fnConvertSwSpec)

/-- ITS FALSE NEIGHBOUR: 'it returns false'. Refute it at one input. -/
def fnConvertSwWrong : ChangeSpec := { name := "fnConvertSw", fn := fun _ => fun
  | [d] => { results := [.lit (.bool false)], args := [d] }
  | _ => none }
def FnConvertSwWrongFalsely : Prop := fnConvertSwRow.holds Try.pinned (OpenSpec.ofChange fnConvertSwWrong)

/- THE SECOND FORM. 'bulk': how many values and letters a reading holds, each counted each time it is reached (what is shared counts as often as it is met; a slice's spare places count too). A statement '..UptoSaid' is the law's where the arguments, and the package variables that the reading takes, are together of bulk at most 1048576: NARROWER than '..Said'. Prove '..Said' where nothing that the law and all that it calls make is longer than what came in: it says more and counts as full. Else prove '..UptoSaid'. A law counts once. -/
mutual
def uptoBulk {H : Type} : DataW H → Nat
  | .lit (.string bytes) => bytes.length + 1
  | .lit _ => 1
  | .nil => 1
  | .ptr d => uptoBulk d + 1
  | .slice elems spare => uptoBulkAll elems + uptoBulkAll spare + 1
  | .agg parts => uptoBulkAll parts + 1
  | .iface _ d => uptoBulk d + 1
  | .map entries => uptoBulkEntries entries + 1
  | .held _ => 1
def uptoBulkAll {H : Type} : List (DataW H) → Nat
  | [] => 0
  | d :: r => uptoBulk d + uptoBulkAll r
def uptoBulkEntries {H : Type} : List (Lit × DataW H) → Nat
  | [] => 0
  | x :: r => uptoBulkEntry x + uptoBulkEntries r
def uptoBulkEntry {H : Type} : Lit × DataW H → Nat
  | (.string bytes, d) => bytes.length + uptoBulk d + 1
  | (_, d) => uptoBulk d + 1
 end
def uptoSmall : (H : Type) → List (DataW H) → Bool := fun _ ds => decide (uptoBulkAll ds ≤ 1048576)
def OpenSpec.upto (s : _root_.Go.ChangeSpec) : _root_.Go.OpenSpec := { _root_.Go.OpenSpec.ofChange s with cond := some uptoSmall }

/-- 'laws.FnConvertOr', WHERE WHAT IT READS IS OF BULK AT MOST 1048576: true; the input reads as it did. -/
def fnConvertOrUptoRow : OpenClaim := { program := "ytajjnfnncbpjbad", sum := "d214bad1b03c1efd8ad5a12a6dc1962c633604db9b05ba6a3751747dfe7cd311", func := "loop.example/pub-g03336/laws.FnConvertOr", spec := "fnConvertOr", apart := false, narrowed := true }
def FnConvertOrUptoSaid : Prop := fnConvertOrUptoRow.holds Try.pinned (OpenSpec.upto fnConvertOrSpec)

/-- 'laws.FnConvertSdsp', WHERE WHAT IT READS IS OF BULK AT MOST 1048576: true; the input reads as it did. -/
def fnConvertSdspUptoRow : OpenClaim := { program := "ytajjnfnncbpjbad", sum := "d214bad1b03c1efd8ad5a12a6dc1962c633604db9b05ba6a3751747dfe7cd311", func := "loop.example/pub-g03336/laws.FnConvertSdsp", spec := "fnConvertSdsp", apart := false, narrowed := true }
def FnConvertSdspUptoSaid : Prop := fnConvertSdspUptoRow.holds Try.pinned (OpenSpec.upto fnConvertSdspSpec)

/-- 'laws.FnConvertSrai', WHERE WHAT IT READS IS OF BULK AT MOST 1048576: true; the input reads as it did. -/
def fnConvertSraiUptoRow : OpenClaim := { program := "ytajjnfnncbpjbad", sum := "d214bad1b03c1efd8ad5a12a6dc1962c633604db9b05ba6a3751747dfe7cd311", func := "loop.example/pub-g03336/laws.FnConvertSrai", spec := "fnConvertSrai", apart := false, narrowed := true }
def FnConvertSraiUptoSaid : Prop := fnConvertSraiUptoRow.holds Try.pinned (OpenSpec.upto fnConvertSraiSpec)

/-- 'laws.FnConvertSub', WHERE WHAT IT READS IS OF BULK AT MOST 1048576: true; the input reads as it did. -/
def fnConvertSubUptoRow : OpenClaim := { program := "ytajjnfnncbpjbad", sum := "d214bad1b03c1efd8ad5a12a6dc1962c633604db9b05ba6a3751747dfe7cd311", func := "loop.example/pub-g03336/laws.FnConvertSub", spec := "fnConvertSub", apart := false, narrowed := true }
def FnConvertSubUptoSaid : Prop := fnConvertSubUptoRow.holds Try.pinned (OpenSpec.upto fnConvertSubSpec)

/-- 'laws.FnConvertXor', WHERE WHAT IT READS IS OF BULK AT MOST 1048576: true; the input reads as it did. -/
def fnConvertXorUptoRow : OpenClaim := { program := "ytajjnfnncbpjbad", sum := "d214bad1b03c1efd8ad5a12a6dc1962c633604db9b05ba6a3751747dfe7cd311", func := "loop.example/pub-g03336/laws.FnConvertXor", spec := "fnConvertXor", apart := false, narrowed := true }
def FnConvertXorUptoSaid : Prop := fnConvertXorUptoRow.holds Try.pinned (OpenSpec.upto fnConvertXorSpec)

/-- 'laws.FnConvertLd', WHERE WHAT IT READS IS OF BULK AT MOST 1048576: true; the input reads as it did. -/
def fnConvertLdUptoRow : OpenClaim := { program := "ytajjnfnncbpjbad", sum := "d214bad1b03c1efd8ad5a12a6dc1962c633604db9b05ba6a3751747dfe7cd311", func := "loop.example/pub-g03336/laws.FnConvertLd", spec := "fnConvertLd", apart := false, narrowed := true }
def FnConvertLdUptoSaid : Prop := fnConvertLdUptoRow.holds Try.pinned (OpenSpec.upto fnConvertLdSpec)

/-- 'laws.FnConvertSw', WHERE WHAT IT READS IS OF BULK AT MOST 1048576: true; the input reads as it did. -/
def fnConvertSwUptoRow : OpenClaim := { program := "ytajjnfnncbpjbad", sum := "d214bad1b03c1efd8ad5a12a6dc1962c633604db9b05ba6a3751747dfe7cd311", func := "loop.example/pub-g03336/laws.FnConvertSw", spec := "fnConvertSw", apart := false, narrowed := true }
def FnConvertSwUptoSaid : Prop := fnConvertSwUptoRow.holds Try.pinned (OpenSpec.upto fnConvertSwSpec)

end Rows
end Go.Proofs.Ytajjnfnncbpjbad
