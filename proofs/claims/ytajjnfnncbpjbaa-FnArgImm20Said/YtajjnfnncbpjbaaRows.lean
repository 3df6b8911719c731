/-
  No cell of these rows narrows 'for every input' (looked for: loops, veiled, ifaces, maps, wideKeys, modest, calm, conditions, laid).
  DERIVED. THE GIVEN ROWS OF THIS SEAT. 12 by the template 'for every input the law returns true; each argument reads behind the call as it read before'; 0 by the template 'total and deterministic' (their statements: YtajjnfnncbpjbaaTotals.lean).
  GIVEN WITH THE SEED: the statements are not yours to turn. If you find one false, say at which input.
  Laid BY PROGRAM, IN A SANDBOX (cutbox-rows.mjs): the forced cells as the released guide's own fill.sh prints them over the translation ecca4d41b6013238… (all of the seat's roots in one cut). By AI agents, Wed Nov 11 2026. No macro, syntax, notation, axiom, sorry.
-/
import Derived.Test.YtajjnfnncbpjbaaChecked
import GoSem.Claim
import GoSem.ClaimJoined
import GoSem.ClaimMapViews
import Derived.JoinedTies
import Derived.KernelRfl
namespace Go.Proofs.Ytajjnfnncbpjbaa
/- THE CELL 'sum', in the pinned program and in every row, IS THE sha256 OF THE DUMP (.gsa) THAT YtajjnfnncbpjbaaProg.lean LOADS. Nothing in Lean hashes anything: it is a label: what it is worth is what the hold of that sum in a sandbox is worth. -/
noncomputable def Try.pinned : Pinned := { name := "ytajjnfnncbpjbaa", sum := "ecca4d41b60132380ad5ed9f5513a60874922518230c531e95fcf32c9ac010a1", checked := Try.checked }
namespace Rows
def none {H : Type} : Left H := { results := [], args := [] }

/-- 'laws.FnArgCNzimm10': WHATEVER THE INPUT: true; the input reads as it did. -/
def fnArgCNzimm10Spec : ChangeSpec := { name := "fnArgCNzimm10", fn := fun _ => fun
  | [d] => { results := [.lit (.bool true)], args := [d] }
  | _ => none }
def fnArgCNzimm10Row : OpenClaim := { program := "ytajjnfnncbpjbaa", sum := "ecca4d41b60132380ad5ed9f5513a60874922518230c531e95fcf32c9ac010a1", func := "loop.example/pub-g03336/laws.FnArgCNzimm10", spec := "fnArgCNzimm10", apart := false }
def FnArgCNzimm10Said : Prop := fnArgCNzimm10Row.holds Try.pinned (OpenSpec.ofChange fnArgCNzimm10Spec)

/-- ITS FALSE NEIGHBOUR: 'it returns false'. Refute it at one input. -/
def fnArgCNzimm10Wrong : ChangeSpec := { name := "fnArgCNzimm10", fn := fun _ => fun
  | [d] => { results := [.lit (.bool false)], args := [d] }
  | _ => none }
def FnArgCNzimm10WrongFalsely : Prop := fnArgCNzimm10Row.holds Try.pinned (OpenSpec.ofChange fnArgCNzimm10Wrong)

/-- 'laws.FnArgCNzuimm6': WHATEVER THE INPUT: true; the input reads as it did. -/
def fnArgCNzuimm6Spec : ChangeSpec := { name := "fnArgCNzuimm6", fn := fun _ => fun
  | [d] => { results := [.lit (.bool true)], args := [d] }
  | _ => none }
def fnArgCNzuimm6Row : OpenClaim := { program := "ytajjnfnncbpjbaa", sum := "ecca4d41b60132380ad5ed9f5513a60874922518230c531e95fcf32c9ac010a1", func := "loop.example/pub-g03336/laws.FnArgCNzuimm6", spec := "fnArgCNzuimm6", apart := false }
def FnArgCNzuimm6Said : Prop := fnArgCNzuimm6Row.holds Try.pinned (OpenSpec.ofChange fnArgCNzuimm6Spec)

/-- ITS FALSE NEIGHBOUR: 'it returns false'. Refute it at one input. -/
def fnArgCNzuimm6Wrong : ChangeSpec := { name := "fnArgCNzuimm6", fn := fun _ => fun
  | [d] => { results := [.lit (.bool false)], args := [d] }
  | _ => none }
def FnArgCNzuimm6WrongFalsely : Prop := fnArgCNzuimm6Row.holds Try.pinned (OpenSpec.ofChange fnArgCNzuimm6Wrong)

/-- 'laws.FnArgCRs2': WHATEVER THE INPUT: true; the input reads as it did. -/
def fnArgCRs2Spec : ChangeSpec := { name := "fnArgCRs2", fn := fun _ => fun
  | [d] => { results := [.lit (.bool true)], args := [d] }
  | _ => none }
def fnArgCRs2Row : OpenClaim := { program := "ytajjnfnncbpjbaa", sum := "ecca4d41b60132380ad5ed9f5513a60874922518230c531e95fcf32c9ac010a1", func := "loop.example/pub-g03336/laws.FnArgCRs2", spec := "fnArgCRs2", apart := false }
def FnArgCRs2Said : Prop := fnArgCRs2Row.holds Try.pinned (OpenSpec.ofChange fnArgCRs2Spec)

/-- ITS FALSE NEIGHBOUR: 'it returns false'. Refute it at one input. -/
def fnArgCRs2Wrong : ChangeSpec := { name := "fnArgCRs2", fn := fun _ => fun
  | [d] => { results := [.lit (.bool false)], args := [d] }
  | _ => none }
def FnArgCRs2WrongFalsely : Prop := fnArgCRs2Row.holds Try.pinned (OpenSpec.ofChange fnArgCRs2Wrong)

/-- 'laws.FnArgCRs2N0': WHATEVER THE INPUT: true; the input reads as it did. -/
def fnArgCRs2N0Spec : ChangeSpec := { name := "fnArgCRs2N0", fn := fun _ => fun
  | [d] => { results := [.lit (.bool true)], args := [d] }
  | _ => none }
def fnArgCRs2N0Row : OpenClaim := { program := "ytajjnfnncbpjbaa", sum := "ecca4d41b60132380ad5ed9f5513a60874922518230c531e95fcf32c9ac010a1", func := "loop.example/pub-g03336/laws.FnArgCRs2N0", spec := "fnArgCRs2N0", apart := false }
def FnArgCRs2N0Said : Prop := fnArgCRs2N0Row.holds Try.pinned (OpenSpec.ofChange fnArgCRs2N0Spec)

/-- ITS FALSE NEIGHBOUR: 'it returns false'. Refute it at one input. -/
def fnArgCRs2N0Wrong : ChangeSpec := { name := "fnArgCRs2N0", fn := fun _ => fun
  | [d] => { results := [.lit (.bool false)], args := [d] }
  | _ => none }
def FnArgCRs2N0WrongFalsely : Prop := fnArgCRs2N0Row.holds Try.pinned (OpenSpec.ofChange fnArgCRs2N0Wrong)

/-- 'laws.FnArgCUimm8': WHATEVER THE INPUT: true; the input reads as it did. -/
def fnArgCUimm8Spec : ChangeSpec := { name := "fnArgCUimm8", fn := fun _ => fun
  | [d] => { results := [.lit (.bool true)], args := [d] }
  | _ => none }
def fnArgCUimm8Row : OpenClaim := { program := "ytajjnfnncbpjbaa", sum := "ecca4d41b60132380ad5ed9f5513a60874922518230c531e95fcf32c9ac010a1", func := "loop.example/pub-g03336/laws.FnArgCUimm8", spec := "fnArgCUimm8", apart := false }
def FnArgCUimm8Said : Prop := fnArgCUimm8Row.holds Try.pinned (OpenSpec.ofChange fnArgCUimm8Spec)

/-- ITS FALSE NEIGHBOUR: 'it returns false'. Refute it at one input. -/
def fnArgCUimm8Wrong : ChangeSpec := { name := "fnArgCUimm8", fn := fun _ => fun
  | [d] => { results := [.lit (.bool false)], args := [d] }
  | _ => none }
def FnArgCUimm8WrongFalsely : Prop := fnArgCUimm8Row.holds Try.pinned (OpenSpec.ofChange fnArgCUimm8Wrong)

/-- 'laws.FnArgCUimm8sp': WHATEVER THE INPUT: true; the input reads as it did. -/
def fnArgCUimm8spSpec : ChangeSpec := { name := "fnArgCUimm8sp", fn := fun _ => fun
  | [d] => { results := [.lit (.bool true)], args := [d] }
  | _ => none }
def fnArgCUimm8spRow : OpenClaim := { program := "ytajjnfnncbpjbaa", sum := "ecca4d41b60132380ad5ed9f5513a60874922518230c531e95fcf32c9ac010a1", func := "loop.example/pub-g03336/laws.FnArgCUimm8sp", spec := "fnArgCUimm8sp", apart := false }
def FnArgCUimm8spSaid : Prop := fnArgCUimm8spRow.holds Try.pinned (OpenSpec.ofChange fnArgCUimm8spSpec)

/-- ITS FALSE NEIGHBOUR: 'it returns false'. Refute it at one input. -/
def fnArgCUimm8spWrong : ChangeSpec := { name := "fnArgCUimm8sp", fn := fun _ => fun
  | [d] => { results := [.lit (.bool false)], args := [d] }
  | _ => none }
def FnArgCUimm8spWrongFalsely : Prop := fnArgCUimm8spRow.holds Try.pinned (OpenSpec.ofChange fnArgCUimm8spWrong)

/-- 'laws.FnArgCUimm9sp': WHATEVER THE INPUT: true; the input reads as it did. -/
def fnArgCUimm9spSpec : ChangeSpec := { name := "fnArgCUimm9sp", fn := fun _ => fun
  | [d] => { results := [.lit (.bool true)], args := [d] }
  | _ => none }
def fnArgCUimm9spRow : OpenClaim := { program := "ytajjnfnncbpjbaa", sum := "ecca4d41b60132380ad5ed9f5513a60874922518230c531e95fcf32c9ac010a1", func := "loop.example/pub-g03336/laws.FnArgCUimm9sp", spec := "fnArgCUimm9sp", apart := false }
def FnArgCUimm9spSaid : Prop := fnArgCUimm9spRow.holds Try.pinned (OpenSpec.ofChange fnArgCUimm9spSpec)

/-- ITS FALSE NEIGHBOUR: 'it returns false'. Refute it at one input. -/
def fnArgCUimm9spWrong : ChangeSpec := { name := "fnArgCUimm9sp", fn := fun _ => fun
  | [d] => { results := [.lit (.bool false)], args := [d] }
  | _ => none }
def FnArgCUimm9spWrongFalsely : Prop := fnArgCUimm9spRow.holds Try.pinned (OpenSpec.ofChange fnArgCUimm9spWrong)

/-- 'laws.FnArgFs1': WHATEVER THE INPUT: true; the input reads as it did. -/
def fnArgFs1Spec : ChangeSpec := { name := "fnArgFs1", fn := fun _ => fun
  | [d] => { results := [.lit (.bool true)], args := [d] }
  | _ => none }
def fnArgFs1Row : OpenClaim := { program := "ytajjnfnncbpjbaa", sum := "ecca4d41b60132380ad5ed9f5513a60874922518230c531e95fcf32c9ac010a1", func := "loop.example/pub-g03336/laws.FnArgFs1", spec := "fnArgFs1", apart := false }
def FnArgFs1Said : Prop := fnArgFs1Row.holds Try.pinned (OpenSpec.ofChange fnArgFs1Spec)

/-- ITS FALSE NEIGHBOUR: 'it returns false'. Refute it at one input. -/
def fnArgFs1Wrong : ChangeSpec := { name := "fnArgFs1", fn := fun _ => fun
  | [d] => { results := [.lit (.bool false)], args := [d] }
  | _ => none }
def FnArgFs1WrongFalsely : Prop := fnArgFs1Row.holds Try.pinned (OpenSpec.ofChange fnArgFs1Wrong)

/-- 'laws.FnArgFs2P': WHATEVER THE INPUT: true; the input reads as it did. -/
def fnArgFs2PSpec : ChangeSpec := { name := "fnArgFs2P", fn := fun _ => fun
  | [d] => { results := [.lit (.bool true)], args := [d] }
  | _ => none }
def fnArgFs2PRow : OpenClaim := { program := "ytajjnfnncbpjbaa", sum := "ecca4d41b60132380ad5ed9f5513a60874922518230c531e95fcf32c9ac010a1", func := "loop.example/pub-g03336/laws.FnArgFs2P", spec := "fnArgFs2P", apart := false }
def FnArgFs2PSaid : Prop := fnArgFs2PRow.holds Try.pinned (OpenSpec.ofChange fnArgFs2PSpec)

/-- ITS FALSE NEIGHBOUR: 'it returns false'. Refute it at one input. -/
def fnArgFs2PWrong : ChangeSpec := { name := "fnArgFs2P", fn := fun _ => fun
  | [d] => { results := [.lit (.bool false)], args := [d] }
  | _ => none }
def FnArgFs2PWrongFalsely : Prop := fnArgFs2PRow.holds Try.pinned (OpenSpec.ofChange fnArgFs2PWrong)

/-- 'laws.FnArgFs3': WHATEVER THE INPUT: true; the input reads as it did. -/
def fnArgFs3Spec : ChangeSpec := { name := "fnArgFs3", fn := fun _ => fun
  | [d] => { results := [.lit (.bool true)], args := [d] }
  | _ => none }
def fnArgFs3Row : OpenClaim := { program := "ytajjnfnncbpjbaa", sum := "ecca4d41b60132380ad5ed9f5513a60874922518230c531e95fcf32c9ac010a1", func := "loop.example/pub-g03336/laws.FnArgFs3", spec := "fnArgFs3", apart := false }
def FnArgFs3Said : Prop := fnArgFs3Row.holds Try.pinned (OpenSpec.ofChange fnArgFs3Spec)

/-- ITS FALSE NEIGHBOUR: 'it returns false'. Refute it at one input. -/
def fnArgFs3Wrong : ChangeSpec := { name := "fnArgFs3", fn := fun _ => fun
  | [d] => { results := [.lit (.bool false)], args := [d] }
  | _ => none }
def FnArgFs3WrongFalsely : Prop := fnArgFs3Row.holds Try.pinned (OpenSpec.ofChange fnArgFs3Wrong)

/-- 'laws.FnArgImm12': WHATEVER THE INPUT: true; the input reads as it did. -/
def fnArgImm12Spec : ChangeSpec := { name := "fnArgImm12", fn := fun _ => fun
  | [d] => { results := [.lit (.bool true)], args := [d] }
  | _ => none }
def fnArgImm12Row : OpenClaim := { program := "ytajjnfnncbpjbaa", sum := "ecca4d41b60132380ad5ed9f5513a60874922518230c531e95fcf32c9ac010a1", func := "loop.example/pub-g03336/laws.FnArgImm12", spec := "fnArgImm12", apart := false }
def FnArgImm12Said : Prop := fnArgImm12Row.holds Try.pinned (OpenSpec.ofChange fnArgImm12Spec)

/-- ITS FALSE NEIGHBOUR: 'it returns false'. Refute it at one input. -/
def fnArgImm12Wrong : ChangeSpec := { name := "fnArgImm12", fn := fun _ => fun
  | [d] => { results := [.lit (.bool false)], args := [d] }
  | _ => none }
def FnArgImm12WrongFalsely : Prop := fnArgImm12Row.holds Try.pinned (OpenSpec.ofChange fnArgImm12Wrong)

/-- 'laws.FnArgImm20': WHATEVER THE INPUT: true; the input reads as it did. -/
def fnArgImm20Spec : ChangeSpec := { name := "fnArgImm20", fn := fun _ => fun
  | [d] => { results := [.lit (.bool true)], args := [d] }
  | _ => none }
def fnArgImm20Row : OpenClaim := { program := "ytajjnfnncbpjbaa", sum := "ecca4d41b60132380ad5ed9f5513a60874922518230c531e95fcf32c9ac010a1", func := "loop.example/pub-g03336/laws.FnArgImm20", spec := "fnArgImm20", apart := false }
def FnArgImm20Said : Prop := fnArgImm20Row.holds Try.pinned (OpenSpec.ofChange fnArgImm20Spec)

/-- ITS FALSE NEIGHBOUR: 'it returns false'. Refute it at one input. -/
def fnArgImm20Wrong : ChangeSpec := { name := "fnArgImm20", fn := fun _ => fun
  | [d] => { results := [.lit (.bool false)], args := [d] }
  | _ => none }
def FnArgImm20WrongFalsely : Prop := fnArgImm20Row.holds Try.pinned (OpenSpec.ofChange fnArgImm20Wrong)

/- THE SECOND FORM. 'bulk': how many values and letters a reading holds, each counted each time it is reached (what is shared counts as often as it is met; a slice's spare places count too). A statement '..UptoSaid' is the law's where the arguments, and the package variables that the reading takes, are together of bulk at most 1048576: NARROWER than '..Said'. Prove '..Said' where nothing that the law and all that it calls make is longer than what came in: it says more and counts as full. Else prove '..UptoSaid'. A law counts once. -/
mutual
def uptoBulk {H : Type} : DataW H → Nat
  | .lit (.string bytes) => bytes.length + 1
  | .lit _ => 1
  | .nil => 1
  | .ptr d => uptoBulk d + 1
  | .slice elems spare => uptoBulkAll elems + uptoBulkAll spare + 1
  | .agg parts => uptoBulkAll parts + 1
  | .iface _ d => uptoBulk d + 1
  | .map entries => uptoBulkEntries entries + 1
  | .held _ => 1
def uptoBulkAll {H : Type} : List (DataW H) → Nat
  | [] => 0
  | d :: r => uptoBulk d + uptoBulkAll r
def uptoBulkEntries {H : Type} : List (Lit × DataW H) → Nat
  | [] => 0
  | x :: r => uptoBulkEntry x + uptoBulkEntries r
def uptoBulkEntry {H : Type} : Lit × DataW H → Nat
  | (.string bytes, d) => bytes.length + uptoBulk d + 1
  | (_, d) => uptoBulk d + 1
 end
def uptoSmall : (H : Type) → List (DataW H) → Bool := fun _ ds => decide (uptoBulkAll ds ≤ 1048576)
def OpenSpec.upto (s : _root_.Go.ChangeSpec) : _root_.Go.OpenSpec := { _root_.Go.OpenSpec.ofChange s with cond := some uptoSmall }

/-- 'laws.FnArgCNzimm10', WHERE WHAT IT READS IS OF BULK AT MOST 1048576: true; the input reads as it did. -/
def fnArgCNzimm10UptoRow : OpenClaim := { program := "ytajjnfnncbpjbaa", sum := "ecca4d41b60132380ad5ed9f5513a60874922518230c531e95fcf32c9ac010a1", func := "loop.example/pub-g03336/laws.FnArgCNzimm10", spec := "fnArgCNzimm10", apart := false, narrowed := true }
def FnArgCNzimm10UptoSaid : Prop := fnArgCNzimm10UptoRow.holds Try.pinned (OpenSpec.upto fnArgCNzimm10Spec)

/-- 'laws.FnArgCNzuimm6', WHERE WHAT IT READS IS OF BULK AT MOST 1048576: true; the input reads as it did. -/
def fnArgCNzuimm6UptoRow : OpenClaim := { program := "ytajjnfnncbpjbaa", sum := "ecca4d41b60132380ad5ed9f5513a60874922518230c531e95fcf32c9ac010a1", func := "loop.example/pub-g03336/laws.FnArgCNzuimm6", spec := "fnArgCNzuimm6", apart := false, narrowed := true }
def FnArgCNzuimm6UptoSaid : Prop := fnArgCNzuimm6UptoRow.holds Try.pinned (OpenSpec.upto fnArgCNzuimm6Spec)

/-- 'laws.FnArgCRs2', WHERE WHAT IT READS IS OF BULK AT MOST 1048576: true; the input reads as it did. -/
def fnArgCRs2UptoRow : OpenClaim := { program := "ytajjnfnncbpjbaa", sum := "ecca4d41b60132380ad5ed9f5513a60874922518230c531e95fcf32c9ac010a1", func := "loop.example/pub-g03336/laws.FnArgCRs2", spec := "fnArgCRs2", apart := false, narrowed := true }
def FnArgCRs2UptoSaid : Prop := fnArgCRs2UptoRow.holds Try.pinned (OpenSpec.upto fnArgCRs2Spec)

/-- 'laws.FnArgCRs2N0', WHERE WHAT IT READS IS OF BULK AT MOST 1048576: true; the input reads as it did. -/
def fnArgCRs2N0UptoRow : OpenClaim := { program := "ytajjnfnncbpjbaa", sum := "ecca4d41b60132380ad5ed9f5513a60874922518230c531e95fcf32c9ac010a1", func := "loop.example/pub-g03336/laws.FnArgCRs2N0", spec := "fnArgCRs2N0", apart := false, narrowed := true }
def FnArgCRs2N0UptoSaid : Prop := fnArgCRs2N0UptoRow.holds Try.pinned (OpenSpec.upto fnArgCRs2N0Spec)

/-- 'laws.FnArgCUimm8', WHERE WHAT IT READS IS OF BULK AT MOST 1048576: true; the input reads as it did. -/
def fnArgCUimm8UptoRow : OpenClaim := { program := "ytajjnfnncbpjbaa", sum := "ecca4d41b60132380ad5ed9f5513a60874922518230c531e95fcf32c9ac010a1", func := "loop.example/pub-g03336/laws.FnArgCUimm8", spec := "fnArgCUimm8", apart := false, narrowed := true }
def FnArgCUimm8UptoSaid : Prop := fnArgCUimm8UptoRow.holds Try.pinned (OpenSpec.upto fnArgCUimm8Spec)

/-- 'laws.FnArgCUimm8sp', WHERE WHAT IT READS IS OF BULK AT MOST 1048576: true; the input reads as it did. -/
def fnArgCUimm8spUptoRow : OpenClaim := { program := "ytajjnfnncbpjbaa", sum := "ecca4d41b60132380ad5ed9f5513a60874922518230c531e95fcf32c9ac010a1", func := "loop.example/pub-g03336/laws.FnArgCUimm8sp", spec := "fnArgCUimm8sp", apart := false, narrowed := true }
def FnArgCUimm8spUptoSaid : Prop := fnArgCUimm8spUptoRow.holds Try.pinned (OpenSpec.upto fnArgCUimm8spSpec)

/-- 'laws.FnArgCUimm9sp', WHERE WHAT IT READS IS OF BULK AT MOST 1048576: true; the input reads as it did. -/
def fnArgCUimm9spUptoRow : OpenClaim := { program := "ytajjnfnncbpjbaa", sum := "ecca4d41b60132380ad5ed9f5513a60874922518230c531e95fcf32c9ac010a1", func := "loop.example/pub-g03336/laws.FnArgCUimm9sp", spec := "fnArgCUimm9sp", apart := false, narrowed := true }
def FnArgCUimm9spUptoSaid : Prop := fnArgCUimm9spUptoRow.holds Try.pinned (OpenSpec.upto fnArgCUimm9spSpec)

/-- 'laws.FnArgFs1', WHERE WHAT IT READS IS OF BULK AT MOST 1048576: true; the input reads as it did. -/
def fnArgFs1UptoRow : OpenClaim := { program := "ytajjnfnncbpjbaa", sum := "ecca4d41b60132380ad5ed9f5513a60874922518230c531e95fcf32c9ac010a1", func := "loop.example/pub-g03336/laws.FnArgFs1", spec := "fnArgFs1", apart := false, narrowed := true }
def FnArgFs1UptoSaid : Prop := fnArgFs1UptoRow.holds Try.pinned (OpenSpec.upto fnArgFs1Spec)

/-- 'laws.FnArgFs2P', WHERE WHAT IT READS IS OF BULK AT MOST 1048576: true; the input reads as it did. -/
def fnArgFs2PUptoRow : OpenClaim := { program := "ytajjnfnncbpjbaa", sum := "ecca4d41b60132380ad5ed9f5513a60874922518230c531e95fcf32c9ac010a1", func := "loop.example/pub-g03336/laws.FnArgFs2P", spec := "fnArgFs2P", apart := false, narrowed := true }
def FnArgFs2PUptoSaid : Prop := fnArgFs2PUptoRow.holds Try.pinned (OpenSpec.upto fnArgFs2PSpec)

/-- 'laws.FnArgFs3', WHERE WHAT IT READS IS OF BULK AT MOST 1048576: true; the input reads as it did. -/
def fnArgFs3UptoRow : OpenClaim := { program := "ytajjnfnncbpjbaa", sum := "ecca4d41b60132380ad5ed9f5513a60874922518230c531e95fcf32c9ac010a1", func := "loop.example/pub-g03336/laws.FnArgFs3", spec := "fnArgFs3", apart := false, narrowed := true }
def FnArgFs3UptoSaid : Prop := fnArgFs3UptoRow.holds Try.pinned (OpenSpec.upto fnArgFs3Spec)

/-- 'laws.FnArgImm12', WHERE WHAT IT READS IS OF BULK AT MOST 1048576: true; the input reads as it did. -/
def fnArgImm12UptoRow : OpenClaim := { program := "ytajjnfnncbpjbaa", sum := "ecca4d41b60132380ad5ed9f5513a60874922518230c531e95fcf32c9ac010a1", func := "loop.example/pub-g03336/laws.FnArgImm12", spec := "fnArgImm12", apart := false, narrowed := true }
def FnArgImm12UptoSaid : Prop := fnArgImm12UptoRow.holds Try.pinned (OpenSpec.upto fnArgImm12Spec)

/-- 'laws.FnArgImm20', WHERE WHAT IT READS IS OF BULK AT MOST 1048576: true; the input reads as it did. -/
def fnArgImm20UptoRow : OpenClaim := { program := "ytajjnfnncbpjbaa", sum := "ecca4d41b60132380ad5ed9f5513a60874922518230c531e95fcf32c9ac010a1", func := "loop.example/pub-g03336/laws.FnArgImm20", spec := "fnArgImm20", apart := false, narrowed := true }
def FnArgImm20UptoSaid : Prop := fnArgImm20UptoRow.holds Try.pinned (OpenSpec.upto fnArgImm20Spec)

end Rows
end Go.Proofs.Ytajjnfnncbpjbaa
