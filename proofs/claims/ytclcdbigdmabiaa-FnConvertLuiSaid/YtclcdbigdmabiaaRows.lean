/-
  No cell of these rows narrows 'for every input' (looked for: loops, veiled, ifaces, maps, wideKeys, modest, calm, conditions, laid).
  DERIVED. THE GIVEN ROWS OF THIS SEAT. 4 by the template 'for every input the law returns true; each argument reads behind the call as it read before'; 0 by the template 'total and deterministic' (their statements: YtclcdbigdmabiaaTotals.lean).
  GIVEN WITH THE SEED: the statements are not yours to turn. If you find one false, say at which input.
  Laid BY PROGRAM, IN A SANDBOX (cutbox-rows.mjs): the forced cells as the released guide's own fill.sh prints them over the translation 9d0dc2c4ce430d91… (all of the seat's roots in one cut). By AI agents, Wed Nov 11 2026. No macro, syntax, notation, axiom, sorry.
-/
import Derived.Test.YtclcdbigdmabiaaChecked
import GoSem.Claim
import GoSem.ClaimJoined
import GoSem.ClaimMapViews
import Derived.JoinedTies
import Derived.KernelRfl
namespace Go.Proofs.Ytclcdbigdmabiaa
/- THE CELL 'sum', in the pinned program and in every row, IS THE sha256 OF THE DUMP (.gsa) THAT YtclcdbigdmabiaaProg.lean LOADS. Nothing in Lean hashes anything: it is a label: what it is worth is what the hold of that sum in a sandbox is worth. -/
noncomputable def Try.pinned : Pinned := { name := "ytclcdbigdmabiaa", sum := "9d0dc2c4ce430d917e1552c54d9f6c557416d3be595911114b0f8fc96607c09f", checked := Try.checked }
namespace Rows
def none {H : Type} : Left H := { results := [], args := [] }

/-- 'laws.FnConvertEbreak': WHATEVER THE INPUT: true; the input reads as it did. -/
def fnConvertEbreakSpec : ChangeSpec := { name := "fnConvertEbreak", fn := fun _ => fun
  | [d] => { results := [.lit (.bool true)], args := [d] }
  | _ => none }
def fnConvertEbreakRow : OpenClaim := { program := "ytclcdbigdmabiaa", sum := "9d0dc2c4ce430d917e1552c54d9f6c557416d3be595911114b0f8fc96607c09f", func := "loop.example/pub-g03336/laws.FnConvertEbreak", spec := "fnConvertEbreak", apart := false }
def FnConvertEbreakSaid : Prop := fnConvertEbreakRow.holds Try.pinned (OpenSpec.ofChange fnConvertEbreakSpec)

/-- ITS FALSE NEIGHBOUR: 'it returns false'. Refute it at one input. -/
def fnConvertEbreakWrong : ChangeSpec := { name := "fnConvertEbreak", fn := fun _ => fun
  | [d] => { results := [.lit (.bool false)], args := [d] }
  | _ => none }
def FnConvertEbreakWrongFalsely : Prop := fnConvertEbreakRow.holds Try.pinned (OpenSpec.ofChange fnConvertEbreakWrong)

/-- 'laws.FnArgCImm6': WHATEVER THE INPUT: true; the input reads as it did. -/
def fnArgCImm6Spec : ChangeSpec := { name := "fnArgCImm6", fn := fun _ => fun
  | [d] => { results := [.lit (.bool true)], args := [d] }
  | _ => none }
def fnArgCImm6Row : OpenClaim := { program := "ytclcdbigdmabiaa", sum := "9d0dc2c4ce430d917e1552c54d9f6c557416d3be595911114b0f8fc96607c09f", func := "loop.example/pub-g03336/laws.FnArgCImm6", spec := "fnArgCImm6", apart := false }
def FnArgCImm6Said : Prop := fnArgCImm6Row.holds Try.pinned (OpenSpec.ofChange fnArgCImm6Spec)

/-- ITS FALSE NEIGHBOUR: 'it returns false'. Refute it at one input. -/
def fnArgCImm6Wrong : ChangeSpec := { name := "fnArgCImm6", fn := fun _ => fun
  | [d] => { results := [.lit (.bool false)], args := [d] }
  | _ => none }
def FnArgCImm6WrongFalsely : Prop := fnArgCImm6Row.holds Try.pinned (OpenSpec.ofChange fnArgCImm6Wrong)

/-- 'laws.FnArgRs1Store': WHATEVER THE INPUT: true; the input reads as it did. -/
def fnArgRs1StoreSpec : ChangeSpec := { name := "fnArgRs1Store", fn := fun _ => fun
  | [d] => { results := [.lit (.bool true)], args := [d] }
  | _ => none }
def fnArgRs1StoreRow : OpenClaim := { program := "ytclcdbigdmabiaa", sum := "9d0dc2c4ce430d917e1552c54d9f6c557416d3be595911114b0f8fc96607c09f", func := "loop.example/pub-g03336/laws.FnArgRs1Store", spec := "fnArgRs1Store", apart := false }
def FnArgRs1StoreSaid : Prop := fnArgRs1StoreRow.holds Try.pinned (OpenSpec.ofChange fnArgRs1StoreSpec)

/-- ITS FALSE NEIGHBOUR: 'it returns false'. Refute it at one input. -/
def fnArgRs1StoreWrong : ChangeSpec := { name := "fnArgRs1Store", fn := fun _ => fun
  | [d] => { results := [.lit (.bool false)], args := [d] }
  | _ => none }
def FnArgRs1StoreWrongFalsely : Prop := fnArgRs1StoreRow.holds Try.pinned (OpenSpec.ofChange fnArgRs1StoreWrong)

/-- 'laws.FnConvertLui': WHATEVER THE INPUT: true; the input reads as it did. -/
def fnConvertLuiSpec : ChangeSpec := { name := "fnConvertLui", fn := fun _ => fun
  | [d] => { results := [.lit (.bool true)], args := [d] }
  | _ => none }
def fnConvertLuiRow : OpenClaim := { program := "ytclcdbigdmabiaa", sum := "9d0dc2c4ce430d917e1552c54d9f6c557416d3be595911114b0f8fc96607c09f", func := "loop.example/pub-g03336/laws.FnConvertLui", spec := "fnConvertLui", apart := false }
def FnConvertLuiSaid : Prop := fnConvertLuiRow.holds Try.pinned (OpenSpec.ofChange fnConvertLuiSpec)

/-- ITS FALSE NEIGHBOUR: 'it returns false'. Refute it at one input. -/
def fnConvertLuiWrong : ChangeSpec := { name := "fnConvertLui", fn := fun _ => fun
  | [d] => { results := [.lit (.bool false)], args := [d] }
  | _ => none }
def FnConvertLuiWrongFalsely : Prop := fnConvertLuiRow.holds Try.pinned (OpenSpec.ofChange fnConvertLuiWrong)

/- THE SECOND FORM. 'bulk': how many values and letters a reading holds, each counted each time it is reached (what is shared counts as often as it is met; a slice's spare places count too). A statement '..UptoSaid' is the law's where the arguments, and the package variables that the reading takes, are together of bulk at most 1048576: NARROWER than '..Said'. Prove '..Said' where nothing that the law and all that it calls make is longer than what came in: it says more and counts as full. Else prove '..UptoSaid'. A law counts once. -/
mutual
def uptoBulk {H : Type} : DataW H → Nat
  | .lit (.string bytes) => bytes.length + 1
  | .lit _ => 1
  | .nil => 1
  | .ptr d => uptoBulk d + 1
  | .slice elems spare => uptoBulkAll elems + uptoBulkAll spare + 1
  | .agg parts => uptoBulkAll parts + 1
  | .iface _ d => uptoBulk d + 1
  | .map entries => uptoBulkEntries entries + 1
  | .held _ => 1
def uptoBulkAll {H : Type} : List (DataW H) → Nat
  | [] => 0
  | d :: r => uptoBulk d + uptoBulkAll r
def uptoBulkEntries {H : Type} : List (Lit × DataW H) → Nat
  | [] => 0
  | x :: r => uptoBulkEntry x + uptoBulkEntries r
def uptoBulkEntry {H : Type} : Lit × DataW H → Nat
  | (.string bytes, d) => bytes.length + uptoBulk d + 1
  | (_, d) => uptoBulk d + 1
 end
def uptoSmall : (H : Type) → List (DataW H) → Bool := fun _ ds => decide (uptoBulkAll ds ≤ 1048576)
def OpenSpec.upto (s : _root_.Go.ChangeSpec) : _root_.Go.OpenSpec := { _root_.Go.OpenSpec.ofChange s with cond := some uptoSmall }

/-- 'laws.FnConvertEbreak', WHERE WHAT IT READS IS OF BULK AT MOST 1048576: true; the input reads as it did. -/
def fnConvertEbreakUptoRow : OpenClaim := { program := "ytclcdbigdmabiaa", sum := "9d0dc2c4ce430d917e1552c54d9f6c557416d3be595911114b0f8fc96607c09f", func := "loop.example/pub-g03336/laws.FnConvertEbreak", spec := "fnConvertEbreak", apart := false, narrowed := true }
def FnConvertEbreakUptoSaid : Prop := fnConvertEbreakUptoRow.holds Try.pinned (OpenSpec.upto fnConvertEbreakSpec)

/-- 'laws.FnArgCImm6', WHERE WHAT IT READS IS OF BULK AT MOST 1048576: true; the input reads as it did. -/
def fnArgCImm6UptoRow : OpenClaim := { program := "ytclcdbigdmabiaa", sum := "9d0dc2c4ce430d917e1552c54d9f6c557416d3be595911114b0f8fc96607c09f", func := "loop.example/pub-g03336/laws.FnArgCImm6", spec := "fnArgCImm6", apart := false, narrowed := true }
def FnArgCImm6UptoSaid : Prop := fnArgCImm6UptoRow.holds Try.pinned (OpenSpec.upto fnArgCImm6Spec)

/-- 'laws.FnArgRs1Store', WHERE WHAT IT READS IS OF BULK AT MOST 1048576: true; the input reads as it did. -/
def fnArgRs1StoreUptoRow : OpenClaim := { program := "ytclcdbigdmabiaa", sum := "9d0dc2c4ce430d917e1552c54d9f6c557416d3be595911114b0f8fc96607c09f", func := "loop.example/pub-g03336/laws.FnArgRs1Store", spec := "fnArgRs1Store", apart := false, narrowed := true }
def FnArgRs1StoreUptoSaid : Prop := fnArgRs1StoreUptoRow.holds Try.pinned (OpenSpec.upto fnArgRs1StoreSpec)

/-- 'laws.FnConvertLui', WHERE WHAT IT READS IS OF BULK AT MOST 1048576: true; the input reads as it did. -/
def fnConvertLuiUptoRow : OpenClaim := { program := "ytclcdbigdmabiaa", sum := "9d0dc2c4ce430d917e1552c54d9f6c557416d3be595911114b0f8fc96607c09f", func := "loop.example/pub-g03336/laws.FnConvertLui", spec := "fnConvertLui", apart := false, narrowed := true }
def FnConvertLuiUptoSaid : Prop := fnConvertLuiUptoRow.holds Try.pinned (OpenSpec.upto fnConvertLuiSpec)

end Rows
end Go.Proofs.Ytclcdbigdmabiaa
