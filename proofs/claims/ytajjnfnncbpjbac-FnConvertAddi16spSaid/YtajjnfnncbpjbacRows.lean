/-
  No cell of these rows narrows 'for every input' (looked for: loops, veiled, ifaces, maps, wideKeys, modest, calm, conditions, laid).
  DERIVED. THE GIVEN ROWS OF THIS SEAT. 12 by the template 'for every input the law returns true; each argument reads behind the call as it read before'; 0 by the template 'total and deterministic' (their statements: YtajjnfnncbpjbacTotals.lean).
  GIVEN WITH THE SEED: the statements are not yours to turn. If you find one false, say at which input.
  Laid BY PROGRAM, IN A SANDBOX (cutbox-rows.mjs): the forced cells as the released guide's own fill.sh prints them over the translation d4676b7472189995… (all of the seat's roots in one cut). By AI agents, Wed Nov 11 2026. No macro, syntax, notation, axiom, sorry.
-/
import Derived.Test.YtajjnfnncbpjbacChecked
import GoSem.Claim
import GoSem.ClaimJoined
import GoSem.ClaimMapViews
import Derived.JoinedTies
import Derived.KernelRfl
namespace Go.Proofs.Ytajjnfnncbpjbac
/- THE CELL 'sum', in the pinned program and in every row, IS THE sha256 OF THE DUMP (.gsa) THAT YtajjnfnncbpjbacProg.lean LOADS. Nothing in Lean hashes anything: it is a label: what it is worth is what the hold of that sum in a sandbox is worth. -/
noncomputable def Try.pinned : Pinned := { name := "ytajjnfnncbpjbac", sum := "d4676b74721899955ce0c5e26d8d568ca8dc576fe025591ce15150dd8510ae3e", checked := Try.checked }
namespace Rows
def none {H : Type} : Left H := { results := [], args := [] }

/-- 'laws.FnArgVtypeZimm11': WHATEVER THE INPUT: true; the input reads as it did. -/
def fnArgVtypeZimm11Spec : ChangeSpec := { name := "fnArgVtypeZimm11", fn := fun _ => fun
  | [d] => { results := [.lit (.bool true)], args := [d] }
  | _ => none }
def fnArgVtypeZimm11Row : OpenClaim := { program := "ytajjnfnncbpjbac", sum := "d4676b74721899955ce0c5e26d8d568ca8dc576fe025591ce15150dd8510ae3e", func := "loop.example/pub-g03336/laws.FnArgVtypeZimm11", spec := "fnArgVtypeZimm11", apart := false }
def FnArgVtypeZimm11Said : Prop := fnArgVtypeZimm11Row.holds Try.pinned (OpenSpec.ofChange fnArgVtypeZimm11Spec)

/-- ITS FALSE NEIGHBOUR: 'it returns false'. Refute it at one input. -/
def fnArgVtypeZimm11Wrong : ChangeSpec := { name := "fnArgVtypeZimm11", fn := fun _ => fun
  | [d] => { results := [.lit (.bool false)], args := [d] }
  | _ => none }
def FnArgVtypeZimm11WrongFalsely : Prop := fnArgVtypeZimm11Row.holds Try.pinned (OpenSpec.ofChange fnArgVtypeZimm11Wrong)

/-- 'laws.FnArgZimm5': WHATEVER THE INPUT: true; the input reads as it did. -/
def fnArgZimm5Spec : ChangeSpec := { name := "fnArgZimm5", fn := fun _ => fun
  | [d] => { results := [.lit (.bool true)], args := [d] }
  | _ => none }
def fnArgZimm5Row : OpenClaim := { program := "ytajjnfnncbpjbac", sum := "d4676b74721899955ce0c5e26d8d568ca8dc576fe025591ce15150dd8510ae3e", func := "loop.example/pub-g03336/laws.FnArgZimm5", spec := "fnArgZimm5", apart := false }
def FnArgZimm5Said : Prop := fnArgZimm5Row.holds Try.pinned (OpenSpec.ofChange fnArgZimm5Spec)

/-- ITS FALSE NEIGHBOUR: 'it returns false'. Refute it at one input. -/
def fnArgZimm5Wrong : ChangeSpec := { name := "fnArgZimm5", fn := fun _ => fun
  | [d] => { results := [.lit (.bool false)], args := [d] }
  | _ => none }
def FnArgZimm5WrongFalsely : Prop := fnArgZimm5Row.holds Try.pinned (OpenSpec.ofChange fnArgZimm5Wrong)

/-- 'laws.FnConvertAddi16sp': WHATEVER THE INPUT: true; the input reads as it did. -/
def fnConvertAddi16spSpec : ChangeSpec := { name := "fnConvertAddi16sp", fn := fun _ => fun
  | [d] => { results := [.lit (.bool true)], args := [d] }
  | _ => none }
def fnConvertAddi16spRow : OpenClaim := { program := "ytajjnfnncbpjbac", sum := "d4676b74721899955ce0c5e26d8d568ca8dc576fe025591ce15150dd8510ae3e", func := "loop.example/pub-g03336/laws.FnConvertAddi16sp", spec := "fnConvertAddi16sp", apart := false }
def FnConvertAddi16spSaid : Prop := fnConvertAddi16spRow.holds Try.pinned (OpenSpec.ofChange fnConvertAddi16spSpec)

/-- ITS FALSE NEIGHBOUR: 'it returns false'. Refute it at one input. -/
def fnConvertAddi16spWrong : ChangeSpec := { name := "fnConvertAddi16sp", fn := fun _ => fun
  | [d] => { results := [.lit (.bool false)], args := [d] }
  | _ => none }
def FnConvertAddi16spWrongFalsely : Prop := fnConvertAddi16spRow.holds Try.pinned (OpenSpec.ofChange fnConvertAddi16spWrong)

/-- 'laws.FnConvertJalr': WHATEVER THE INPUT: true; the input reads as it did. -/
def fnConvertJalrSpec : ChangeSpec := { name := "fnConvertJalr", fn := fun _ => fun
  | [d] => { results := [.lit (.bool true)], args := [d] }
  | _ => none }
def fnConvertJalrRow : OpenClaim := { program := "ytajjnfnncbpjbac", sum := "d4676b74721899955ce0c5e26d8d568ca8dc576fe025591ce15150dd8510ae3e", func := "loop.example/pub-g03336/laws.FnConvertJalr", spec := "fnConvertJalr", apart := false }
def FnConvertJalrSaid : Prop := fnConvertJalrRow.holds Try.pinned (OpenSpec.ofChange fnConvertJalrSpec)

/-- ITS FALSE NEIGHBOUR: 'it returns false'. Refute it at one input. -/
def fnConvertJalrWrong : ChangeSpec := { name := "fnConvertJalr", fn := fun _ => fun
  | [d] => { results := [.lit (.bool false)], args := [d] }
  | _ => none }
def FnConvertJalrWrongFalsely : Prop := fnConvertJalrRow.holds Try.pinned (OpenSpec.ofChange fnConvertJalrWrong)

/-- 'laws.FnConvertAdd': WHATEVER THE INPUT: true; the input reads as it did. -/
def fnConvertAddSpec : ChangeSpec := { name := "fnConvertAdd", fn := fun _ => fun
  | [d] => { results := [.lit (.bool true)], args := [d] }
  | _ => none }
def fnConvertAddRow : OpenClaim := { program := "ytajjnfnncbpjbac", sum := "d4676b74721899955ce0c5e26d8d568ca8dc576fe025591ce15150dd8510ae3e", func := "loop.example/pub-g03336/laws.FnConvertAdd", spec := "fnConvertAdd", apart := false }
def FnConvertAddSaid : Prop := fnConvertAddRow.holds Try.pinned (OpenSpec.ofChange fnConvertAddSpec)

/-- ITS FALSE NEIGHBOUR: 'it returns false'. Refute it at one input. -/
def fnConvertAddWrong : ChangeSpec := { name := "fnConvertAdd", fn := fun _ => fun
  | [d] => { results := [.lit (.bool false)], args := [d] }
  | _ => none }
def FnConvertAddWrongFalsely : Prop := fnConvertAddRow.holds Try.pinned (OpenSpec.ofChange fnConvertAddWrong)

/-- 'laws.FnConvertAddiw': WHATEVER THE INPUT: true; the input reads as it did. -/
def fnConvertAddiwSpec : ChangeSpec := { name := "fnConvertAddiw", fn := fun _ => fun
  | [d] => { results := [.lit (.bool true)], args := [d] }
  | _ => none }
def fnConvertAddiwRow : OpenClaim := { program := "ytajjnfnncbpjbac", sum := "d4676b74721899955ce0c5e26d8d568ca8dc576fe025591ce15150dd8510ae3e", func := "loop.example/pub-g03336/laws.FnConvertAddiw", spec := "fnConvertAddiw", apart := false }
def FnConvertAddiwSaid : Prop := fnConvertAddiwRow.holds Try.pinned (OpenSpec.ofChange fnConvertAddiwSpec)

/-- ITS FALSE NEIGHBOUR: 'it returns false'. Refute it at one input. -/
def fnConvertAddiwWrong : ChangeSpec := { name := "fnConvertAddiw", fn := fun _ => fun
  | [d] => { results := [.lit (.bool false)], args := [d] }
  | _ => none }
def FnConvertAddiwWrongFalsely : Prop := fnConvertAddiwRow.holds Try.pinned (OpenSpec.ofChange fnConvertAddiwWrong)

/-- 'laws.FnConvertAnd': WHATEVER THE INPUT: true; the input reads as it did. -/
def fnConvertAndSpec : ChangeSpec := { name := "fnConvertAnd", fn := fun _ => fun
  | [d] => { results := [.lit (.bool true)], args := [d] }
  | _ => none }
def fnConvertAndRow : OpenClaim := { program := "ytajjnfnncbpjbac", sum := "d4676b74721899955ce0c5e26d8d568ca8dc576fe025591ce15150dd8510ae3e", func := "loop.example/pub-g03336/laws.FnConvertAnd", spec := "fnConvertAnd", apart := false }
def FnConvertAndSaid : Prop := fnConvertAndRow.holds Try.pinned (OpenSpec.ofChange fnConvertAndSpec)

/-- ITS FALSE NEIGHBOUR: 'it returns false'. Refute it at one input. -/
def fnConvertAndWrong : ChangeSpec := { name := "fnConvertAnd", fn := fun _ => fun
  | [d] => { results := [.lit (.bool false)], args := [d] }
  | _ => none }
def FnConvertAndWrongFalsely : Prop := fnConvertAndRow.holds Try.pinned (OpenSpec.ofChange fnConvertAndWrong)

/-- 'laws.FnConvertBeqz': WHATEVER THE INPUT: true; the input reads as it did. -/
def fnConvertBeqzSpec : ChangeSpec := { name := "fnConvertBeqz", fn := fun _ => fun
  | [d] => { results := [.lit (.bool true)], args := [d] }
  | _ => none }
def fnConvertBeqzRow : OpenClaim := { program := "ytajjnfnncbpjbac", sum := "d4676b74721899955ce0c5e26d8d568ca8dc576fe025591ce15150dd8510ae3e", func := "loop.example/pub-g03336/laws.FnConvertBeqz", spec := "fnConvertBeqz", apart := false }
def FnConvertBeqzSaid : Prop := fnConvertBeqzRow.holds Try.pinned (OpenSpec.ofChange fnConvertBeqzSpec)

/-- ITS FALSE NEIGHBOUR: 'it returns false'. Refute it at one input. -/
def fnConvertBeqzWrong : ChangeSpec := { name := "fnConvertBeqz", fn := fun _ => fun
  | [d] => { results := [.lit (.bool false)], args := [d] }
  | _ => none }
def FnConvertBeqzWrongFalsely : Prop := fnConvertBeqzRow.holds Try.pinned (OpenSpec.ofChange fnConvertBeqzWrong)

/-- 'laws.FnConvertFldsp': WHATEVER THE INPUT: true; the input reads as it did. -/
def fnConvertFldspSpec : ChangeSpec := { name := "fnConvertFldsp", fn := fun _ => fun
  | [d] => { results := [.lit (.bool true)], args := [d] }
  | _ => none }
def fnConvertFldspRow : OpenClaim := { program := "ytajjnfnncbpjbac", sum := "d4676b74721899955ce0c5e26d8d568ca8dc576fe025591ce15150dd8510ae3e", func := "loop.example/pub-g03336/laws.FnConvertFldsp", spec := "fnConvertFldsp", apart := false }
def FnConvertFldspSaid : Prop := fnConvertFldspRow.holds Try.pinned (OpenSpec.ofChange fnConvertFldspSpec)

/-- ITS FALSE NEIGHBOUR: 'it returns false'. Refute it at one input. -/
def fnConvertFldspWrong : ChangeSpec := { name := "fnConvertFldsp", fn := fun _ => fun
  | [d] => { results := [.lit (.bool false)], args := [d] }
  | _ => none }
def FnConvertFldspWrongFalsely : Prop := fnConvertFldspRow.holds Try.pinned (OpenSpec.ofChange fnConvertFldspWrong)

/-- 'laws.FnConvertFsdsp': WHATEVER THE INPUT: true; the input reads as it did. -/
def fnConvertFsdspSpec : ChangeSpec := { name := "fnConvertFsdsp", fn := fun _ => fun
  | [d] => { results := [.lit (.bool true)], args := [d] }
  | _ => none }
def fnConvertFsdspRow : OpenClaim := { program := "ytajjnfnncbpjbac", sum := "d4676b74721899955ce0c5e26d8d568ca8dc576fe025591ce15150dd8510ae3e", func := "loop.example/pub-g03336/laws.FnConvertFsdsp", spec := "fnConvertFsdsp", apart := false }
def FnConvertFsdspSaid : Prop := fnConvertFsdspRow.holds Try.pinned (OpenSpec.ofChange fnConvertFsdspSpec)

/-- ITS FALSE NEIGHBOUR: 'it returns false'. Refute it at one input. -/
def fnConvertFsdspWrong : ChangeSpec := { name := "fnConvertFsdsp", fn := fun _ => fun
  | [d] => { results := [.lit (.bool false)], args := [d] }
  | _ => none }
def FnConvertFsdspWrongFalsely : Prop := fnConvertFsdspRow.holds Try.pinned (OpenSpec.ofChange fnConvertFsdspWrong)

/-- 'laws.FnConvertLi': WHATEVER THE INPUT: true; the input reads as it did. -/
def fnConvertLiSpec : ChangeSpec := { name := "fnConvertLi", fn := fun _ => fun
  | [d] => { results := [.lit (.bool true)], args := [d] }
  | _ => none }
def fnConvertLiRow : OpenClaim := { program := "ytajjnfnncbpjbac", sum := "d4676b74721899955ce0c5e26d8d568ca8dc576fe025591ce15150dd8510ae3e", func := "loop.example/pub-g03336/laws.FnConvertLi", spec := "fnConvertLi", apart := false }
def FnConvertLiSaid : Prop := fnConvertLiRow.holds Try.pinned (OpenSpec.ofChange fnConvertLiSpec)

/-- ITS FALSE NEIGHBOUR: 'it returns false'. Refute it at one input. -/
def fnConvertLiWrong : ChangeSpec := { name := "fnConvertLi", fn := fun _ => fun
  | [d] => { results := [.lit (.bool false)], args := [d] }
  | _ => none }
def FnConvertLiWrongFalsely : Prop := fnConvertLiRow.holds Try.pinned (OpenSpec.ofChange fnConvertLiWrong)

/-- 'laws.FnConvertLwsp': WHATEVER THE INPUT: true; the input reads as it did. -/
def fnConvertLwspSpec : ChangeSpec := { name := "fnConvertLwsp", fn := fun _ => fun
  | [d] => { results := [.lit (.bool true)], args := [d] }
  | _ => none }
def fnConvertLwspRow : OpenClaim := { program := "ytajjnfnncbpjbac", sum := "d4676b74721899955ce0c5e26d8d568ca8dc576fe025591ce15150dd8510ae3e", func := "loop.example/pub-g03336/laws.FnConvertLwsp", spec := "fnConvertLwsp", apart := false }
def FnConvertLwspSaid : Prop := fnConvertLwspRow.holds Try.pinned (OpenSpec.ofChange fnConvertLwspSpec)

/-- ITS FALSE NEIGHBOUR: 'it returns false'. Refute it at one input. -/
def fnConvertLwspWrong : ChangeSpec := { name := "fnConvertLwsp", fn := fun _ => fun
  | [d] => { results := [.lit (.bool false)], args := [d] }
  | _ => none }
def FnConvertLwspWrongFalsely : Prop := fnConvertLwspRow.holds Try.pinned (OpenSpec.ofChange fnConvertLwspWrong)

/- THE SECOND FORM. 'bulk': how many values and letters a reading holds, each counted each time it is reached (what is shared counts as often as it is met; a slice's spare places count too). A statement '..UptoSaid' is the law's where the arguments, and the package variables that the reading takes, are together of bulk at most 1048576: NARROWER than '..Said'. Prove '..Said' where nothing that the law and all that it calls make is longer than what came in: it says more and counts as full. Else prove '..UptoSaid'. A law counts once. -/
mutual
def uptoBulk {H : Type} : DataW H → Nat
  | .lit (.string bytes) => bytes.length + 1
  | .lit _ => 1
  | .nil => 1
  | .ptr d => uptoBulk d + 1
  | .slice elems spare => uptoBulkAll elems + uptoBulkAll spare + 1
  | .agg parts => uptoBulkAll parts + 1
  | .iface _ d => uptoBulk d + 1
  | .map entries => uptoBulkEntries entries + 1
  | .held _ => 1
def uptoBulkAll {H : Type} : List (DataW H) → Nat
  | [] => 0
  | d :: r => uptoBulk d + uptoBulkAll r
def uptoBulkEntries {H : Type} : List (Lit × DataW H) → Nat
  | [] => 0
  | x :: r => uptoBulkEntry x + uptoBulkEntries r
def uptoBulkEntry {H : Type} : Lit × DataW H → Nat
  | (.string bytes, d) => bytes.length + uptoBulk d + 1
  | (_, d) => uptoBulk d + 1
 end
def uptoSmall : (H : Type) → List (DataW H) → Bool := fun _ ds => decide (uptoBulkAll ds ≤ 1048576)
def OpenSpec.upto (s : _root_.Go.ChangeSpec) : _root_.Go.OpenSpec := { _root_.Go.OpenSpec.ofChange s with cond := some uptoSmall }

/-- 'laws.FnArgVtypeZimm11', WHERE WHAT IT READS IS OF BULK AT MOST 1048576: true; the input reads as it did. -/
def fnArgVtypeZimm11UptoRow : OpenClaim := { program := "ytajjnfnncbpjbac", sum := "d4676b74721899955ce0c5e26d8d568ca8dc576fe025591ce15150dd8510ae3e", func := "loop.example/pub-g03336/laws.FnArgVtypeZimm11", spec := "fnArgVtypeZimm11", apart := false, narrowed := true }
def FnArgVtypeZimm11UptoSaid : Prop := fnArgVtypeZimm11UptoRow.holds Try.pinned (OpenSpec.upto fnArgVtypeZimm11Spec)

/-- 'laws.FnArgZimm5', WHERE WHAT IT READS IS OF BULK AT MOST 1048576: true; the input reads as it did. -/
def fnArgZimm5UptoRow : OpenClaim := { program := "ytajjnfnncbpjbac", sum := "d4676b74721899955ce0c5e26d8d568ca8dc576fe025591ce15150dd8510ae3e", func := "loop.example/pub-g03336/laws.FnArgZimm5", spec := "fnArgZimm5", apart := false, narrowed := true }
def FnArgZimm5UptoSaid : Prop := fnArgZimm5UptoRow.holds Try.pinned (OpenSpec.upto fnArgZimm5Spec)

/-- 'laws.FnConvertAddi16sp', WHERE WHAT IT READS IS OF BULK AT MOST 1048576: true; the input reads as it did. -/
def fnConvertAddi16spUptoRow : OpenClaim := { program := "ytajjnfnncbpjbac", sum := "d4676b74721899955ce0c5e26d8d568ca8dc576fe025591ce15150dd8510ae3e", func := "loop.example/pub-g03336/laws.FnConvertAddi16sp", spec := "fnConvertAddi16sp", apart := false, narrowed := true }
def FnConvertAddi16spUptoSaid : Prop := fnConvertAddi16spUptoRow.holds Try.pinned (OpenSpec.upto fnConvertAddi16spSpec)

/-- 'laws.FnConvertJalr', WHERE WHAT IT READS IS OF BULK AT MOST 1048576: true; the input reads as it did. -/
def fnConvertJalrUptoRow : OpenClaim := { program := "ytajjnfnncbpjbac", sum := "d4676b74721899955ce0c5e26d8d568ca8dc576fe025591ce15150dd8510ae3e", func := "loop.example/pub-g03336/laws.FnConvertJalr", spec := "fnConvertJalr", apart := false, narrowed := true }
def FnConvertJalrUptoSaid : Prop := fnConvertJalrUptoRow.holds Try.pinned (OpenSpec.upto fnConvertJalrSpec)

/-- 'laws.FnConvertAdd', WHERE WHAT IT READS IS OF BULK AT MOST 1048576: true; the input reads as it did. -/
def fnConvertAddUptoRow : OpenClaim := { program := "ytajjnfnncbpjbac", sum := "d4676b74721899955ce0c5e26d8d568ca8dc576fe025591ce15150dd8510ae3e", func := "loop.example/pub-g03336/laws.FnConvertAdd", spec := "fnConvertAdd", apart := false, narrowed := true }
def FnConvertAddUptoSaid : Prop := fnConvertAddUptoRow.holds Try.pinned (OpenSpec.upto fnConvertAddSpec)

/-- 'laws.FnConvertAddiw', WHERE WHAT IT READS IS OF BULK AT MOST 1048576: true; the input reads as it did. -/
def fnConvertAddiwUptoRow : OpenClaim := { program := "ytajjnfnncbpjbac", sum := "d4676b74721899955ce0c5e26d8d568ca8dc576fe025591ce15150dd8510ae3e", func := "loop.example/pub-g03336/laws.FnConvertAddiw", spec := "fnConvertAddiw", apart := false, narrowed := true }
def FnConvertAddiwUptoSaid : Prop := fnConvertAddiwUptoRow.holds Try.pinned (OpenSpec.upto fnConvertAddiwSpec)

/-- 'laws.FnConvertAnd', WHERE WHAT IT READS IS OF BULK AT MOST 1048576: true; the input reads as it did. -/
def fnConvertAndUptoRow : OpenClaim := { program := "ytajjnfnncbpjbac", sum := "d4676b74721899955ce0c5e26d8d568ca8dc576fe025591ce15150dd8510ae3e", func := "loop.example/pub-g03336/laws.FnConvertAnd", spec := "fnConvertAnd", apart := false, narrowed := true }
def FnConvertAndUptoSaid : Prop := fnConvertAndUptoRow.holds Try.pinned (OpenSpec.upto fnConvertAndSpec)

/-- 'laws.FnConvertBeqz', WHERE WHAT IT READS IS OF BULK AT MOST 1048576: true; the input reads as it did. -/
def fnConvertBeqzUptoRow : OpenClaim := { program := "ytajjnfnncbpjbac", sum := "d4676b74721899955ce0c5e26d8d568ca8dc576fe025591ce15150dd8510ae3e", func := "loop.example/pub-g03336/laws.FnConvertBeqz", spec := "fnConvertBeqz", apart := false, narrowed := true }
def FnConvertBeqzUptoSaid : Prop := fnConvertBeqzUptoRow.holds Try.pinned (OpenSpec.upto fnConvertBeqzSpec)

/-- 'laws.FnConvertFldsp', WHERE WHAT IT READS IS OF BULK AT MOST 1048576: true; the input reads as it did. -/
def fnConvertFldspUptoRow : OpenClaim := { program := "ytajjnfnncbpjbac", sum := "d4676b74721899955ce0c5e26d8d568ca8dc576fe025591ce15150dd8510ae3e", func := "loop.example/pub-g03336/laws.FnConvertFldsp", spec := "fnConvertFldsp", apart := false, narrowed := true }
def FnConvertFldspUptoSaid : Prop := fnConvertFldspUptoRow.holds Try.pinned (OpenSpec.upto fnConvertFldspSpec)

/-- 'laws.FnConvertFsdsp', WHERE WHAT IT READS IS OF BULK AT MOST 1048576: true; the input reads as it did. -/
def fnConvertFsdspUptoRow : OpenClaim := { program := "ytajjnfnncbpjbac", sum := "d4676b74721899955ce0c5e26d8d568ca8dc576fe025591ce15150dd8510ae3e", func := "loop.example/pub-g03336/laws.FnConvertFsdsp", spec := "fnConvertFsdsp", apart := false, narrowed := true }
def FnConvertFsdspUptoSaid : Prop := fnConvertFsdspUptoRow.holds Try.pinned (OpenSpec.upto fnConvertFsdspSpec)

/-- 'laws.FnConvertLi', WHERE WHAT IT READS IS OF BULK AT MOST 1048576: true; the input reads as it did. -/
def fnConvertLiUptoRow : OpenClaim := { program := "ytajjnfnncbpjbac", sum := "d4676b74721899955ce0c5e26d8d568ca8dc576fe025591ce15150dd8510ae3e", func := "loop.example/pub-g03336/laws.FnConvertLi", spec := "fnConvertLi", apart := false, narrowed := true }
def FnConvertLiUptoSaid : Prop := fnConvertLiUptoRow.holds Try.pinned (OpenSpec.upto fnConvertLiSpec)

/-- 'laws.FnConvertLwsp', WHERE WHAT IT READS IS OF BULK AT MOST 1048576: true; the input reads as it did. -/
def fnConvertLwspUptoRow : OpenClaim := { program := "ytajjnfnncbpjbac", sum := "d4676b74721899955ce0c5e26d8d568ca8dc576fe025591ce15150dd8510ae3e", func := "loop.example/pub-g03336/laws.FnConvertLwsp", spec := "fnConvertLwsp", apart := false, narrowed := true }
def FnConvertLwspUptoSaid : Prop := fnConvertLwspUptoRow.holds Try.pinned (OpenSpec.upto fnConvertLwspSpec)

end Rows
end Go.Proofs.Ytajjnfnncbpjbac
