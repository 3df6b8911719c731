/-
  What strconv.FormatInt writes at base 16 for a number u with 0 <= u < 2^32: the text hexS u, of 1 to 8 signs (fb, fi15, fi13). Conditions of each theorem: the bounds of u, and that entry 15 of the table math/bits.deBruijn64tab reads 4.
-/
import Derived.Test.YtclcdbigdmabiaaDoorRows
import Derived.Test.YtclcdbigdmabiaaDoorShelf
import Derived.WalkKit
import Derived.WalkSpells
import Derived.ProofKit
import Derived.Handy
import Derived.Lib.LaidTab
import Derived.Lib.SliceRun
import Derived.Below
import Derived.Lib.SlBytesRow
namespace Go.Proofs.YtclcdbigdmabiaaDoor.hexText
open Go Go.Proofs Go.Proofs.YtclcdbigdmabiaaDoor Go.RowKit
set_option maxRecDepth 100000
set_option linter.unusedVariables false
theorem p2 (w : World) : Calls Tryd.prog 23 #[.int .i64 16] w fun e w' => e = .returned (.bool true) ∧ w = w' := by
  go_enter Tryd.func23, Tryd.ntmps23
  go_wp2
  go_ret
  exact ⟨by kernel_rfl, rfl⟩
theorem tz26 (w : World) (c : w.cell? ⟨2, 15, none⟩ = some (.int .u8 4)) : Calls Tryd.prog 26 #[.int .u64 16] w fun e w' => e = .returned (.int .i64 4) ∧ w = w' := by
  have e1 : IntKind.u64.wrap (bits BinOp.and IntKind.u64 16 (IntKind.u64.wrap (-16)) * 285870213051353865) / 288230376151711744 = 15 := by kernel_rfl
  have c' : w.cell? ⟨2, (IntKind.u64.wrap (bits BinOp.and IntKind.u64 16 (IntKind.u64.wrap (-16)) * 285870213051353865) / 288230376151711744).toNat, none⟩ = some (.int .u8 4) := by rw [e1]; exact c
  go_enter Tryd.func26, Tryd.ntmps26
  go_wp2
  go_ret
  exact ⟨rfl, rfl⟩
theorem tz24 (w : World) (c : w.cell? ⟨2, 15, none⟩ = some (.int .u8 4)) : Calls Tryd.prog 24 #[.int .u64 16] w fun e w' => e = .returned (.int .i64 4) ∧ w = w' := by
  go_enter Tryd.func24, Tryd.ntmps24
  go_wp2_with (first | (go_at_call 26; refine (tz26 _ c).mono ?_; rintro e w' ⟨rfl, rfl⟩))
  go_ret
  exact ⟨rfl, rfl⟩
theorem and15 (E : Int) (h0 : 0 ≤ E) (h1 : E ≤ 18446744073709551615) : bits BinOp.and IntKind.u64 E 15 = E % 16 := by
  have h := bits_and_u64_nat E.toNat 15 (by omega) (by omega)
  rw [show E.toNat &&& 15 = E.toNat % 16 from Nat.and_two_pow_sub_one_eq_mod E.toNat 4, Int.toNat_of_nonneg h0] at h
  have h2 : ((E.toNat % 16 : Nat) : Int) = E % 16 := by omega
  exact h.trans h2
theorem z47 (w : World) : Sem.run Tryd.prog (zeroValue 47) w = Result.ok (.agg #[.int .u8 0, .int .u8 0, .int .u8 0, .int .u8 0, .int .u8 0, .int .u8 0, .int .u8 0, .int .u8 0, .int .u8 0, .int .u8 0, .int .u8 0, .int .u8 0, .int .u8 0, .int .u8 0, .int .u8 0, .int .u8 0, .int .u8 0, .int .u8 0, .int .u8 0, .int .u8 0, .int .u8 0, .int .u8 0, .int .u8 0, .int .u8 0, .int .u8 0, .int .u8 0, .int .u8 0, .int .u8 0, .int .u8 0, .int .u8 0, .int .u8 0, .int .u8 0, .int .u8 0, .int .u8 0, .int .u8 0, .int .u8 0, .int .u8 0, .int .u8 0, .int .u8 0, .int .u8 0, .int .u8 0, .int .u8 0, .int .u8 0, .int .u8 0, .int .u8 0, .int .u8 0, .int .u8 0, .int .u8 0, .int .u8 0, .int .u8 0, .int .u8 0, .int .u8 0, .int .u8 0, .int .u8 0, .int .u8 0, .int .u8 0, .int .u8 0, .int .u8 0, .int .u8 0, .int .u8 0, .int .u8 0, .int .u8 0, .int .u8 0, .int .u8 0, .int .u8 0]) w := by kernel_rfl
def dgt (x : Int) : Int := if h : x.toNat < (⟨#[48, 49, 50, 51, 52, 53, 54, 55, 56, 57, 97, 98, 99, 100, 101, 102, 103, 104, 105, 106, 107, 108, 109, 110, 111, 112, 113, 114, 115, 116, 117, 118, 119, 120, 121, 122]⟩ : ByteArray).size then (((⟨#[48, 49, 50, 51, 52, 53, 54, 55, 56, 57, 97, 98, 99, 100, 101, 102, 103, 104, 105, 106, 107, 108, 109, 110, 111, 112, 113, 114, 115, 116, 117, 118, 119, 120, 121, 122]⟩ : ByteArray)[x.toNat]'h).toNat : Int) else 0
theorem dg (x : Int) (h : x.toNat < (⟨#[48, 49, 50, 51, 52, 53, 54, 55, 56, 57, 97, 98, 99, 100, 101, 102, 103, 104, 105, 106, 107, 108, 109, 110, 111, 112, 113, 114, 115, 116, 117, 118, 119, 120, 121, 122]⟩ : ByteArray).size) : (((⟨#[48, 49, 50, 51, 52, 53, 54, 55, 56, 57, 97, 98, 99, 100, 101, 102, 103, 104, 105, 106, 107, 108, 109, 110, 111, 112, 113, 114, 115, 116, 117, 118, 119, 120, 121, 122]⟩ : ByteArray)[x.toNat]'h).toNat : Int) = dgt x := by
  unfold dgt; rw [dif_pos h]
theorem conv0 (w : World) (x0 : Int) : Sem.run Tryd.prog (convert 40 9 (.slice (some ⟨w.heap.size, 64, none⟩) 1 1)) (w.alloc (.cells #[.int .u8 0, .int .u8 0, .int .u8 0, .int .u8 0, .int .u8 0, .int .u8 0, .int .u8 0, .int .u8 0, .int .u8 0, .int .u8 0, .int .u8 0, .int .u8 0, .int .u8 0, .int .u8 0, .int .u8 0, .int .u8 0, .int .u8 0, .int .u8 0, .int .u8 0, .int .u8 0, .int .u8 0, .int .u8 0, .int .u8 0, .int .u8 0, .int .u8 0, .int .u8 0, .int .u8 0, .int .u8 0, .int .u8 0, .int .u8 0, .int .u8 0, .int .u8 0, .int .u8 0, .int .u8 0, .int .u8 0, .int .u8 0, .int .u8 0, .int .u8 0, .int .u8 0, .int .u8 0, .int .u8 0, .int .u8 0, .int .u8 0, .int .u8 0, .int .u8 0, .int .u8 0, .int .u8 0, .int .u8 0, .int .u8 0, .int .u8 0, .int .u8 0, .int .u8 0, .int .u8 0, .int .u8 0, .int .u8 0, .int .u8 0, .int .u8 0, .int .u8 0, .int .u8 0, .int .u8 0, .int .u8 0, .int .u8 0, .int .u8 0, .int .u8 0, .int .u8 x0] 47)) = Result.ok (.string (strOfNums [x0])) (w.alloc (.cells #[.int .u8 0, .int .u8 0, .int .u8 0, .int .u8 0, .int .u8 0, .int .u8 0, .int .u8 0, .int .u8 0, .int .u8 0, .int .u8 0, .int .u8 0, .int .u8 0, .int .u8 0, .int .u8 0, .int .u8 0, .int .u8 0, .int .u8 0, .int .u8 0, .int .u8 0, .int .u8 0, .int .u8 0, .int .u8 0, .int .u8 0, .int .u8 0, .int .u8 0, .int .u8 0, .int .u8 0, .int .u8 0, .int .u8 0, .int .u8 0, .int .u8 0, .int .u8 0, .int .u8 0, .int .u8 0, .int .u8 0, .int .u8 0, .int .u8 0, .int .u8 0, .int .u8 0, .int .u8 0, .int .u8 0, .int .u8 0, .int .u8 0, .int .u8 0, .int .u8 0, .int .u8 0, .int .u8 0, .int .u8 0, .int .u8 0, .int .u8 0, .int .u8 0, .int .u8 0, .int .u8 0, .int .u8 0, .int .u8 0, .int .u8 0, .int .u8 0, .int .u8 0, .int .u8 0, .int .u8 0, .int .u8 0, .int .u8 0, .int .u8 0, .int .u8 0, .int .u8 x0] 47)) := by
  refine run_convert_bytes_arg (P := Tryd.prog) _ 40 5 (by kernel_rfl) (by kernel_rfl) w.heap.size 64 1 1 [x0] rfl (fun i hi => ?_) 9 (by kernel_rfl)
  have hi : i < 1 := hi
  rw [World.cell?_alloc_new]
  have hh : i = 0 := by omega
  rcases hh with rfl <;> rfl
set_option maxHeartbeats 4000000 in
theorem fb0 (u : Int) (h0 : 0 ≤ u) (h1 : u < 16) (w : World) (c : w.cell? ⟨2, 15, none⟩ = some (.int .u8 4)) :
    Calls Tryd.prog 19 #[.slice none 0 0, .int .u64 u, .int .i64 16, .bool false, .bool false] w fun e w' => e = .returned (.tuple #[.slice none 0 0, .string (strOfNums [dgt (u)])]) ∧ Below w.heap.size w w' := by
  have c1 : ∀ o, (w.alloc o).cell? ⟨2, 15, none⟩ = some (.int .u8 4) := fun o => Lib.cell?_alloc_some o c
  have z := z47 w
  have cv := conv0 w
  go_enter Tryd.func19, Tryd.ntmps19
  go_wp2_with (first | (go_at_call 23; refine (p2 _).mono ?_; rintro e w' ⟨rfl, rfl⟩) | (go_at_call 24; refine (tz24 _ (c1 _)).mono ?_; rintro e w' ⟨rfl, rfl⟩))
  refine wp_loop_rounds 1 ?_
  repeat any_goals (rw [rounds_succ]; go_wp2)
  go_ret2
  refine ⟨?_, (Below.refl _ w).alloc (Nat.le_refl _) _⟩
  simp only [dg]
  rfl
theorem conv1 (w : World) (x0 x1 : Int) : Sem.run Tryd.prog (convert 40 9 (.slice (some ⟨w.heap.size, 63, none⟩) 2 2)) (w.alloc (.cells #[.int .u8 0, .int .u8 0, .int .u8 0, .int .u8 0, .int .u8 0, .int .u8 0, .int .u8 0, .int .u8 0, .int .u8 0, .int .u8 0, .int .u8 0, .int .u8 0, .int .u8 0, .int .u8 0, .int .u8 0, .int .u8 0, .int .u8 0, .int .u8 0, .int .u8 0, .int .u8 0, .int .u8 0, .int .u8 0, .int .u8 0, .int .u8 0, .int .u8 0, .int .u8 0, .int .u8 0, .int .u8 0, .int .u8 0, .int .u8 0, .int .u8 0, .int .u8 0, .int .u8 0, .int .u8 0, .int .u8 0, .int .u8 0, .int .u8 0, .int .u8 0, .int .u8 0, .int .u8 0, .int .u8 0, .int .u8 0, .int .u8 0, .int .u8 0, .int .u8 0, .int .u8 0, .int .u8 0, .int .u8 0, .int .u8 0, .int .u8 0, .int .u8 0, .int .u8 0, .int .u8 0, .int .u8 0, .int .u8 0, .int .u8 0, .int .u8 0, .int .u8 0, .int .u8 0, .int .u8 0, .int .u8 0, .int .u8 0, .int .u8 0, .int .u8 x0, .int .u8 x1] 47)) = Result.ok (.string (strOfNums [x0, x1])) (w.alloc (.cells #[.int .u8 0, .int .u8 0, .int .u8 0, .int .u8 0, .int .u8 0, .int .u8 0, .int .u8 0, .int .u8 0, .int .u8 0, .int .u8 0, .int .u8 0, .int .u8 0, .int .u8 0, .int .u8 0, .int .u8 0, .int .u8 0, .int .u8 0, .int .u8 0, .int .u8 0, .int .u8 0, .int .u8 0, .int .u8 0, .int .u8 0, .int .u8 0, .int .u8 0, .int .u8 0, .int .u8 0, .int .u8 0, .int .u8 0, .int .u8 0, .int .u8 0, .int .u8 0, .int .u8 0, .int .u8 0, .int .u8 0, .int .u8 0, .int .u8 0, .int .u8 0, .int .u8 0, .int .u8 0, .int .u8 0, .int .u8 0, .int .u8 0, .int .u8 0, .int .u8 0, .int .u8 0, .int .u8 0, .int .u8 0, .int .u8 0, .int .u8 0, .int .u8 0, .int .u8 0, .int .u8 0, .int .u8 0, .int .u8 0, .int .u8 0, .int .u8 0, .int .u8 0, .int .u8 0, .int .u8 0, .int .u8 0, .int .u8 0, .int .u8 0, .int .u8 x0, .int .u8 x1] 47)) := by
  refine run_convert_bytes_arg (P := Tryd.prog) _ 40 5 (by kernel_rfl) (by kernel_rfl) w.heap.size 63 2 2 [x0, x1] rfl (fun i hi => ?_) 9 (by kernel_rfl)
  have hi : i < 2 := hi
  rw [World.cell?_alloc_new]
  have hh : i = 0 ∨ i = 1 := by omega
  rcases hh with rfl | rfl <;> rfl
set_option maxHeartbeats 4000000 in
theorem fb1 (u : Int) (h0 : 16 ≤ u) (h1 : u < 256) (w : World) (c : w.cell? ⟨2, 15, none⟩ = some (.int .u8 4)) :
    Calls Tryd.prog 19 #[.slice none 0 0, .int .u64 u, .int .i64 16, .bool false, .bool false] w fun e w' => e = .returned (.tuple #[.slice none 0 0, .string (strOfNums [dgt (u / 16), dgt (u % 16)])]) ∧ Below w.heap.size w w' := by
  have c1 : ∀ o, (w.alloc o).cell? ⟨2, 15, none⟩ = some (.int .u8 4) := fun o => Lib.cell?_alloc_some o c
  have z := z47 w
  have cv := conv1 w
  have b0_0 := and15 (u) (by omega) (by omega)
  go_enter Tryd.func19, Tryd.ntmps19
  go_wp2_with (first | (go_at_call 23; refine (p2 _).mono ?_; rintro e w' ⟨rfl, rfl⟩) | (go_at_call 24; refine (tz24 _ (c1 _)).mono ?_; rintro e w' ⟨rfl, rfl⟩))
  refine wp_loop_rounds 2 ?_
  repeat any_goals (rw [rounds_succ]; go_wp2)
  go_ret2
  refine ⟨?_, (Below.refl _ w).alloc (Nat.le_refl _) _⟩
  simp only [dg]
  rfl
theorem conv2 (w : World) (x0 x1 x2 : Int) : Sem.run Tryd.prog (convert 40 9 (.slice (some ⟨w.heap.size, 62, none⟩) 3 3)) (w.alloc (.cells #[.int .u8 0, .int .u8 0, .int .u8 0, .int .u8 0, .int .u8 0, .int .u8 0, .int .u8 0, .int .u8 0, .int .u8 0, .int .u8 0, .int .u8 0, .int .u8 0, .int .u8 0, .int .u8 0, .int .u8 0, .int .u8 0, .int .u8 0, .int .u8 0, .int .u8 0, .int .u8 0, .int .u8 0, .int .u8 0, .int .u8 0, .int .u8 0, .int .u8 0, .int .u8 0, .int .u8 0, .int .u8 0, .int .u8 0, .int .u8 0, .int .u8 0, .int .u8 0, .int .u8 0, .int .u8 0, .int .u8 0, .int .u8 0, .int .u8 0, .int .u8 0, .int .u8 0, .int .u8 0, .int .u8 0, .int .u8 0, .int .u8 0, .int .u8 0, .int .u8 0, .int .u8 0, .int .u8 0, .int .u8 0, .int .u8 0, .int .u8 0, .int .u8 0, .int .u8 0, .int .u8 0, .int .u8 0, .int .u8 0, .int .u8 0, .int .u8 0, .int .u8 0, .int .u8 0, .int .u8 0, .int .u8 0, .int .u8 0, .int .u8 x0, .int .u8 x1, .int .u8 x2] 47)) = Result.ok (.string (strOfNums [x0, x1, x2])) (w.alloc (.cells #[.int .u8 0, .int .u8 0, .int .u8 0, .int .u8 0, .int .u8 0, .int .u8 0, .int .u8 0, .int .u8 0, .int .u8 0, .int .u8 0, .int .u8 0, .int .u8 0, .int .u8 0, .int .u8 0, .int .u8 0, .int .u8 0, .int .u8 0, .int .u8 0, .int .u8 0, .int .u8 0, .int .u8 0, .int .u8 0, .int .u8 0, .int .u8 0, .int .u8 0, .int .u8 0, .int .u8 0, .int .u8 0, .int .u8 0, .int .u8 0, .int .u8 0, .int .u8 0, .int .u8 0, .int .u8 0, .int .u8 0, .int .u8 0, .int .u8 0, .int .u8 0, .int .u8 0, .int .u8 0, .int .u8 0, .int .u8 0, .int .u8 0, .int .u8 0, .int .u8 0, .int .u8 0, .int .u8 0, .int .u8 0, .int .u8 0, .int .u8 0, .int .u8 0, .int .u8 0, .int .u8 0, .int .u8 0, .int .u8 0, .int .u8 0, .int .u8 0, .int .u8 0, .int .u8 0, .int .u8 0, .int .u8 0, .int .u8 0, .int .u8 x0, .int .u8 x1, .int .u8 x2] 47)) := by
  refine run_convert_bytes_arg (P := Tryd.prog) _ 40 5 (by kernel_rfl) (by kernel_rfl) w.heap.size 62 3 3 [x0, x1, x2] rfl (fun i hi => ?_) 9 (by kernel_rfl)
  have hi : i < 3 := hi
  rw [World.cell?_alloc_new]
  have hh : i = 0 ∨ i = 1 ∨ i = 2 := by omega
  rcases hh with rfl | rfl | rfl <;> rfl
set_option maxHeartbeats 4000000 in
theorem fb2 (u : Int) (h0 : 256 ≤ u) (h1 : u < 4096) (w : World) (c : w.cell? ⟨2, 15, none⟩ = some (.int .u8 4)) :
    Calls Tryd.prog 19 #[.slice none 0 0, .int .u64 u, .int .i64 16, .bool false, .bool false] w fun e w' => e = .returned (.tuple #[.slice none 0 0, .string (strOfNums [dgt (u / 16 / 16), dgt (u / 16 % 16), dgt (u % 16)])]) ∧ Below w.heap.size w w' := by
  have c1 : ∀ o, (w.alloc o).cell? ⟨2, 15, none⟩ = some (.int .u8 4) := fun o => Lib.cell?_alloc_some o c
  have z := z47 w
  have cv := conv2 w
  have b0_0 := and15 (u) (by omega) (by omega)
  have b1_0 := and15 (u / 16) (by omega) (by omega)
  go_enter Tryd.func19, Tryd.ntmps19
  go_wp2_with (first | (go_at_call 23; refine (p2 _).mono ?_; rintro e w' ⟨rfl, rfl⟩) | (go_at_call 24; refine (tz24 _ (c1 _)).mono ?_; rintro e w' ⟨rfl, rfl⟩))
  refine wp_loop_rounds 3 ?_
  repeat any_goals (rw [rounds_succ]; go_wp2)
  go_ret2
  refine ⟨?_, (Below.refl _ w).alloc (Nat.le_refl _) _⟩
  simp only [dg]
  rfl
theorem conv3 (w : World) (x0 x1 x2 x3 : Int) : Sem.run Tryd.prog (convert 40 9 (.slice (some ⟨w.heap.size, 61, none⟩) 4 4)) (w.alloc (.cells #[.int .u8 0, .int .u8 0, .int .u8 0, .int .u8 0, .int .u8 0, .int .u8 0, .int .u8 0, .int .u8 0, .int .u8 0, .int .u8 0, .int .u8 0, .int .u8 0, .int .u8 0, .int .u8 0, .int .u8 0, .int .u8 0, .int .u8 0, .int .u8 0, .int .u8 0, .int .u8 0, .int .u8 0, .int .u8 0, .int .u8 0, .int .u8 0, .int .u8 0, .int .u8 0, .int .u8 0, .int .u8 0, .int .u8 0, .int .u8 0, .int .u8 0, .int .u8 0, .int .u8 0, .int .u8 0, .int .u8 0, .int .u8 0, .int .u8 0, .int .u8 0, .int .u8 0, .int .u8 0, .int .u8 0, .int .u8 0, .int .u8 0, .int .u8 0, .int .u8 0, .int .u8 0, .int .u8 0, .int .u8 0, .int .u8 0, .int .u8 0, .int .u8 0, .int .u8 0, .int .u8 0, .int .u8 0, .int .u8 0, .int .u8 0, .int .u8 0, .int .u8 0, .int .u8 0, .int .u8 0, .int .u8 0, .int .u8 x0, .int .u8 x1, .int .u8 x2, .int .u8 x3] 47)) = Result.ok (.string (strOfNums [x0, x1, x2, x3])) (w.alloc (.cells #[.int .u8 0, .int .u8 0, .int .u8 0, .int .u8 0, .int .u8 0, .int .u8 0, .int .u8 0, .int .u8 0, .int .u8 0, .int .u8 0, .int .u8 0, .int .u8 0, .int .u8 0, .int .u8 0, .int .u8 0, .int .u8 0, .int .u8 0, .int .u8 0, .int .u8 0, .int .u8 0, .int .u8 0, .int .u8 0, .int .u8 0, .int .u8 0, .int .u8 0, .int .u8 0, .int .u8 0, .int .u8 0, .int .u8 0, .int .u8 0, .int .u8 0, .int .u8 0, .int .u8 0, .int .u8 0, .int .u8 0, .int .u8 0, .int .u8 0, .int .u8 0, .int .u8 0, .int .u8 0, .int .u8 0, .int .u8 0, .int .u8 0, .int .u8 0, .int .u8 0, .int .u8 0, .int .u8 0, .int .u8 0, .int .u8 0, .int .u8 0, .int .u8 0, .int .u8 0, .int .u8 0, .int .u8 0, .int .u8 0, .int .u8 0, .int .u8 0, .int .u8 0, .int .u8 0, .int .u8 0, .int .u8 0, .int .u8 x0, .int .u8 x1, .int .u8 x2, .int .u8 x3] 47)) := by
  refine run_convert_bytes_arg (P := Tryd.prog) _ 40 5 (by kernel_rfl) (by kernel_rfl) w.heap.size 61 4 4 [x0, x1, x2, x3] rfl (fun i hi => ?_) 9 (by kernel_rfl)
  have hi : i < 4 := hi
  rw [World.cell?_alloc_new]
  have hh : i = 0 ∨ i = 1 ∨ i = 2 ∨ i = 3 := by omega
  rcases hh with rfl | rfl | rfl | rfl <;> rfl
set_option maxHeartbeats 4000000 in
theorem fb3 (u : Int) (h0 : 4096 ≤ u) (h1 : u < 65536) (w : World) (c : w.cell? ⟨2, 15, none⟩ = some (.int .u8 4)) :
    Calls Tryd.prog 19 #[.slice none 0 0, .int .u64 u, .int .i64 16, .bool false, .bool false] w fun e w' => e = .returned (.tuple #[.slice none 0 0, .string (strOfNums [dgt (u / 16 / 16 / 16), dgt (u / 16 / 16 % 16), dgt (u / 16 % 16), dgt (u % 16)])]) ∧ Below w.heap.size w w' := by
  have c1 : ∀ o, (w.alloc o).cell? ⟨2, 15, none⟩ = some (.int .u8 4) := fun o => Lib.cell?_alloc_some o c
  have z := z47 w
  have cv := conv3 w
  have b0_0 := and15 (u) (by omega) (by omega)
  have b1_0 := and15 (u / 16) (by omega) (by omega)
  have b2_0 := and15 (u / 16 / 16) (by omega) (by omega)
  have b2_1 := and15 (u / 256) (by omega) (by omega)
  go_enter Tryd.func19, Tryd.ntmps19
  go_wp2_with (first | (go_at_call 23; refine (p2 _).mono ?_; rintro e w' ⟨rfl, rfl⟩) | (go_at_call 24; refine (tz24 _ (c1 _)).mono ?_; rintro e w' ⟨rfl, rfl⟩))
  refine wp_loop_rounds 4 ?_
  repeat any_goals (rw [rounds_succ]; go_wp2)
  go_ret2
  refine ⟨?_, (Below.refl _ w).alloc (Nat.le_refl _) _⟩
  simp only [dg]
  rfl
theorem conv4 (w : World) (x0 x1 x2 x3 x4 : Int) : Sem.run Tryd.prog (convert 40 9 (.slice (some ⟨w.heap.size, 60, none⟩) 5 5)) (w.alloc (.cells #[.int .u8 0, .int .u8 0, .int .u8 0, .int .u8 0, .int .u8 0, .int .u8 0, .int .u8 0, .int .u8 0, .int .u8 0, .int .u8 0, .int .u8 0, .int .u8 0, .int .u8 0, .int .u8 0, .int .u8 0, .int .u8 0, .int .u8 0, .int .u8 0, .int .u8 0, .int .u8 0, .int .u8 0, .int .u8 0, .int .u8 0, .int .u8 0, .int .u8 0, .int .u8 0, .int .u8 0, .int .u8 0, .int .u8 0, .int .u8 0, .int .u8 0, .int .u8 0, .int .u8 0, .int .u8 0, .int .u8 0, .int .u8 0, .int .u8 0, .int .u8 0, .int .u8 0, .int .u8 0, .int .u8 0, .int .u8 0, .int .u8 0, .int .u8 0, .int .u8 0, .int .u8 0, .int .u8 0, .int .u8 0, .int .u8 0, .int .u8 0, .int .u8 0, .int .u8 0, .int .u8 0, .int .u8 0, .int .u8 0, .int .u8 0, .int .u8 0, .int .u8 0, .int .u8 0, .int .u8 0, .int .u8 x0, .int .u8 x1, .int .u8 x2, .int .u8 x3, .int .u8 x4] 47)) = Result.ok (.string (strOfNums [x0, x1, x2, x3, x4])) (w.alloc (.cells #[.int .u8 0, .int .u8 0, .int .u8 0, .int .u8 0, .int .u8 0, .int .u8 0, .int .u8 0, .int .u8 0, .int .u8 0, .int .u8 0, .int .u8 0, .int .u8 0, .int .u8 0, .int .u8 0, .int .u8 0, .int .u8 0, .int .u8 0, .int .u8 0, .int .u8 0, .int .u8 0, .int .u8 0, .int .u8 0, .int .u8 0, .int .u8 0, .int .u8 0, .int .u8 0, .int .u8 0, .int .u8 0, .int .u8 0, .int .u8 0, .int .u8 0, .int .u8 0, .int .u8 0, .int .u8 0, .int .u8 0, .int .u8 0, .int .u8 0, .int .u8 0, .int .u8 0, .int .u8 0, .int .u8 0, .int .u8 0, .int .u8 0, .int .u8 0, .int .u8 0, .int .u8 0, .int .u8 0, .int .u8 0, .int .u8 0, .int .u8 0, .int .u8 0, .int .u8 0, .int .u8 0, .int .u8 0, .int .u8 0, .int .u8 0, .int .u8 0, .int .u8 0, .int .u8 0, .int .u8 0, .int .u8 x0, .int .u8 x1, .int .u8 x2, .int .u8 x3, .int .u8 x4] 47)) := by
  refine run_convert_bytes_arg (P := Tryd.prog) _ 40 5 (by kernel_rfl) (by kernel_rfl) w.heap.size 60 5 5 [x0, x1, x2, x3, x4] rfl (fun i hi => ?_) 9 (by kernel_rfl)
  have hi : i < 5 := hi
  rw [World.cell?_alloc_new]
  have hh : i = 0 ∨ i = 1 ∨ i = 2 ∨ i = 3 ∨ i = 4 := by omega
  rcases hh with rfl | rfl | rfl | rfl | rfl <;> rfl
set_option maxHeartbeats 4000000 in
theorem fb4 (u : Int) (h0 : 65536 ≤ u) (h1 : u < 1048576) (w : World) (c : w.cell? ⟨2, 15, none⟩ = some (.int .u8 4)) :
    Calls Tryd.prog 19 #[.slice none 0 0, .int .u64 u, .int .i64 16, .bool false, .bool false] w fun e w' => e = .returned (.tuple #[.slice none 0 0, .string (strOfNums [dgt (u / 16 / 16 / 16 / 16), dgt (u / 16 / 16 / 16 % 16), dgt (u / 16 / 16 % 16), dgt (u / 16 % 16), dgt (u % 16)])]) ∧ Below w.heap.size w w' := by
  have c1 : ∀ o, (w.alloc o).cell? ⟨2, 15, none⟩ = some (.int .u8 4) := fun o => Lib.cell?_alloc_some o c
  have z := z47 w
  have cv := conv4 w
  have b0_0 := and15 (u) (by omega) (by omega)
  have b1_0 := and15 (u / 16) (by omega) (by omega)
  have b2_0 := and15 (u / 16 / 16) (by omega) (by omega)
  have b2_1 := and15 (u / 256) (by omega) (by omega)
  have b3_0 := and15 (u / 16 / 16 / 16) (by omega) (by omega)
  have b3_1 := and15 (u / 4096) (by omega) (by omega)
  go_enter Tryd.func19, Tryd.ntmps19
  go_wp2_with (first | (go_at_call 23; refine (p2 _).mono ?_; rintro e w' ⟨rfl, rfl⟩) | (go_at_call 24; refine (tz24 _ (c1 _)).mono ?_; rintro e w' ⟨rfl, rfl⟩))
  refine wp_loop_rounds 5 ?_
  repeat any_goals (rw [rounds_succ]; go_wp2)
  go_ret2
  refine ⟨?_, (Below.refl _ w).alloc (Nat.le_refl _) _⟩
  simp only [dg]
  rfl
theorem conv5 (w : World) (x0 x1 x2 x3 x4 x5 : Int) : Sem.run Tryd.prog (convert 40 9 (.slice (some ⟨w.heap.size, 59, none⟩) 6 6)) (w.alloc (.cells #[.int .u8 0, .int .u8 0, .int .u8 0, .int .u8 0, .int .u8 0, .int .u8 0, .int .u8 0, .int .u8 0, .int .u8 0, .int .u8 0, .int .u8 0, .int .u8 0, .int .u8 0, .int .u8 0, .int .u8 0, .int .u8 0, .int .u8 0, .int .u8 0, .int .u8 0, .int .u8 0, .int .u8 0, .int .u8 0, .int .u8 0, .int .u8 0, .int .u8 0, .int .u8 0, .int .u8 0, .int .u8 0, .int .u8 0, .int .u8 0, .int .u8 0, .int .u8 0, .int .u8 0, .int .u8 0, .int .u8 0, .int .u8 0, .int .u8 0, .int .u8 0, .int .u8 0, .int .u8 0, .int .u8 0, .int .u8 0, .int .u8 0, .int .u8 0, .int .u8 0, .int .u8 0, .int .u8 0, .int .u8 0, .int .u8 0, .int .u8 0, .int .u8 0, .int .u8 0, .int .u8 0, .int .u8 0, .int .u8 0, .int .u8 0, .int .u8 0, .int .u8 0, .int .u8 0, .int .u8 x0, .int .u8 x1, .int .u8 x2, .int .u8 x3, .int .u8 x4, .int .u8 x5] 47)) = Result.ok (.string (strOfNums [x0, x1, x2, x3, x4, x5])) (w.alloc (.cells #[.int .u8 0, .int .u8 0, .int .u8 0, .int .u8 0, .int .u8 0, .int .u8 0, .int .u8 0, .int .u8 0, .int .u8 0, .int .u8 0, .int .u8 0, .int .u8 0, .int .u8 0, .int .u8 0, .int .u8 0, .int .u8 0, .int .u8 0, .int .u8 0, .int .u8 0, .int .u8 0, .int .u8 0, .int .u8 0, .int .u8 0, .int .u8 0, .int .u8 0, .int .u8 0, .int .u8 0, .int .u8 0, .int .u8 0, .int .u8 0, .int .u8 0, .int .u8 0, .int .u8 0, .int .u8 0, .int .u8 0, .int .u8 0, .int .u8 0, .int .u8 0, .int .u8 0, .int .u8 0, .int .u8 0, .int .u8 0, .int .u8 0, .int .u8 0, .int .u8 0, .int .u8 0, .int .u8 0, .int .u8 0, .int .u8 0, .int .u8 0, .int .u8 0, .int .u8 0, .int .u8 0, .int .u8 0, .int .u8 0, .int .u8 0, .int .u8 0, .int .u8 0, .int .u8 0, .int .u8 x0, .int .u8 x1, .int .u8 x2, .int .u8 x3, .int .u8 x4, .int .u8 x5] 47)) := by
  refine run_convert_bytes_arg (P := Tryd.prog) _ 40 5 (by kernel_rfl) (by kernel_rfl) w.heap.size 59 6 6 [x0, x1, x2, x3, x4, x5] rfl (fun i hi => ?_) 9 (by kernel_rfl)
  have hi : i < 6 := hi
  rw [World.cell?_alloc_new]
  have hh : i = 0 ∨ i = 1 ∨ i = 2 ∨ i = 3 ∨ i = 4 ∨ i = 5 := by omega
  rcases hh with rfl | rfl | rfl | rfl | rfl | rfl <;> rfl
set_option maxHeartbeats 4000000 in
theorem fb5 (u : Int) (h0 : 1048576 ≤ u) (h1 : u < 16777216) (w : World) (c : w.cell? ⟨2, 15, none⟩ = some (.int .u8 4)) :
    Calls Tryd.prog 19 #[.slice none 0 0, .int .u64 u, .int .i64 16, .bool false, .bool false] w fun e w' => e = .returned (.tuple #[.slice none 0 0, .string (strOfNums [dgt (u / 16 / 16 / 16 / 16 / 16), dgt (u / 16 / 16 / 16 / 16 % 16), dgt (u / 16 / 16 / 16 % 16), dgt (u / 16 / 16 % 16), dgt (u / 16 % 16), dgt (u % 16)])]) ∧ Below w.heap.size w w' := by
  have c1 : ∀ o, (w.alloc o).cell? ⟨2, 15, none⟩ = some (.int .u8 4) := fun o => Lib.cell?_alloc_some o c
  have z := z47 w
  have cv := conv5 w
  have b0_0 := and15 (u) (by omega) (by omega)
  have b1_0 := and15 (u / 16) (by omega) (by omega)
  have b2_0 := and15 (u / 16 / 16) (by omega) (by omega)
  have b2_1 := and15 (u / 256) (by omega) (by omega)
  have b3_0 := and15 (u / 16 / 16 / 16) (by omega) (by omega)
  have b3_1 := and15 (u / 4096) (by omega) (by omega)
  have b4_0 := and15 (u / 16 / 16 / 16 / 16) (by omega) (by omega)
  have b4_1 := and15 (u / 65536) (by omega) (by omega)
  go_enter Tryd.func19, Tryd.ntmps19
  go_wp2_with (first | (go_at_call 23; refine (p2 _).mono ?_; rintro e w' ⟨rfl, rfl⟩) | (go_at_call 24; refine (tz24 _ (c1 _)).mono ?_; rintro e w' ⟨rfl, rfl⟩))
  refine wp_loop_rounds 6 ?_
  repeat any_goals (rw [rounds_succ]; go_wp2)
  go_ret2
  refine ⟨?_, (Below.refl _ w).alloc (Nat.le_refl _) _⟩
  simp only [dg]
  rfl
theorem conv6 (w : World) (x0 x1 x2 x3 x4 x5 x6 : Int) : Sem.run Tryd.prog (convert 40 9 (.slice (some ⟨w.heap.size, 58, none⟩) 7 7)) (w.alloc (.cells #[.int .u8 0, .int .u8 0, .int .u8 0, .int .u8 0, .int .u8 0, .int .u8 0, .int .u8 0, .int .u8 0, .int .u8 0, .int .u8 0, .int .u8 0, .int .u8 0, .int .u8 0, .int .u8 0, .int .u8 0, .int .u8 0, .int .u8 0, .int .u8 0, .int .u8 0, .int .u8 0, .int .u8 0, .int .u8 0, .int .u8 0, .int .u8 0, .int .u8 0, .int .u8 0, .int .u8 0, .int .u8 0, .int .u8 0, .int .u8 0, .int .u8 0, .int .u8 0, .int .u8 0, .int .u8 0, .int .u8 0, .int .u8 0, .int .u8 0, .int .u8 0, .int .u8 0, .int .u8 0, .int .u8 0, .int .u8 0, .int .u8 0, .int .u8 0, .int .u8 0, .int .u8 0, .int .u8 0, .int .u8 0, .int .u8 0, .int .u8 0, .int .u8 0, .int .u8 0, .int .u8 0, .int .u8 0, .int .u8 0, .int .u8 0, .int .u8 0, .int .u8 0, .int .u8 x0, .int .u8 x1, .int .u8 x2, .int .u8 x3, .int .u8 x4, .int .u8 x5, .int .u8 x6] 47)) = Result.ok (.string (strOfNums [x0, x1, x2, x3, x4, x5, x6])) (w.alloc (.cells #[.int .u8 0, .int .u8 0, .int .u8 0, .int .u8 0, .int .u8 0, .int .u8 0, .int .u8 0, .int .u8 0, .int .u8 0, .int .u8 0, .int .u8 0, .int .u8 0, .int .u8 0, .int .u8 0, .int .u8 0, .int .u8 0, .int .u8 0, .int .u8 0, .int .u8 0, .int .u8 0, .int .u8 0, .int .u8 0, .int .u8 0, .int .u8 0, .int .u8 0, .int .u8 0, .int .u8 0, .int .u8 0, .int .u8 0, .int .u8 0, .int .u8 0, .int .u8 0, .int .u8 0, .int .u8 0, .int .u8 0, .int .u8 0, .int .u8 0, .int .u8 0, .int .u8 0, .int .u8 0, .int .u8 0, .int .u8 0, .int .u8 0, .int .u8 0, .int .u8 0, .int .u8 0, .int .u8 0, .int .u8 0, .int .u8 0, .int .u8 0, .int .u8 0, .int .u8 0, .int .u8 0, .int .u8 0, .int .u8 0, .int .u8 0, .int .u8 0, .int .u8 0, .int .u8 x0, .int .u8 x1, .int .u8 x2, .int .u8 x3, .int .u8 x4, .int .u8 x5, .int .u8 x6] 47)) := by
  refine run_convert_bytes_arg (P := Tryd.prog) _ 40 5 (by kernel_rfl) (by kernel_rfl) w.heap.size 58 7 7 [x0, x1, x2, x3, x4, x5, x6] rfl (fun i hi => ?_) 9 (by kernel_rfl)
  have hi : i < 7 := hi
  rw [World.cell?_alloc_new]
  have hh : i = 0 ∨ i = 1 ∨ i = 2 ∨ i = 3 ∨ i = 4 ∨ i = 5 ∨ i = 6 := by omega
  rcases hh with rfl | rfl | rfl | rfl | rfl | rfl | rfl <;> rfl
set_option maxHeartbeats 4000000 in
theorem fb6 (u : Int) (h0 : 16777216 ≤ u) (h1 : u < 268435456) (w : World) (c : w.cell? ⟨2, 15, none⟩ = some (.int .u8 4)) :
    Calls Tryd.prog 19 #[.slice none 0 0, .int .u64 u, .int .i64 16, .bool false, .bool false] w fun e w' => e = .returned (.tuple #[.slice none 0 0, .string (strOfNums [dgt (u / 16 / 16 / 16 / 16 / 16 / 16), dgt (u / 16 / 16 / 16 / 16 / 16 % 16), dgt (u / 16 / 16 / 16 / 16 % 16), dgt (u / 16 / 16 / 16 % 16), dgt (u / 16 / 16 % 16), dgt (u / 16 % 16), dgt (u % 16)])]) ∧ Below w.heap.size w w' := by
  have c1 : ∀ o, (w.alloc o).cell? ⟨2, 15, none⟩ = some (.int .u8 4) := fun o => Lib.cell?_alloc_some o c
  have z := z47 w
  have cv := conv6 w
  have b0_0 := and15 (u) (by omega) (by omega)
  have b1_0 := and15 (u / 16) (by omega) (by omega)
  have b2_0 := and15 (u / 16 / 16) (by omega) (by omega)
  have b2_1 := and15 (u / 256) (by omega) (by omega)
  have b3_0 := and15 (u / 16 / 16 / 16) (by omega) (by omega)
  have b3_1 := and15 (u / 4096) (by omega) (by omega)
  have b4_0 := and15 (u / 16 / 16 / 16 / 16) (by omega) (by omega)
  have b4_1 := and15 (u / 65536) (by omega) (by omega)
  have b5_0 := and15 (u / 1048576) (by omega) (by omega)
  have b5_1 := and15 (u / 16 / 16 / 16 / 16 / 16) (by omega) (by omega)
  go_enter Tryd.func19, Tryd.ntmps19
  go_wp2_with (first | (go_at_call 23; refine (p2 _).mono ?_; rintro e w' ⟨rfl, rfl⟩) | (go_at_call 24; refine (tz24 _ (c1 _)).mono ?_; rintro e w' ⟨rfl, rfl⟩))
  refine wp_loop_rounds 7 ?_
  repeat any_goals (rw [rounds_succ]; go_wp2)
  go_ret2
  refine ⟨?_, (Below.refl _ w).alloc (Nat.le_refl _) _⟩
  simp only [dg]
  rfl
theorem conv7 (w : World) (x0 x1 x2 x3 x4 x5 x6 x7 : Int) : Sem.run Tryd.prog (convert 40 9 (.slice (some ⟨w.heap.size, 57, none⟩) 8 8)) (w.alloc (.cells #[.int .u8 0, .int .u8 0, .int .u8 0, .int .u8 0, .int .u8 0, .int .u8 0, .int .u8 0, .int .u8 0, .int .u8 0, .int .u8 0, .int .u8 0, .int .u8 0, .int .u8 0, .int .u8 0, .int .u8 0, .int .u8 0, .int .u8 0, .int .u8 0, .int .u8 0, .int .u8 0, .int .u8 0, .int .u8 0, .int .u8 0, .int .u8 0, .int .u8 0, .int .u8 0, .int .u8 0, .int .u8 0, .int .u8 0, .int .u8 0, .int .u8 0, .int .u8 0, .int .u8 0, .int .u8 0, .int .u8 0, .int .u8 0, .int .u8 0, .int .u8 0, .int .u8 0, .int .u8 0, .int .u8 0, .int .u8 0, .int .u8 0, .int .u8 0, .int .u8 0, .int .u8 0, .int .u8 0, .int .u8 0, .int .u8 0, .int .u8 0, .int .u8 0, .int .u8 0, .int .u8 0, .int .u8 0, .int .u8 0, .int .u8 0, .int .u8 0, .int .u8 x0, .int .u8 x1, .int .u8 x2, .int .u8 x3, .int .u8 x4, .int .u8 x5, .int .u8 x6, .int .u8 x7] 47)) = Result.ok (.string (strOfNums [x0, x1, x2, x3, x4, x5, x6, x7])) (w.alloc (.cells #[.int .u8 0, .int .u8 0, .int .u8 0, .int .u8 0, .int .u8 0, .int .u8 0, .int .u8 0, .int .u8 0, .int .u8 0, .int .u8 0, .int .u8 0, .int .u8 0, .int .u8 0, .int .u8 0, .int .u8 0, .int .u8 0, .int .u8 0, .int .u8 0, .int .u8 0, .int .u8 0, .int .u8 0, .int .u8 0, .int .u8 0, .int .u8 0, .int .u8 0, .int .u8 0, .int .u8 0, .int .u8 0, .int .u8 0, .int .u8 0, .int .u8 0, .int .u8 0, .int .u8 0, .int .u8 0, .int .u8 0, .int .u8 0, .int .u8 0, .int .u8 0, .int .u8 0, .int .u8 0, .int .u8 0, .int .u8 0, .int .u8 0, .int .u8 0, .int .u8 0, .int .u8 0, .int .u8 0, .int .u8 0, .int .u8 0, .int .u8 0, .int .u8 0, .int .u8 0, .int .u8 0, .int .u8 0, .int .u8 0, .int .u8 0, .int .u8 0, .int .u8 x0, .int .u8 x1, .int .u8 x2, .int .u8 x3, .int .u8 x4, .int .u8 x5, .int .u8 x6, .int .u8 x7] 47)) := by
  refine run_convert_bytes_arg (P := Tryd.prog) _ 40 5 (by kernel_rfl) (by kernel_rfl) w.heap.size 57 8 8 [x0, x1, x2, x3, x4, x5, x6, x7] rfl (fun i hi => ?_) 9 (by kernel_rfl)
  have hi : i < 8 := hi
  rw [World.cell?_alloc_new]
  have hh : i = 0 ∨ i = 1 ∨ i = 2 ∨ i = 3 ∨ i = 4 ∨ i = 5 ∨ i = 6 ∨ i = 7 := by omega
  rcases hh with rfl | rfl | rfl | rfl | rfl | rfl | rfl | rfl <;> rfl
set_option maxHeartbeats 4000000 in
theorem fb7 (u : Int) (h0 : 268435456 ≤ u) (h1 : u < 4294967296) (w : World) (c : w.cell? ⟨2, 15, none⟩ = some (.int .u8 4)) :
    Calls Tryd.prog 19 #[.slice none 0 0, .int .u64 u, .int .i64 16, .bool false, .bool false] w fun e w' => e = .returned (.tuple #[.slice none 0 0, .string (strOfNums [dgt (u / 16 / 16 / 16 / 16 / 16 / 16 / 16), dgt (u / 16 / 16 / 16 / 16 / 16 / 16 % 16), dgt (u / 16 / 16 / 16 / 16 / 16 % 16), dgt (u / 16 / 16 / 16 / 16 % 16), dgt (u / 16 / 16 / 16 % 16), dgt (u / 16 / 16 % 16), dgt (u / 16 % 16), dgt (u % 16)])]) ∧ Below w.heap.size w w' := by
  have c1 : ∀ o, (w.alloc o).cell? ⟨2, 15, none⟩ = some (.int .u8 4) := fun o => Lib.cell?_alloc_some o c
  have z := z47 w
  have cv := conv7 w
  have b0_0 := and15 (u) (by omega) (by omega)
  have b1_0 := and15 (u / 16) (by omega) (by omega)
  have b2_0 := and15 (u / 16 / 16) (by omega) (by omega)
  have b2_1 := and15 (u / 256) (by omega) (by omega)
  have b3_0 := and15 (u / 16 / 16 / 16) (by omega) (by omega)
  have b3_1 := and15 (u / 4096) (by omega) (by omega)
  have b4_0 := and15 (u / 16 / 16 / 16 / 16) (by omega) (by omega)
  have b4_1 := and15 (u / 65536) (by omega) (by omega)
  have b5_0 := and15 (u / 1048576) (by omega) (by omega)
  have b5_1 := and15 (u / 16 / 16 / 16 / 16 / 16) (by omega) (by omega)
  have b6_0 := and15 (u / 16 / 16 / 16 / 16 / 16 / 16) (by omega) (by omega)
  have b6_1 := and15 (u / 16777216) (by omega) (by omega)
  go_enter Tryd.func19, Tryd.ntmps19
  go_wp2_with (first | (go_at_call 23; refine (p2 _).mono ?_; rintro e w' ⟨rfl, rfl⟩) | (go_at_call 24; refine (tz24 _ (c1 _)).mono ?_; rintro e w' ⟨rfl, rfl⟩))
  refine wp_loop_rounds 8 ?_
  repeat any_goals (rw [rounds_succ]; go_wp2)
  go_ret2
  refine ⟨?_, (Below.refl _ w).alloc (Nat.le_refl _) _⟩
  simp only [dg]
  rfl
def hexN (u : Int) : List Int := if u < 16 then [dgt (u)] else if u < 256 then [dgt (u / 16), dgt (u % 16)] else if u < 4096 then [dgt (u / 16 / 16), dgt (u / 16 % 16), dgt (u % 16)] else if u < 65536 then [dgt (u / 16 / 16 / 16), dgt (u / 16 / 16 % 16), dgt (u / 16 % 16), dgt (u % 16)] else if u < 1048576 then [dgt (u / 16 / 16 / 16 / 16), dgt (u / 16 / 16 / 16 % 16), dgt (u / 16 / 16 % 16), dgt (u / 16 % 16), dgt (u % 16)] else if u < 16777216 then [dgt (u / 16 / 16 / 16 / 16 / 16), dgt (u / 16 / 16 / 16 / 16 % 16), dgt (u / 16 / 16 / 16 % 16), dgt (u / 16 / 16 % 16), dgt (u / 16 % 16), dgt (u % 16)] else if u < 268435456 then [dgt (u / 16 / 16 / 16 / 16 / 16 / 16), dgt (u / 16 / 16 / 16 / 16 / 16 % 16), dgt (u / 16 / 16 / 16 / 16 % 16), dgt (u / 16 / 16 / 16 % 16), dgt (u / 16 / 16 % 16), dgt (u / 16 % 16), dgt (u % 16)] else [dgt (u / 16 / 16 / 16 / 16 / 16 / 16 / 16), dgt (u / 16 / 16 / 16 / 16 / 16 / 16 % 16), dgt (u / 16 / 16 / 16 / 16 / 16 % 16), dgt (u / 16 / 16 / 16 / 16 % 16), dgt (u / 16 / 16 / 16 % 16), dgt (u / 16 / 16 % 16), dgt (u / 16 % 16), dgt (u % 16)]
def hexS (u : Int) : ByteArray := strOfNums (hexN u)
theorem fb (u : Int) (h0 : 0 ≤ u) (h1 : u < 4294967296) (w : World) (c : w.cell? ⟨2, 15, none⟩ = some (.int .u8 4)) :
    Calls Tryd.prog 19 #[.slice none 0 0, .int .u64 u, .int .i64 16, .bool false, .bool false] w fun e w' => e = .returned (.tuple #[.slice none 0 0, .string (hexS u)]) ∧ Below w.heap.size w w' := by
  by_cases g0 : u < 16
  · have e : hexS u = strOfNums [dgt (u)] := by unfold hexS hexN; rw [if_pos (by omega)]
    rw [e]; exact fb0 u (by omega) g0 w c
  by_cases g1 : u < 256
  · have e : hexS u = strOfNums [dgt (u / 16), dgt (u % 16)] := by unfold hexS hexN; rw [if_neg (by omega)]; rw [if_pos (by omega)]
    rw [e]; exact fb1 u (by omega) g1 w c
  by_cases g2 : u < 4096
  · have e : hexS u = strOfNums [dgt (u / 16 / 16), dgt (u / 16 % 16), dgt (u % 16)] := by unfold hexS hexN; rw [if_neg (by omega)]; rw [if_neg (by omega)]; rw [if_pos (by omega)]
    rw [e]; exact fb2 u (by omega) g2 w c
  by_cases g3 : u < 65536
  · have e : hexS u = strOfNums [dgt (u / 16 / 16 / 16), dgt (u / 16 / 16 % 16), dgt (u / 16 % 16), dgt (u % 16)] := by unfold hexS hexN; rw [if_neg (by omega)]; rw [if_neg (by omega)]; rw [if_neg (by omega)]; rw [if_pos (by omega)]
    rw [e]; exact fb3 u (by omega) g3 w c
  by_cases g4 : u < 1048576
  · have e : hexS u = strOfNums [dgt (u / 16 / 16 / 16 / 16), dgt (u / 16 / 16 / 16 % 16), dgt (u / 16 / 16 % 16), dgt (u / 16 % 16), dgt (u % 16)] := by unfold hexS hexN; rw [if_neg (by omega)]; rw [if_neg (by omega)]; rw [if_neg (by omega)]; rw [if_neg (by omega)]; rw [if_pos (by omega)]
    rw [e]; exact fb4 u (by omega) g4 w c
  by_cases g5 : u < 16777216
  · have e : hexS u = strOfNums [dgt (u / 16 / 16 / 16 / 16 / 16), dgt (u / 16 / 16 / 16 / 16 % 16), dgt (u / 16 / 16 / 16 % 16), dgt (u / 16 / 16 % 16), dgt (u / 16 % 16), dgt (u % 16)] := by unfold hexS hexN; rw [if_neg (by omega)]; rw [if_neg (by omega)]; rw [if_neg (by omega)]; rw [if_neg (by omega)]; rw [if_neg (by omega)]; rw [if_pos (by omega)]
    rw [e]; exact fb5 u (by omega) g5 w c
  by_cases g6 : u < 268435456
  · have e : hexS u = strOfNums [dgt (u / 16 / 16 / 16 / 16 / 16 / 16), dgt (u / 16 / 16 / 16 / 16 / 16 % 16), dgt (u / 16 / 16 / 16 / 16 % 16), dgt (u / 16 / 16 / 16 % 16), dgt (u / 16 / 16 % 16), dgt (u / 16 % 16), dgt (u % 16)] := by unfold hexS hexN; rw [if_neg (by omega)]; rw [if_neg (by omega)]; rw [if_neg (by omega)]; rw [if_neg (by omega)]; rw [if_neg (by omega)]; rw [if_neg (by omega)]; rw [if_pos (by omega)]
    rw [e]; exact fb6 u (by omega) g6 w c
  have e : hexS u = strOfNums [dgt (u / 16 / 16 / 16 / 16 / 16 / 16 / 16), dgt (u / 16 / 16 / 16 / 16 / 16 / 16 % 16), dgt (u / 16 / 16 / 16 / 16 / 16 % 16), dgt (u / 16 / 16 / 16 / 16 % 16), dgt (u / 16 / 16 / 16 % 16), dgt (u / 16 / 16 % 16), dgt (u / 16 % 16), dgt (u % 16)] := by unfold hexS hexN; rw [if_neg (by omega)]; rw [if_neg (by omega)]; rw [if_neg (by omega)]; rw [if_neg (by omega)]; rw [if_neg (by omega)]; rw [if_neg (by omega)]; rw [if_neg (by omega)]
  rw [e]; exact fb7 u (by omega) h1 w c
theorem hexN_len (u : Int) : 1 ≤ (hexN u).length ∧ (hexN u).length ≤ 8 := by
  unfold hexN; repeat' split
  all_goals simp
theorem hexS_len (u : Int) : 1 ≤ (hexS u).size ∧ (hexS u).size ≤ 8 := by
  have : (hexS u).size = (hexN u).length := by unfold hexS strOfNums; simp [ByteArray.size]
  rw [this]; exact hexN_len u
set_option maxHeartbeats 2000000 in
theorem fi15 (u : Int) (h0 : 0 ≤ u) (h1 : u < 4294967296) (w : World) (c : w.cell? ⟨2, 15, none⟩ = some (.int .u8 4)) :
    Calls Tryd.prog 15 #[.int .i64 u, .int .i64 16] w fun e w' => e = .returned (.string (hexS u)) ∧ Below w.heap.size w w' := by
  go_enter Tryd.func15, Tryd.ntmps15
  go_wp2_with (first | (go_at_call 19; rw [show decide (u < 0) = false from decide_eq_false (by omega)]; (with_reducible refine (fb u h0 h1 _ c).mono ?_); rintro e w' ⟨rfl, hB⟩))
  go_ret
  exact ⟨rfl, hB⟩
set_option maxHeartbeats 2000000 in
theorem fi13 (u : Int) (h0 : 0 ≤ u) (h1 : u < 4294967296) (w : World) (c : w.cell? ⟨2, 15, none⟩ = some (.int .u8 4)) :
    Calls Tryd.prog 13 #[.int .i64 u, .int .i64 16] w fun e w' => ∃ s : ByteArray, 1 ≤ s.size ∧ s.size ≤ 8 ∧ Hid (s = hexS u) ∧ e = .returned (.string s) ∧ Below w.heap.size w w' := by
  go_enter Tryd.func13, Tryd.ntmps13
  go_wp2_with (first | (go_at_call 15; (with_reducible refine (fi15 u h0 h1 _ c).mono ?_); rintro e w' ⟨rfl, hB⟩))
  go_ret
  exact ⟨hexS u, (hexS_len u).1, (hexS_len u).2, (show Hid _ from rfl), rfl, hB⟩
end Go.Proofs.YtclcdbigdmabiaaDoor.hexText
