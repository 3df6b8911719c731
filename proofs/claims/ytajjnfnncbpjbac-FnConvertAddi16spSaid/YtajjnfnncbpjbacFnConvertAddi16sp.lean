/-
  The statement 'FnConvertAddi16sp' is proved: for every word x of 32 bits the law returns true and its argument reads as before. Conditions: none beyond the row's own.
-/
import Derived.Test.YtajjnfnncbpjbacConv
import Derived.Test.YtajjnfnncbpjbacRows
import Derived.WalkKit
import Derived.ProofKit
import Derived.OpenShut
import Derived.ShutString
import Derived.Handy
import Derived.Deep.QuietTactic
import Derived.BigQuiet
import Derived.RegionTactic
import Derived.ChangeAlike
import Derived.Deep.RegionHeld3
namespace Go.Proofs.Ytajjnfnncbpjbac.fnConvertAddi16sp
open Go.ChangeShapes Go.WideShapes Go.ChangeAt Go.RowKit
open Go.ChangeMaps (open_string shut_string)
set_option linter.unusedVariables false

/-! ### PLAIN NUMBERS -/
def SignedOf (v n half full : Int) : Prop := v = if half ≤ n then n - full else n
theorem signedOf_mk {v n half full s : Int} (hs : Hid (s = n)) (h : v = if half ≤ s then s - full else s) : SignedOf v n half full := by
  unfold Hid at hs; subst hs; exact h
theorem hide {p : Prop} (h : p) : Hid p := h
theorem ret_bool {b c : Bool} (h : b = c) : Ending.returned (.bool b) = .returned (.bool c) := by rw [h]
theorem grown_drewN {w w' : World} (h : Grown w w') (n : Nat) : Grown w (w'.drewN n) := ⟨h.1, h.2.1, h.2.2⟩
theorem grown_trans {a b c : World} (h : Grown a b) (k : Grown b c) : Grown a c := ⟨World.keptBut_trans h.1 k.1, fun x => (k.2.1 x).trans (h.2.1 x), Nat.le_trans h.2.2 k.2.2⟩
theorem nat_or_field (acc t i n : Nat) (h1 : acc / 2 ^ i % 2 ^ n = 0) (h2 : t < 2 ^ n) : acc ||| t * 2 ^ i = acc + t * 2 ^ i := by
  have e1 : acc = 2 ^ i * (2 ^ n * (acc / 2 ^ i / 2 ^ n)) + acc % 2 ^ i := by
    have a := Nat.div_add_mod acc (2 ^ i)
    have b := Nat.div_add_mod (acc / 2 ^ i) (2 ^ n)
    rw [h1, Nat.add_zero] at b
    rw [b]; exact a.symm
  have hlo : acc % 2 ^ i < 2 ^ i := Nat.mod_lt _ (Nat.two_pow_pos i)
  generalize acc % 2 ^ i = lo at e1 hlo
  generalize acc / 2 ^ i / 2 ^ n = hi at e1
  subst e1
  have e3 : 2 ^ i * (2 ^ n * hi) ||| t * 2 ^ i = 2 ^ i * (2 ^ n * hi + t) := by
    rw [Nat.two_pow_add_eq_or_of_lt h2, Nat.mul_comm (2 ^ i) (2 ^ n * hi), Nat.mul_comm (2 ^ i) (2 ^ n * hi ||| t), ← Nat.shiftLeft_eq, ← Nat.shiftLeft_eq, ← Nat.shiftLeft_eq, Nat.shiftLeft_or_distrib]
  rw [Nat.two_pow_add_eq_or_of_lt hlo, Nat.or_assoc, Nat.or_comm lo, ← Nat.or_assoc, e3, ← Nat.two_pow_add_eq_or_of_lt hlo, Nat.mul_add, ← Nat.two_pow_add_eq_or_of_lt hlo, Nat.mul_comm t]
  omega
theorem u32_or_field (i n : Nat) (P M : Int) (hP : P = 2 ^ i) (hM : M = 2 ^ n) (a t : Int) (ha : 0 ≤ a) (ha' : a < 4294967296) (ht : 0 ≤ t) (h2 : t < M) (hb : t * P < 4294967296) (h1 : a / P % M = 0) : bits .or .u32 a (t * P) = a + t * P := by
  subst hP hM
  obtain ⟨A, rfl⟩ := Int.eq_ofNat_of_zero_le ha
  obtain ⟨T, rfl⟩ := Int.eq_ofNat_of_zero_le ht
  have e : (T : Int) * 2 ^ i = ((T * 2 ^ i : Nat) : Int) := by simp
  rw [e] at hb ⊢
  rw [u32_or_nat A (T * 2 ^ i) (by omega) (by omega), nat_or_field A T i n (by exact_mod_cast h1) (by exact_mod_cast h2)]
  simp
theorem u32_or_mid (i n : Nat) (P M : Int) (hP : P = 2 ^ i) (hM : M = 2 ^ n) (a t h l : Int) (ha : 0 ≤ a) (ha' : a < 4294967296) (ht : 0 ≤ t) (h2 : t < M) (hb : t * P < 4294967296) (e : a = l + h * M * P) (hl : 0 ≤ l) (hl' : l < P) : bits .or .u32 a (t * P) = a + t * P := by
  refine u32_or_field i n P M hP hM a t ha ha' ht h2 hb ?_
  rw [e, Int.add_mul_ediv_right _ _ (by omega), Int.ediv_eq_zero_of_lt hl hl', Int.zero_add, Int.mul_emod_left]
theorem u32_or_top (i : Nat) (P : Int) (hP : P = 2 ^ i) (a t : Int) (ha : 0 ≤ a) (ha' : a < 4294967296) (ht : 0 ≤ t) (h1 : a < P) (hb : t * P < 4294967296) : bits .or .u32 a (t * P) = a + t * P := by
  subst hP
  obtain ⟨A, rfl⟩ := Int.eq_ofNat_of_zero_le ha
  obtain ⟨T, rfl⟩ := Int.eq_ofNat_of_zero_le ht
  have e : (T : Int) * 2 ^ i = ((T * 2 ^ i : Nat) : Int) := by simp
  have hA : A < 2 ^ i := by exact_mod_cast h1
  rw [e] at hb ⊢
  rw [u32_or_nat A (T * 2 ^ i) (by omega) (by omega), Nat.or_comm, Nat.mul_comm, ← Nat.two_pow_add_eq_or_of_lt hA, Nat.add_comm]
  simp
theorem u32_or_high (i : Nat) (a t : Int) (ha : 0 ≤ a) (ha' : a < 2 ^ i) (ht : 1 ≤ t) (hb : t * 2 ^ i < 4294967296) : bits .or .u32 a (t * 2 ^ i) = a + t * 2 ^ i := by
  obtain ⟨A, rfl⟩ := Int.eq_ofNat_of_zero_le ha
  obtain ⟨T, rfl⟩ := Int.eq_ofNat_of_zero_le (show 0 ≤ t by omega)
  have e : (T : Int) * 2 ^ i = ((T * 2 ^ i : Nat) : Int) := by simp
  have hA : A < 2 ^ i := by exact_mod_cast ha'
  rw [e] at hb ⊢
  have h1 : 2 ^ i ≤ T * 2 ^ i := Nat.le_mul_of_pos_left _ (by omega)
  rw [u32_or_nat A (T * 2 ^ i) (by omega) (by omega), Nat.or_comm, Nat.mul_comm, ← Nat.two_pow_add_eq_or_of_lt hA, Nat.add_comm]
  simp
theorem u32_and_low (n : Nat) (hn : n ≤ 31) (a : Int) (ha : 0 ≤ a) (ha' : a < 4294967296) : bits .and .u32 a (2 ^ n - 1) = a % 2 ^ n := by
  obtain ⟨A, rfl⟩ := Int.eq_ofNat_of_zero_le ha
  have hp : 2 ^ n ≤ 2 ^ 31 := Nat.pow_le_pow_right (by omega) hn
  have h1 : 1 ≤ 2 ^ n := Nat.one_le_two_pow
  have e : ((2 : Int) ^ n - 1) = ((2 ^ n - 1 : Nat) : Int) := by rw [Int.ofNat_sub h1]; simp
  rw [e, u32_and_nat A (2 ^ n - 1) (by omega) (by omega), Nat.and_two_pow_sub_one_eq_mod]
  simp
theorem own : ownKnob Try.prog.godebug = none := by kernel_rfl

theorem as_Reg (v : Value) (w : World) : (Instr.typeAssert (.iface 52 v) 40 52 false).run Try.prog w = .ok v w := by kernel_rfl
theorem as_Simm (v : Value) (w : World) : (Instr.typeAssert (.iface 57 v) 40 57 false).run Try.prog w = .ok v w := by kernel_rfl
theorem as_Uimm (v : Value) (w : World) : (Instr.typeAssert (.iface 61 v) 40 61 false).run Try.prog w = .ok v w := by kernel_rfl
theorem fld_Simm (n : Int) (d : Bool) (k : Int) (w : World) : (Instr.field 57 (.agg #[.int .i32 n, .bool d, .int .u8 k]) 0).run Try.prog w = .ok (.int .i32 n) w := by kernel_rfl
theorem fld_Uimm (n : Int) (d : Bool) (w : World) : (Instr.field 61 (.agg #[.int .u32 n, .bool d]) 0).run Try.prog w = .ok (.int .u32 n) w := by kernel_rfl
set_option maxRecDepth 100000 in
set_option maxHeartbeats 1000000 in
theorem zz (n0 : Int) (n0a : -131072 ≤ n0) (n0b : n0 ≤ 131071) (w : World) :
    Calls Try.prog 47 #[.int .u16 119, .agg #[.iface 57 (.agg #[.int .i32 n0, .bool true, .int .u8 12]), .nilIface, .nilIface, .nilIface, .nilIface, .nilIface]] w fun e w' => e = .returned (.tuple #[.int .u16 2, .agg #[.iface 52 (.int .u16 2), .iface 52 (.int .u16 2), .iface 57 (.agg #[.int .i32 n0, .bool true, .int .u8 12]), .nilIface, .nilIface, .nilIface]]) ∧ Below w.heap.size w w' := by
  have e0 := as_Reg
  have e1 := as_Simm
  have e2 := as_Uimm
  have e3 := fld_Simm
  have e4 := fld_Uimm
  go_enter Try.func47, Try.ntmps47
  go_wp2
  go_region
  all_goals go_wp2
  all_goals exact bodyPost_ret (v := .tuple #[.int .u16 2, .agg #[.iface 52 (.int .u16 2), .iface 52 (.int .u16 2), .iface 57 (.agg #[.int .i32 n0, .bool true, .int .u8 12]), .nilIface, .nilIface, .nilIface]]) (by simp [results, Try.results47, go_sem]) rfl ⟨rfl, by go_grown⟩
set_option maxRecDepth 100000 in
theorem conv_law (n0 : Int) (n0a : -131072 ≤ n0) (n0b : n0 ≤ 131071) (g cap : Nat) (w : World) (hg : g < w.heap.size) (c0 : w.cell? ⟨g, 0, none⟩ = some (.int .i64 4)) (c1 : w.cell? ⟨g, 1, none⟩ = some (.int .i64 0)) (c2 : w.cell? ⟨g, 2, none⟩ = some (.int .i64 n0)) :
    Calls Try.prog 22 #[.int .i64 119, .slice (some ⟨g, 0, none⟩) 1 cap] w fun e w' => ∃ g2 cap2, e = .returned (.tuple #[.int .i64 2, .slice (some ⟨g2, 0, none⟩) 3 cap2]) ∧ g < w'.heap.size ∧ g2 < w'.heap.size ∧ Below w.heap.size w w' ∧ w'.cell? ⟨g, 0, none⟩ = some (.int .i64 4) ∧ w'.cell? ⟨g, 1, none⟩ = some (.int .i64 0) ∧ w'.cell? ⟨g, 2, none⟩ = some (.int .i64 n0) ∧ w'.cell? ⟨g2, 0, none⟩ = some (.int .i64 1) ∧ w'.cell? ⟨g2, 1, none⟩ = some (.int .i64 2) ∧ w'.cell? ⟨g2, 2, none⟩ = some (.int .i64 0) ∧ w'.cell? ⟨g2, 3, none⟩ = some (.int .i64 1) ∧ w'.cell? ⟨g2, 4, none⟩ = some (.int .i64 2) ∧ w'.cell? ⟨g2, 5, none⟩ = some (.int .i64 0) ∧ w'.cell? ⟨g2, 6, none⟩ = some (.int .i64 4) ∧ w'.cell? ⟨g2, 7, none⟩ = some (.int .i64 0) ∧ w'.cell? ⟨g2, 8, none⟩ = some (.int .i64 n0) := by
  refine (Conv.convert_S_3 n0 (by omega) (by omega) 119 2 (by omega) (by omega) (by omega) (by omega) (.reg 2) (by simp only [Conv.RV.ok]; omega) (.reg 2) (by simp only [Conv.RV.ok]; omega) (.simm n0 12) (by simp only [Conv.RV.ok]; omega) g cap w hg c0 c1 c2 (Conv.hide fun W => zz n0 (by omega) (by omega) W)).mono ?_
  rintro e w' ⟨v, rfl, hown, hb⟩
  obtain ⟨g2, cap2, rfl, h1, hd⟩ := Conv.own_cells hown (by omega)
  refine ⟨g2, cap2, rfl, Nat.lt_of_lt_of_le hg hb.size, h1, hb, (hb.cell (p := ⟨g, 0, none⟩) hg).trans c0, (hb.cell (p := ⟨g, 1, none⟩) hg).trans c1, (hb.cell (p := ⟨g, 2, none⟩) hg).trans c2, hd 0 _ rfl, hd 1 _ rfl, hd 2 _ rfl, hd 3 _ rfl, hd 4 _ rfl, hd 5 _ rfl, hd 6 _ rfl, hd 7 _ rfl, hd 8 _ rfl⟩
theorem or_c_nzimm10 (x : Int) (h0 : 0 ≤ x) (h1 : x ≤ 4294967295) : bits BinOp.or IntKind.u32 (bits BinOp.or IntKind.u32 (bits BinOp.or IntKind.u32 (bits BinOp.or IntKind.u32 (x * 536870912 % 4294967296 / 2147483648 * 32) (x * 134217728 % 4294967296 / 1073741824 * 128)) (x * 67108864 % 4294967296 / 2147483648 * 64)) (x * 33554432 % 4294967296 / 2147483648 * 16)) (x * 524288 % 4294967296 / 2147483648 * 512) = x / 4 % 2 * 32 + x / 8 % 4 * 128 + x / 32 % 2 * 64 + x / 64 % 2 * 16 + x / 4096 % 2 * 512 := by
  rw [show x * 536870912 % 4294967296 / 2147483648 * 32 = x / 4 % 2 * 32 from by omega]
  rw [show x * 134217728 % 4294967296 / 1073741824 * 128 = x / 8 % 4 * 128 from by omega]
  rw [show x * 67108864 % 4294967296 / 2147483648 * 64 = x / 32 % 2 * 64 from by omega]
  rw [show x * 33554432 % 4294967296 / 2147483648 * 16 = x / 64 % 2 * 16 from by omega]
  rw [show x * 524288 % 4294967296 / 2147483648 * 512 = x / 4096 % 2 * 512 from by omega]
  rw [u32_or_top 7 128 (by decide) _ (x / 8 % 4) (by omega) (by omega) (by omega) (by omega) (by omega)]
  rw [u32_or_mid 6 1 64 2 (by decide) (by decide) _ (x / 32 % 2) (x / 8 % 4) (x / 4 % 2 * 32) (by omega) (by omega) (by omega) (by omega) (by omega) (by omega) (by omega) (by omega)]
  rw [u32_or_mid 4 1 16 2 (by decide) (by decide) _ (x / 64 % 2) (x / 4 % 2 + x / 8 % 4 * 4 + x / 32 % 2 * 2) (0) (by omega) (by omega) (by omega) (by omega) (by omega) (by omega) (by omega) (by omega)]
  rw [u32_or_top 9 512 (by decide) _ (x / 4096 % 2) (by omega) (by omega) (by omega) (by omega) (by omega)]
  all_goals omega
set_option maxRecDepth 100000 in
theorem dec_c_nzimm10 (x : Int) (h0 : 0 ≤ x) (h1 : x ≤ 4294967295) (hz : ¬ x / 4 % 2 * 32 + x / 8 % 4 * 128 + x / 32 % 2 * 64 + x / 64 % 2 * 16 + x / 4096 % 2 * 512 = 0) (w : World) :
    Calls Try.prog 50 #[.int .u16 56, .int .u32 x, .int .i64 0] w fun e w' => ∃ v : Int, -512 ≤ v ∧ v < 512 ∧ SignedOf v (x / 4 % 2 * 32 + x / 8 % 4 * 128 + x / 32 % 2 * 64 + x / 64 % 2 * 16 + x / 4096 % 2 * 512) 512 1024 ∧ e = .returned (.iface 57 (.agg #[.int .i32 v, .bool true, .int .u8 10])) ∧ w = w' := by
  obtain ⟨s, hs0, hs1, hor, HS⟩ : ∃ s : Int, 0 ≤ s ∧ s < 1024 ∧ bits BinOp.or IntKind.u32 (bits BinOp.or IntKind.u32 (bits BinOp.or IntKind.u32 (bits BinOp.or IntKind.u32 (x * 536870912 % 4294967296 / 2147483648 * 32) (x * 134217728 % 4294967296 / 1073741824 * 128)) (x * 67108864 % 4294967296 / 2147483648 * 64)) (x * 33554432 % 4294967296 / 2147483648 * 16)) (x * 524288 % 4294967296 / 2147483648 * 512) = s ∧ Hid (s = x / 4 % 2 * 32 + x / 8 % 4 * 128 + x / 32 % 2 * 64 + x / 64 % 2 * 16 + x / 4096 % 2 * 512) := ⟨x / 4 % 2 * 32 + x / 8 % 4 * 128 + x / 32 % 2 * 64 + x / 64 % 2 * 16 + x / 4096 % 2 * 512, by omega, by omega, or_c_nzimm10 x h0 h1, hide rfl⟩
  have hz2 : ¬ s = 0 := by have e := HS; unfold Hid at e; omega
  clear hz
  have hs : bits BinOp.or IntKind.u32 s 4294966272 = s + 4294966272 := by
    rw [show (4294966272 : Int) = 4194303 * 2 ^ 10 from by omega]
    exact u32_or_high 10 _ 4194303 (by omega) (by omega) (by omega) (by omega)
  by_cases hn : 512 ≤ s
  · have t1 : (s / 512 == 1) = true := by rw [beq_iff_eq]; omega
    have hw : wrap32 (s + 4294966272) = s - 1024 := by unfold wrap32; omega
    go_enter Try.func50, Try.ntmps50
    go_wp2
    go_ret
    exact ⟨_, by omega, by omega, signedOf_mk HS (by first | (rw [if_pos (by omega)]) | (rw [if_neg (by omega)])), rfl, rfl⟩
  · have t1 : (s / 512 == 1) = false := by rw [beq_eq_false_iff_ne]; omega
    clear hs
    go_enter Try.func50, Try.ntmps50
    go_wp2
    go_ret
    exact ⟨_, by omega, by omega, signedOf_mk HS (by first | (rw [if_pos (by omega)]) | (rw [if_neg (by omega)])), rfl, rfl⟩
set_option maxRecDepth 100000 in
theorem dec_c_nzimm10_zero (x : Int) (h0 : 0 ≤ x) (h1 : x ≤ 4294967295) (hz : x / 4 % 2 * 32 + x / 8 % 4 * 128 + x / 32 % 2 * 64 + x / 64 % 2 * 16 + x / 4096 % 2 * 512 = 0) (w : World) :
    Calls Try.prog 50 #[.int .u16 56, .int .u32 x, .int .i64 0] w fun e w' => e = .returned (.nilIface) ∧ w = w' := by
  have hor : bits BinOp.or IntKind.u32 (bits BinOp.or IntKind.u32 (bits BinOp.or IntKind.u32 (bits BinOp.or IntKind.u32 (x * 536870912 % 4294967296 / 2147483648 * 32) (x * 134217728 % 4294967296 / 1073741824 * 128)) (x * 67108864 % 4294967296 / 2147483648 * 64)) (x * 33554432 % 4294967296 / 2147483648 * 16)) (x * 524288 % 4294967296 / 2147483648 * 512) = 0 := (or_c_nzimm10 x h0 h1).trans hz
  clear hz
  go_enter Try.func50, Try.ntmps50
  go_wp2
  go_ret
  exact ⟨rfl, rfl⟩
theorem there_law (n0 : Int) (g cap : Nat) (w : World) (c0 : w.cell? ⟨g, 0, none⟩ = some (.int .i64 4)) (c1 : w.cell? ⟨g, 1, none⟩ = some (.int .i64 0)) (c2 : w.cell? ⟨g, 2, none⟩ = some (.int .i64 n0)) :
    Calls Try.prog 23 #[.slice (some ⟨g, 0, none⟩) 1 cap] w fun e w' => e = .returned (.bool true) ∧ w' = w :=
  Conv.there_1 (.simm n0 12) g cap w c0 c1 c2
theorem likeall_law (n0 : Int) (g cap k gp : Nat) (w : World) (hk : k = w.heap.size) (hg : g < w.heap.size) (hgp : gp < w.heap.size) (c0 : w.cell? ⟨g, 0, none⟩ = some (.int .i64 1)) (c1 : w.cell? ⟨g, 1, none⟩ = some (.int .i64 2)) (c2 : w.cell? ⟨g, 2, none⟩ = some (.int .i64 0)) (c3 : w.cell? ⟨g, 3, none⟩ = some (.int .i64 1)) (c4 : w.cell? ⟨g, 4, none⟩ = some (.int .i64 2)) (c5 : w.cell? ⟨g, 5, none⟩ = some (.int .i64 0)) (c6 : w.cell? ⟨g, 6, none⟩ = some (.int .i64 4)) (c7 : w.cell? ⟨g, 7, none⟩ = some (.int .i64 0)) (c8 : w.cell? ⟨g, 8, none⟩ = some (.int .i64 n0)) (p0 : w.cell? ⟨gp, 0, none⟩ = some (.int .i64 4)) (p1 : w.cell? ⟨gp, 1, none⟩ = some (.int .i64 0)) (p2 : w.cell? ⟨gp, 2, none⟩ = some (.int .i64 n0)) :
    Calls Try.prog 24 #[.slice (some ⟨g, 0, none⟩) 3 cap, .slice (some ⟨k, 0, none⟩) 3 3] (w.alloc (.cells #[.int .i64 1, .int .i64 2, .int .i64 0, .int .i64 1, .int .i64 2, .int .i64 0, .int .i64 4, .int .i64 0, .int .i64 n0] 25)).drew fun e w' => e = .returned (.bool true) ∧ Below w.heap.size w w' ∧ w'.cell? ⟨gp, 0, none⟩ = some (.int .i64 4) ∧ w'.cell? ⟨gp, 1, none⟩ = some (.int .i64 0) ∧ w'.cell? ⟨gp, 2, none⟩ = some (.int .i64 n0) := by
  refine (Conv.likeall_new_3 (.reg 2) (.reg 2) (.simm n0 12) g cap k w.drew hk hg c0 c1 c2 c3 c4 c5 c6 c7 c8).mono ?_
  rintro e w' ⟨rfl, hb'⟩
  have hb : Below w.heap.size w w' := ⟨hb'.os, hb'.tape, hb'.output, hb'.size, hb'.block⟩
  exact ⟨rfl, hb, (hb.cell (p := ⟨gp, 0, none⟩) hgp).trans p0, (hb.cell (p := ⟨gp, 1, none⟩) hgp).trans p1, (hb.cell (p := ⟨gp, 2, none⟩) hgp).trans p2⟩
theorem x_law (n : Int) (w : World) :
    Calls Try.prog 25 #[.int .i64 n] w fun e w' => e = .returned (.agg #[.int .i64 1, .int .i64 n, .int .i64 0]) ∧ w.alloc (.cells #[.int .i64 1, .int .i64 n, .int .i64 0] 25) = w' := by
  go_enter Try.func25, Try.ntmps25
  go_wp2
  go_returns
  exact ⟨rfl, rfl⟩
theorem at_law (r n : Int) (w : World) :
    Calls Try.prog 27 #[.int .i64 r, .int .i64 n] w fun e w' => e = .returned (.agg #[.int .i64 3, .int .i64 r, .int .i64 n]) ∧ w.alloc (.cells #[.int .i64 3, .int .i64 r, .int .i64 n] 25) = w' := by
  go_enter Try.func27, Try.ntmps27
  go_wp2
  go_returns
  exact ⟨rfl, rfl⟩
theorem below_drewN {B : Nat} {a w : World} (h : Below B a w) (n : Nat) : Below B a (w.drewN n) := ⟨h.os, h.tape, h.output, h.size, h.block⟩
theorem field_12_12 (x : Int) (h0 : 0 ≤ x) (h1 : x ≤ 4294967295) (w : World) :
    Calls Try.prog 17 #[.int .u32 x, .int .i64 12, .int .i64 12] w fun e w' => ∃ n, e = .returned (.int .i64 (x / 4096 % 2)) ∧ w.drewN n = w' := by
  go_enter Try.func17, Try.ntmps17
  go_wp2
  go_quiet (fail)
  go_wp2
  go_ret
  exact ⟨_, rfl, rfl⟩
theorem field_4_3 (x : Int) (h0 : 0 ≤ x) (h1 : x ≤ 4294967295) (w : World) :
    Calls Try.prog 17 #[.int .u32 x, .int .i64 4, .int .i64 3] w fun e w' => ∃ n, e = .returned (.int .i64 (x / 8 % 4)) ∧ w.drewN n = w' := by
  go_enter Try.func17, Try.ntmps17
  go_wp2
  go_quiet (fail)
  go_wp2
  go_ret
  exact ⟨_, rfl, rfl⟩
theorem field_5_5 (x : Int) (h0 : 0 ≤ x) (h1 : x ≤ 4294967295) (w : World) :
    Calls Try.prog 17 #[.int .u32 x, .int .i64 5, .int .i64 5] w fun e w' => ∃ n, e = .returned (.int .i64 (x / 32 % 2)) ∧ w.drewN n = w' := by
  go_enter Try.func17, Try.ntmps17
  go_wp2
  go_quiet (fail)
  go_wp2
  go_ret
  exact ⟨_, rfl, rfl⟩
theorem field_2_2 (x : Int) (h0 : 0 ≤ x) (h1 : x ≤ 4294967295) (w : World) :
    Calls Try.prog 17 #[.int .u32 x, .int .i64 2, .int .i64 2] w fun e w' => ∃ n, e = .returned (.int .i64 (x / 4 % 2)) ∧ w.drewN n = w' := by
  go_enter Try.func17, Try.ntmps17
  go_wp2
  go_quiet (fail)
  go_wp2
  go_ret
  exact ⟨_, rfl, rfl⟩
theorem field_6_6 (x : Int) (h0 : 0 ≤ x) (h1 : x ≤ 4294967295) (w : World) :
    Calls Try.prog 17 #[.int .u32 x, .int .i64 6, .int .i64 6] w fun e w' => ∃ n, e = .returned (.int .i64 (x / 64 % 2)) ∧ w.drewN n = w' := by
  go_enter Try.func17, Try.ntmps17
  go_wp2
  go_quiet (fail)
  go_wp2
  go_ret
  exact ⟨_, rfl, rfl⟩
set_option maxRecDepth 100000 in
set_option maxHeartbeats 4000000 in
theorem law (x : Int) (h0 : 0 ≤ x) (h1 : x ≤ 4294967295) (w : World) :
    Calls Try.prog 5 #[.int .u32 x] w fun e w' => e = .returned (.bool true) ∧ Below w.heap.size w w' := by
  have e0 := Conv.ta_Simm_Reg
  have e1 := Conv.ta_Simm_RegPtr
  have e2 := Conv.ta_Simm_RegOffset
  have e3 := Conv.ta_Simm_Simm
  by_cases hq0 : x / 4096 % 2 * 512 + x / 8 % 4 * 128 + x / 32 % 2 * 64 + x / 4 % 2 * 32 + x / 64 % 2 * 16 = 0
  · have ht_c_nzimm10 : (x / 4096 % 2 * 512 + x / 8 % 4 * 128 + x / 32 % 2 * 64 + x / 4 % 2 * 32 + x / 64 % 2 * 16 == 0) = true := by rw [beq_iff_eq]; exact hq0
    have hz_c_nzimm10 : x / 4 % 2 * 32 + x / 8 % 4 * 128 + x / 32 % 2 * 64 + x / 64 % 2 * 16 + x / 4096 % 2 * 512 = 0 := by omega
    clear hq0
    have hs : x / 4096 % 2 * 512 + x / 8 % 4 * 128 + x / 32 % 2 * 64 + x / 4 % 2 * 32 + x / 64 % 2 * 16 < 512 := by omega
    go_enter Try.func5, Try.ntmps5
    go_wp2_with (first | (go_at_call 50; (with_reducible refine (dec_c_nzimm10 x h0 h1 hz_c_nzimm10 _).mono ?_); rintro e w' ⟨v, hv0, hv1, HV, rfl, rfl⟩) | (go_at_call 50; (with_reducible refine (dec_c_nzimm10_zero x h0 h1 hz_c_nzimm10 _).mono ?_); rintro e w' ⟨rfl, rfl⟩) | (go_at_call 17; (with_reducible refine (field_12_12 x h0 h1 _).mono ?_); rintro e W ⟨nq, rfl, rfl⟩) | (go_at_call 17; (with_reducible refine (field_4_3 x h0 h1 _).mono ?_); rintro e W ⟨nq, rfl, rfl⟩) | (go_at_call 17; (with_reducible refine (field_5_5 x h0 h1 _).mono ?_); rintro e W ⟨nq, rfl, rfl⟩) | (go_at_call 17; (with_reducible refine (field_2_2 x h0 h1 _).mono ?_); rintro e W ⟨nq, rfl, rfl⟩) | (go_at_call 17; (with_reducible refine (field_6_6 x h0 h1 _).mono ?_); rintro e W ⟨nq, rfl, rfl⟩) | (go_at_call 20; go_in) | (go_at_call 43; go_in) | (go_at_call 42; go_in) | (go_at_call 45; go_in) | (go_at_call 21; go_in) | (go_at_call 44; go_in) | (go_at_call 25; go_in) | (go_at_call 27; go_in) | (go_at_call 19; go_in))
    all_goals go_ret
    all_goals exact ⟨rfl, (by repeat' (first | (with_reducible exact Below.refl _ _) | (with_reducible assumption) | (with_reducible refine Below.alloc ?_ ?_ _) | (with_reducible refine Below.drew ?_) | (with_reducible refine below_drewN ?_ _) | go_size))⟩
  · have ht_c_nzimm10 : (x / 4096 % 2 * 512 + x / 8 % 4 * 128 + x / 32 % 2 * 64 + x / 4 % 2 * 32 + x / 64 % 2 * 16 == 0) = false := by rw [beq_eq_false_iff_ne]; exact hq0
    have hz_c_nzimm10 : ¬ x / 4 % 2 * 32 + x / 8 % 4 * 128 + x / 32 % 2 * 64 + x / 64 % 2 * 16 + x / 4096 % 2 * 512 = 0 := by omega
    by_cases hs : 512 ≤ x / 4096 % 2 * 512 + x / 8 % 4 * 128 + x / 32 % 2 * 64 + x / 4 % 2 * 32 + x / 64 % 2 * 16
    · skip
      go_enter Try.func5, Try.ntmps5
      go_wp2_with (first | (go_at_call 50; (with_reducible refine (dec_c_nzimm10 x h0 h1 hz_c_nzimm10 _).mono ?_); rintro e w' ⟨v, hv0, hv1, HV, rfl, rfl⟩) | (go_at_call 50; (with_reducible refine (dec_c_nzimm10_zero x h0 h1 hz_c_nzimm10 _).mono ?_); rintro e w' ⟨rfl, rfl⟩) | (go_at_call 17; (with_reducible refine (field_12_12 x h0 h1 _).mono ?_); rintro e W ⟨nq, rfl, rfl⟩) | (go_at_call 17; (with_reducible refine (field_4_3 x h0 h1 _).mono ?_); rintro e W ⟨nq, rfl, rfl⟩) | (go_at_call 17; (with_reducible refine (field_5_5 x h0 h1 _).mono ?_); rintro e W ⟨nq, rfl, rfl⟩) | (go_at_call 17; (with_reducible refine (field_2_2 x h0 h1 _).mono ?_); rintro e W ⟨nq, rfl, rfl⟩) | (go_at_call 17; (with_reducible refine (field_6_6 x h0 h1 _).mono ?_); rintro e W ⟨nq, rfl, rfl⟩) | (go_at_call 20; go_in) | (go_at_call 43; go_in) | (go_at_call 42; go_in) | (go_at_call 45; go_in) | (go_at_call 21; go_in) | (go_at_call 44; go_in) | (go_at_call 25; go_in) | (go_at_call 27; go_in) | (go_at_call 19; go_in))
      go_call (conv_law (v) (by omega) (by omega)) as e w1 ⟨g2, cap2, rfl, hgA, hgB, hB1, p0, p1, p2, d0, d1, d2, d3, d4, d5, d6, d7, d8⟩
      go_wp2_with fail
      clear e0 e1 e2 e3
      have hBw : Below w.heap.size w w1 := Conv.below_call (by repeat' (first | (with_reducible exact Below.refl _ _) | (with_reducible assumption) | (with_reducible refine Below.alloc ?_ ?_ _) | (with_reducible refine Below.drew ?_) | (with_reducible refine below_drewN ?_ _) | go_size)) hB1 (Nat.le_refl _)
      have hsz := hBw.size
      clear hB1
      go_region_held3 (fun w' => w'.cell? ⟨w.heap.size + 1 + 1 + 1, 0, none⟩ = some (.int .i64 4) ∧ w'.cell? ⟨w.heap.size + 1 + 1 + 1, 1, none⟩ = some (.int .i64 0) ∧ w'.cell? ⟨w.heap.size + 1 + 1 + 1, 2, none⟩ = some (.int .i64 v)) (simp (maxDischargeDepth := 8) [*, World.cell?_alloc_some]) (first | (go_at_call 23; apply Calls.mono; (focus ((apply there_law (v)) <;> (go_keep; done))); rintro e wt ⟨rfl, rfl⟩) | (go_at_call 25; refine (x_law _ _).mono ?_; rintro e wx ⟨rfl, rfl⟩) | (go_at_call 27; refine (at_law _ _ _).mono ?_; rintro e wx ⟨rfl, rfl⟩) | (go_at_call 24; apply Calls.mono; (focus ((apply likeall_law (v) (g := g2) (gp := w.heap.size + 1 + 1 + 1)) <;> first | (with_reducible rfl) | (simp [*]; done) | (simp (maxDischargeDepth := 8) [*, World.cell?_alloc_some]; done) | (go_size; done))); rintro e w3 ⟨rfl, hL, k0, k1, k2⟩))
      all_goals go_wp2
      all_goals go_ret
      all_goals exact ⟨rfl, Conv.below_call (B := w.heap.size) (by repeat' (first | (with_reducible exact Below.refl _ _) | (with_reducible assumption) | (with_reducible refine Below.alloc ?_ ?_ _) | (with_reducible refine Below.drew ?_) | (with_reducible refine below_drewN ?_ _) | go_size)) hL (by go_size)⟩
    · have hs2 := Int.not_le.1 hs
      clear hs
      go_enter Try.func5, Try.ntmps5
      go_wp2_with (first | (go_at_call 50; (with_reducible refine (dec_c_nzimm10 x h0 h1 hz_c_nzimm10 _).mono ?_); rintro e w' ⟨v, hv0, hv1, HV, rfl, rfl⟩) | (go_at_call 50; (with_reducible refine (dec_c_nzimm10_zero x h0 h1 hz_c_nzimm10 _).mono ?_); rintro e w' ⟨rfl, rfl⟩) | (go_at_call 17; (with_reducible refine (field_12_12 x h0 h1 _).mono ?_); rintro e W ⟨nq, rfl, rfl⟩) | (go_at_call 17; (with_reducible refine (field_4_3 x h0 h1 _).mono ?_); rintro e W ⟨nq, rfl, rfl⟩) | (go_at_call 17; (with_reducible refine (field_5_5 x h0 h1 _).mono ?_); rintro e W ⟨nq, rfl, rfl⟩) | (go_at_call 17; (with_reducible refine (field_2_2 x h0 h1 _).mono ?_); rintro e W ⟨nq, rfl, rfl⟩) | (go_at_call 17; (with_reducible refine (field_6_6 x h0 h1 _).mono ?_); rintro e W ⟨nq, rfl, rfl⟩) | (go_at_call 20; go_in) | (go_at_call 43; go_in) | (go_at_call 42; go_in) | (go_at_call 45; go_in) | (go_at_call 21; go_in) | (go_at_call 44; go_in) | (go_at_call 25; go_in) | (go_at_call 27; go_in) | (go_at_call 19; go_in))
      go_call (conv_law (v) (by omega) (by omega)) as e w1 ⟨g2, cap2, rfl, hgA, hgB, hB1, p0, p1, p2, d0, d1, d2, d3, d4, d5, d6, d7, d8⟩
      go_wp2_with fail
      clear e0 e1 e2 e3
      have hBw : Below w.heap.size w w1 := Conv.below_call (by repeat' (first | (with_reducible exact Below.refl _ _) | (with_reducible assumption) | (with_reducible refine Below.alloc ?_ ?_ _) | (with_reducible refine Below.drew ?_) | (with_reducible refine below_drewN ?_ _) | go_size)) hB1 (Nat.le_refl _)
      have hsz := hBw.size
      clear hB1
      go_region_held3 (fun w' => w'.cell? ⟨w.heap.size + 1 + 1 + 1, 0, none⟩ = some (.int .i64 4) ∧ w'.cell? ⟨w.heap.size + 1 + 1 + 1, 1, none⟩ = some (.int .i64 0) ∧ w'.cell? ⟨w.heap.size + 1 + 1 + 1, 2, none⟩ = some (.int .i64 v)) (simp (maxDischargeDepth := 8) [*, World.cell?_alloc_some]) (first | (go_at_call 23; apply Calls.mono; (focus ((apply there_law (v)) <;> (go_keep; done))); rintro e wt ⟨rfl, rfl⟩) | (go_at_call 25; refine (x_law _ _).mono ?_; rintro e wx ⟨rfl, rfl⟩) | (go_at_call 27; refine (at_law _ _ _).mono ?_; rintro e wx ⟨rfl, rfl⟩) | (go_at_call 24; apply Calls.mono; (focus ((apply likeall_law (v) (g := g2) (gp := w.heap.size + 1 + 1 + 1)) <;> first | (with_reducible rfl) | (simp [*]; done) | (simp (maxDischargeDepth := 8) [*, World.cell?_alloc_some]; done) | (go_size; done))); rintro e w3 ⟨rfl, hL, k0, k1, k2⟩))
      all_goals go_wp2
      all_goals go_ret
      all_goals exact ⟨rfl, Conv.below_call (B := w.heap.size) (by repeat' (first | (with_reducible exact Below.refl _ _) | (with_reducible assumption) | (with_reducible refine Below.alloc ?_ ?_ _) | (with_reducible refine Below.drew ?_) | (with_reducible refine below_drewN ?_ _) | go_size)) hL (by go_size)⟩
theorem walk (a0 : Int) (w0 : (Lit.int .u32 a0).wf = true) (w : World) :
    Calls Try.prog 5 #[.int .u32 a0] w fun e w' => e = .returned (.bool true) ∧ Below w.heap.size w w' := by
  have hb := bounds_u32 w0
  exact law a0 hb.1 (by omega) w

/-! ### THE ROW's STEP: WRITTEN OUT: LEAVE IT -/
set_option maxRecDepth 100000 in
theorem lifted (os : Os) (started : os.Started) (H : Type) (enc : TypeId × Value → H) :
    ReturnsInHanded {} Try.checked os 5 .any (Rows.fnConvertAddi16spSpec.pre6 enc Try.prog Try.f5 Rows.fnConvertAddi16spRow.domain false) (Rows.fnConvertAddi16spSpec.post enc Try.prog Try.f5 false true false false) := by
  refine returnsInHanded_of_change (C := Try.checked) own started (by kernel_rfl) Try.func5
    (ChangeSpec.witness6 (enc := enc) (C := Try.checked) false ⟨#[], #[.int .u32 0], []⟩ 8 (by kernel_rfl) (by kernel_rfl) (by kernel_rfl) (by kernel_rfl)) ?_
  intro W base args ds gs before hval0 hW hcnd _
  have hval : ∀ (j : Nat) t v, Try.f5.params[j]? = some t → args[j]? = some v → Value.okWide Try.prog W .any base t v := hval0
  have hW' := hW
  obtain ⟨p, q, hA0, hV, rfl, hfz, hnd⟩ := hW
  have hA : DataW.TrodAll enc Try.prog W 0 (fun _ => true) true Try.f5.params.toList args.toList ds p := hA0
  rw [Try.params5] at hA hval
  obtain ⟨v0, vs0, d0, ds0, p0, q0, hargs, rfl, rfl, h0, r0⟩ := trodAll_cons hA
  obtain ⟨rfl, rfl, rfl⟩ := trodAll_nil r0
  obtain rfl : args = #[v0] := by cases args; simp_all
  obtain ⟨rfl, rfl⟩ := trodVars_none hV
  obtain ⟨a0, rfl, rfl, rfl, w0⟩ := open_int Try.underlying22 (hval 0 22 v0 rfl rfl) h0
  clear hA0 hval0
  simp only [List.append_nil] at hW'
  refine (walk a0 w0 W).mono fun e W' ⟨he, hg⟩ => ?_
  subst he
  refine ⟨_, rfl, _, _, _, [], [], [], hW', trodAll_cons_mk (shut_bool Try.underlying4 _) trodAll_mk0, trodAll_cons_mk (shut_int Try.underlying22 w0) trodAll_mk0, rfl, hg.frame _, fun h => by cases h⟩

theorem over : Rows.fnConvertAddi16spRow.holds Try.pinned (OpenSpec.ofChange Rows.fnConvertAddi16spSpec) :=
  OpenClaim.holds_of_wide 5 Try.f5 rfl rfl rfl rfl rfl rfl rfl ⟨rfl, rfl, rfl, rfl, rfl⟩ rfl rfl rfl rfl rfl (by kernel_rfl) Try.func5 (by kernel_rfl)
    (of_decide_eq_true (by kernel_rfl)) (by unfold Func.isWrapper; first | (rw [if_pos (by decide +kernel)]; kernel_rfl) | (rw [if_neg (by decide +kernel)]; exact ⟨rfl, rfl⟩))
    (fun os started H enc _ => lifted os started H enc)

/-- ████ THE STATEMENT ████ -/
theorem proved : Rows.FnConvertAddi16spSaid :=
  over
#print axioms proved
end Go.Proofs.Ytajjnfnncbpjbac.fnConvertAddi16sp
