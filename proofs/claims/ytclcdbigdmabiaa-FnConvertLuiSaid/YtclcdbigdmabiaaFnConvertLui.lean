/-
  The statement 'FnConvertLui' is proved: for every word x of 32 bits the law returns true and its argument reads as before. Conditions: none beyond the row's own.
-/
import Derived.Test.YtclcdbigdmabiaaConv
import Derived.Test.YtclcdbigdmabiaaRows
import Derived.WalkKit
import Derived.ProofKit
import Derived.OpenShut
import Derived.ShutString
import Derived.Handy
import Derived.Deep.QuietTactic
import Derived.BigQuiet
import Derived.RegionTactic
import Derived.ChangeAlike
import Derived.Deep.RegionHeld3
namespace Go.Proofs.Ytclcdbigdmabiaa.fnConvertLui
open Go.ChangeShapes Go.WideShapes Go.ChangeAt Go.RowKit
open Go.ChangeMaps (open_string shut_string)
set_option linter.unusedVariables false

/-! ### PLAIN NUMBERS -/
def SignedOf (v n half full : Int) : Prop := v = if half ≤ n then n - full else n
theorem signedOf_mk {v n half full s : Int} (hs : Hid (s = n)) (h : v = if half ≤ s then s - full else s) : SignedOf v n half full := by
  unfold Hid at hs; subst hs; exact h
theorem hide {p : Prop} (h : p) : Hid p := h
theorem ret_bool {b c : Bool} (h : b = c) : Ending.returned (.bool b) = .returned (.bool c) := by rw [h]
theorem grown_drewN {w w' : World} (h : Grown w w') (n : Nat) : Grown w (w'.drewN n) := ⟨h.1, h.2.1, h.2.2⟩
theorem grown_trans {a b c : World} (h : Grown a b) (k : Grown b c) : Grown a c := ⟨World.keptBut_trans h.1 k.1, fun x => (k.2.1 x).trans (h.2.1 x), Nat.le_trans h.2.2 k.2.2⟩
theorem nat_or_field (acc t i n : Nat) (h1 : acc / 2 ^ i % 2 ^ n = 0) (h2 : t < 2 ^ n) : acc ||| t * 2 ^ i = acc + t * 2 ^ i := by
  have e1 : acc = 2 ^ i * (2 ^ n * (acc / 2 ^ i / 2 ^ n)) + acc % 2 ^ i := by
    have a := Nat.div_add_mod acc (2 ^ i)
    have b := Nat.div_add_mod (acc / 2 ^ i) (2 ^ n)
    rw [h1, Nat.add_zero] at b
    rw [b]; exact a.symm
  have hlo : acc % 2 ^ i < 2 ^ i := Nat.mod_lt _ (Nat.two_pow_pos i)
  generalize acc % 2 ^ i = lo at e1 hlo
  generalize acc / 2 ^ i / 2 ^ n = hi at e1
  subst e1
  have e3 : 2 ^ i * (2 ^ n * hi) ||| t * 2 ^ i = 2 ^ i * (2 ^ n * hi + t) := by
    rw [Nat.two_pow_add_eq_or_of_lt h2, Nat.mul_comm (2 ^ i) (2 ^ n * hi), Nat.mul_comm (2 ^ i) (2 ^ n * hi ||| t), ← Nat.shiftLeft_eq, ← Nat.shiftLeft_eq, ← Nat.shiftLeft_eq, Nat.shiftLeft_or_distrib]
  rw [Nat.two_pow_add_eq_or_of_lt hlo, Nat.or_assoc, Nat.or_comm lo, ← Nat.or_assoc, e3, ← Nat.two_pow_add_eq_or_of_lt hlo, Nat.mul_add, ← Nat.two_pow_add_eq_or_of_lt hlo, Nat.mul_comm t]
  omega
theorem u32_or_field (i n : Nat) (P M : Int) (hP : P = 2 ^ i) (hM : M = 2 ^ n) (a t : Int) (ha : 0 ≤ a) (ha' : a < 4294967296) (ht : 0 ≤ t) (h2 : t < M) (hb : t * P < 4294967296) (h1 : a / P % M = 0) : bits .or .u32 a (t * P) = a + t * P := by
  subst hP hM
  obtain ⟨A, rfl⟩ := Int.eq_ofNat_of_zero_le ha
  obtain ⟨T, rfl⟩ := Int.eq_ofNat_of_zero_le ht
  have e : (T : Int) * 2 ^ i = ((T * 2 ^ i : Nat) : Int) := by simp
  rw [e] at hb ⊢
  rw [u32_or_nat A (T * 2 ^ i) (by omega) (by omega), nat_or_field A T i n (by exact_mod_cast h1) (by exact_mod_cast h2)]
  simp
theorem u32_or_mid (i n : Nat) (P M : Int) (hP : P = 2 ^ i) (hM : M = 2 ^ n) (a t h l : Int) (ha : 0 ≤ a) (ha' : a < 4294967296) (ht : 0 ≤ t) (h2 : t < M) (hb : t * P < 4294967296) (e : a = l + h * M * P) (hl : 0 ≤ l) (hl' : l < P) : bits .or .u32 a (t * P) = a + t * P := by
  refine u32_or_field i n P M hP hM a t ha ha' ht h2 hb ?_
  rw [e, Int.add_mul_ediv_right _ _ (by omega), Int.ediv_eq_zero_of_lt hl hl', Int.zero_add, Int.mul_emod_left]
theorem u32_or_top (i : Nat) (P : Int) (hP : P = 2 ^ i) (a t : Int) (ha : 0 ≤ a) (ha' : a < 4294967296) (ht : 0 ≤ t) (h1 : a < P) (hb : t * P < 4294967296) : bits .or .u32 a (t * P) = a + t * P := by
  subst hP
  obtain ⟨A, rfl⟩ := Int.eq_ofNat_of_zero_le ha
  obtain ⟨T, rfl⟩ := Int.eq_ofNat_of_zero_le ht
  have e : (T : Int) * 2 ^ i = ((T * 2 ^ i : Nat) : Int) := by simp
  have hA : A < 2 ^ i := by exact_mod_cast h1
  rw [e] at hb ⊢
  rw [u32_or_nat A (T * 2 ^ i) (by omega) (by omega), Nat.or_comm, Nat.mul_comm, ← Nat.two_pow_add_eq_or_of_lt hA, Nat.add_comm]
  simp
theorem u32_or_high (i : Nat) (a t : Int) (ha : 0 ≤ a) (ha' : a < 2 ^ i) (ht : 1 ≤ t) (hb : t * 2 ^ i < 4294967296) : bits .or .u32 a (t * 2 ^ i) = a + t * 2 ^ i := by
  obtain ⟨A, rfl⟩ := Int.eq_ofNat_of_zero_le ha
  obtain ⟨T, rfl⟩ := Int.eq_ofNat_of_zero_le (show 0 ≤ t by omega)
  have e : (T : Int) * 2 ^ i = ((T * 2 ^ i : Nat) : Int) := by simp
  have hA : A < 2 ^ i := by exact_mod_cast ha'
  rw [e] at hb ⊢
  have h1 : 2 ^ i ≤ T * 2 ^ i := Nat.le_mul_of_pos_left _ (by omega)
  rw [u32_or_nat A (T * 2 ^ i) (by omega) (by omega), Nat.or_comm, Nat.mul_comm, ← Nat.two_pow_add_eq_or_of_lt hA, Nat.add_comm]
  simp
theorem u32_and_low (n : Nat) (hn : n ≤ 31) (a : Int) (ha : 0 ≤ a) (ha' : a < 4294967296) : bits .and .u32 a (2 ^ n - 1) = a % 2 ^ n := by
  obtain ⟨A, rfl⟩ := Int.eq_ofNat_of_zero_le ha
  have hp : 2 ^ n ≤ 2 ^ 31 := Nat.pow_le_pow_right (by omega) hn
  have h1 : 1 ≤ 2 ^ n := Nat.one_le_two_pow
  have e : ((2 : Int) ^ n - 1) = ((2 ^ n - 1 : Nat) : Int) := by rw [Int.ofNat_sub h1]; simp
  rw [e, u32_and_nat A (2 ^ n - 1) (by omega) (by omega), Nat.and_two_pow_sub_one_eq_mod]
  simp
theorem own : ownKnob Try.prog.godebug = none := by kernel_rfl

theorem as_Reg (v : Value) (w : World) : (Instr.typeAssert (.iface 52 v) 39 52 false).run Try.prog w = .ok v w := by kernel_rfl
theorem as_Simm (v : Value) (w : World) : (Instr.typeAssert (.iface 54 v) 39 54 false).run Try.prog w = .ok v w := by kernel_rfl
theorem as_Uimm (v : Value) (w : World) : (Instr.typeAssert (.iface 58 v) 39 58 false).run Try.prog w = .ok v w := by kernel_rfl
theorem fld_Simm (n : Int) (d : Bool) (k : Int) (w : World) : (Instr.field 54 (.agg #[.int .i32 n, .bool d, .int .u8 k]) 0).run Try.prog w = .ok (.int .i32 n) w := by kernel_rfl
theorem fld_Uimm (n : Int) (d : Bool) (w : World) : (Instr.field 58 (.agg #[.int .u32 n, .bool d]) 0).run Try.prog w = .ok (.int .u32 n) w := by kernel_rfl
set_option maxRecDepth 100000 in
set_option maxHeartbeats 1000000 in
theorem zz (r0 : Int) (r0a : 0 ≤ r0) (r0b : r0 ≤ 65535) (n1 : Int) (n1a : -131072 ≤ n1) (n1b : n1 ≤ 131071) (w : World) :
    Calls Try.prog 22 #[.int .u16 138, .agg #[.iface 52 (.int .u16 r0), .iface 54 (.agg #[.int .i32 n1, .bool true, .int .u8 12]), .nilIface, .nilIface, .nilIface, .nilIface]] w fun e w' => e = .returned (.tuple #[.int .u16 304, .agg #[.iface 52 (.int .u16 r0), .iface 58 (.agg #[.int .u32 (n1 / 4096 % 4294967296), .bool false]), .nilIface, .nilIface, .nilIface, .nilIface]]) ∧ Below w.heap.size w w' := by
  have e0 := as_Reg
  have e1 := as_Simm
  have e2 := as_Uimm
  have e3 := fld_Simm
  have e4 := fld_Uimm
  go_enter Try.func22, Try.ntmps22
  go_wp2
  go_region
  all_goals go_wp2
  all_goals exact bodyPost_ret (v := .tuple #[.int .u16 304, .agg #[.iface 52 (.int .u16 r0), .iface 58 (.agg #[.int .u32 (n1 / 4096 % 4294967296), .bool false]), .nilIface, .nilIface, .nilIface, .nilIface]]) (by simp [results, Try.results22, go_sem]) rfl ⟨rfl, by go_grown⟩
set_option maxRecDepth 100000 in
theorem conv_law (r0 : Int) (r0a : 0 ≤ r0) (r0b : r0 ≤ 65535) (n1 : Int) (n1a : -131072 ≤ n1) (n1b : n1 ≤ 131071) (g cap : Nat) (w : World) (hg : g < w.heap.size) (c0 : w.cell? ⟨g, 0, none⟩ = some (.int .i64 1)) (c1 : w.cell? ⟨g, 1, none⟩ = some (.int .i64 r0)) (c2 : w.cell? ⟨g, 2, none⟩ = some (.int .i64 0)) (c3 : w.cell? ⟨g, 3, none⟩ = some (.int .i64 4)) (c4 : w.cell? ⟨g, 4, none⟩ = some (.int .i64 0)) (c5 : w.cell? ⟨g, 5, none⟩ = some (.int .i64 n1)) :
    Calls Try.prog 7 #[.int .i64 138, .slice (some ⟨g, 0, none⟩) 2 cap] w fun e w' => ∃ g2 cap2, e = .returned (.tuple #[.int .i64 304, .slice (some ⟨g2, 0, none⟩) 2 cap2]) ∧ g < w'.heap.size ∧ g2 < w'.heap.size ∧ Below w.heap.size w w' ∧ w'.cell? ⟨g, 0, none⟩ = some (.int .i64 1) ∧ w'.cell? ⟨g, 1, none⟩ = some (.int .i64 r0) ∧ w'.cell? ⟨g, 2, none⟩ = some (.int .i64 0) ∧ w'.cell? ⟨g, 3, none⟩ = some (.int .i64 4) ∧ w'.cell? ⟨g, 4, none⟩ = some (.int .i64 0) ∧ w'.cell? ⟨g, 5, none⟩ = some (.int .i64 n1) ∧ w'.cell? ⟨g2, 0, none⟩ = some (.int .i64 1) ∧ w'.cell? ⟨g2, 1, none⟩ = some (.int .i64 r0) ∧ w'.cell? ⟨g2, 2, none⟩ = some (.int .i64 0) ∧ w'.cell? ⟨g2, 3, none⟩ = some (.int .i64 5) ∧ w'.cell? ⟨g2, 4, none⟩ = some (.int .i64 0) ∧ w'.cell? ⟨g2, 5, none⟩ = some (.int .i64 (n1 / 4096 % 4294967296)) := by
  refine (Conv.convert_RS_2 r0 (by omega) (by omega) n1 (by omega) (by omega) 138 304 (by omega) (by omega) (by omega) (by omega) (.reg r0) (by simp only [Conv.RV.ok]; omega) (.uimm (n1 / 4096 % 4294967296) false) (by simp only [Conv.RV.ok]; omega) g cap w hg c0 c1 c2 c3 c4 c5 (Conv.hide fun W => zz r0 (by omega) (by omega) n1 (by omega) (by omega) W)).mono ?_
  rintro e w' ⟨v, rfl, hown, hb⟩
  obtain ⟨g2, cap2, rfl, h1, hd⟩ := Conv.own_cells hown (by omega)
  refine ⟨g2, cap2, rfl, Nat.lt_of_lt_of_le hg hb.size, h1, hb, (hb.cell (p := ⟨g, 0, none⟩) hg).trans c0, (hb.cell (p := ⟨g, 1, none⟩) hg).trans c1, (hb.cell (p := ⟨g, 2, none⟩) hg).trans c2, (hb.cell (p := ⟨g, 3, none⟩) hg).trans c3, (hb.cell (p := ⟨g, 4, none⟩) hg).trans c4, (hb.cell (p := ⟨g, 5, none⟩) hg).trans c5, hd 0 _ rfl, hd 1 _ rfl, hd 2 _ rfl, hd 3 _ rfl, hd 4 _ rfl, hd 5 _ rfl⟩
set_option maxRecDepth 100000 in
theorem dec_rd_n2_yes (x : Int) (h0 : 0 ≤ x) (h1 : x ≤ 4294967295) (hz : (x / 128 % 32 == 0) = false) (hz2 : (x / 128 % 32 == 2) = false) (w : World) :
    Calls Try.prog 30 #[.int .u16 45, .int .u32 x, .int .i64 0] w fun e w' => e = .returned (.iface 52 (.int .u16 (x / 128 % 32))) ∧ w = w' := by
  have a1 : bits BinOp.and IntKind.u32 (x / 128) 31 = x / 128 % 32 := u32_and_low 5 (by omega) _ (by omega) (by omega)
  go_enter Try.func30, Try.ntmps30
  go_wp2
  go_ret
  exact ⟨rfl, rfl⟩
theorem or_c_nzimm18 (x : Int) (h0 : 0 ≤ x) (h1 : x ≤ 4294967295) : bits BinOp.or IntKind.u32 (x * 33554432 % 4294967296 / 134217728 * 4096) (x * 524288 % 4294967296 / 2147483648 * 131072) = x / 4 % 32 * 4096 + x / 4096 % 2 * 131072 := by
  rw [show x * 33554432 % 4294967296 / 134217728 * 4096 = x / 4 % 32 * 4096 from by omega]
  rw [show x * 524288 % 4294967296 / 2147483648 * 131072 = x / 4096 % 2 * 131072 from by omega]
  rw [u32_or_top 17 131072 (by decide) _ (x / 4096 % 2) (by omega) (by omega) (by omega) (by omega) (by omega)]
  all_goals omega
set_option maxRecDepth 100000 in
theorem dec_c_nzimm18 (x : Int) (h0 : 0 ≤ x) (h1 : x ≤ 4294967295) (hz : ¬ x / 4 % 32 * 4096 + x / 4096 % 2 * 131072 = 0) (w : World) :
    Calls Try.prog 30 #[.int .u16 59, .int .u32 x, .int .i64 0] w fun e w' => ∃ v : Int, -131072 ≤ v ∧ v < 131072 ∧ SignedOf v (x / 4 % 32 * 4096 + x / 4096 % 2 * 131072) 131072 262144 ∧ e = .returned (.iface 54 (.agg #[.int .i32 v, .bool true, .int .u8 18])) ∧ w = w' := by
  obtain ⟨s, hs0, hs1, hor, HS⟩ : ∃ s : Int, 0 ≤ s ∧ s < 262144 ∧ bits BinOp.or IntKind.u32 (x * 33554432 % 4294967296 / 134217728 * 4096) (x * 524288 % 4294967296 / 2147483648 * 131072) = s ∧ Hid (s = x / 4 % 32 * 4096 + x / 4096 % 2 * 131072) := ⟨x / 4 % 32 * 4096 + x / 4096 % 2 * 131072, by omega, by omega, or_c_nzimm18 x h0 h1, hide rfl⟩
  have hz2 : ¬ s = 0 := by have e := HS; unfold Hid at e; omega
  clear hz
  have hs : bits BinOp.or IntKind.u32 s 4294705152 = s + 4294705152 := by
    rw [show (4294705152 : Int) = 16383 * 2 ^ 18 from by omega]
    exact u32_or_high 18 _ 16383 (by omega) (by omega) (by omega) (by omega)
  by_cases hn : 131072 ≤ s
  · have t1 : (s / 131072 == 1) = true := by rw [beq_iff_eq]; omega
    have hw : wrap32 (s + 4294705152) = s - 262144 := by unfold wrap32; omega
    go_enter Try.func30, Try.ntmps30
    go_wp2
    go_ret
    exact ⟨_, by omega, by omega, signedOf_mk HS (by first | (rw [if_pos (by omega)]) | (rw [if_neg (by omega)])), rfl, rfl⟩
  · have t1 : (s / 131072 == 1) = false := by rw [beq_eq_false_iff_ne]; omega
    clear hs
    go_enter Try.func30, Try.ntmps30
    go_wp2
    go_ret
    exact ⟨_, by omega, by omega, signedOf_mk HS (by first | (rw [if_pos (by omega)]) | (rw [if_neg (by omega)])), rfl, rfl⟩
set_option maxRecDepth 100000 in
theorem dec_rd_n2_zero (x : Int) (h0 : 0 ≤ x) (h1 : x ≤ 4294967295) (hz : (x / 128 % 32 == 0) = true) (w : World) :
    Calls Try.prog 30 #[.int .u16 45, .int .u32 x, .int .i64 0] w fun e w' => e = .returned (.nilIface) ∧ w = w' := by
  have a1 : bits BinOp.and IntKind.u32 (x / 128) 31 = x / 128 % 32 := u32_and_low 5 (by omega) _ (by omega) (by omega)
  go_enter Try.func30, Try.ntmps30
  go_wp2
  go_ret
  exact ⟨rfl, rfl⟩
set_option maxRecDepth 100000 in
theorem dec_rd_n2_two (x : Int) (h0 : 0 ≤ x) (h1 : x ≤ 4294967295) (hz : (x / 128 % 32 == 0) = false) (hz2 : (x / 128 % 32 == 2) = true) (w : World) :
    Calls Try.prog 30 #[.int .u16 45, .int .u32 x, .int .i64 0] w fun e w' => e = .returned (.nilIface) ∧ w = w' := by
  have a1 : bits BinOp.and IntKind.u32 (x / 128) 31 = x / 128 % 32 := u32_and_low 5 (by omega) _ (by omega) (by omega)
  go_enter Try.func30, Try.ntmps30
  go_wp2
  go_ret
  exact ⟨rfl, rfl⟩
set_option maxRecDepth 100000 in
theorem dec_c_nzimm18_zero (x : Int) (h0 : 0 ≤ x) (h1 : x ≤ 4294967295) (hz : x / 4 % 32 * 4096 + x / 4096 % 2 * 131072 = 0) (w : World) :
    Calls Try.prog 30 #[.int .u16 59, .int .u32 x, .int .i64 0] w fun e w' => e = .returned (.nilIface) ∧ w = w' := by
  have hor : bits BinOp.or IntKind.u32 (x * 33554432 % 4294967296 / 134217728 * 4096) (x * 524288 % 4294967296 / 2147483648 * 131072) = 0 := (or_c_nzimm18 x h0 h1).trans hz
  clear hz
  go_enter Try.func30, Try.ntmps30
  go_wp2
  go_ret
  exact ⟨rfl, rfl⟩
theorem there_law (r0 n1 : Int) (g cap : Nat) (w : World) (c0 : w.cell? ⟨g, 0, none⟩ = some (.int .i64 1)) (c1 : w.cell? ⟨g, 1, none⟩ = some (.int .i64 r0)) (c2 : w.cell? ⟨g, 2, none⟩ = some (.int .i64 0)) (c3 : w.cell? ⟨g, 3, none⟩ = some (.int .i64 4)) (c4 : w.cell? ⟨g, 4, none⟩ = some (.int .i64 0)) (c5 : w.cell? ⟨g, 5, none⟩ = some (.int .i64 n1)) :
    Calls Try.prog 20 #[.slice (some ⟨g, 0, none⟩) 2 cap] w fun e w' => e = .returned (.bool true) ∧ w' = w :=
  Conv.there_2 (.reg r0) (.simm n1 12) g cap w c0 c1 c2 c3 c4 c5
theorem at_law (r n : Int) (w : World) :
    Calls Try.prog 15 #[.int .i64 r, .int .i64 n] w fun e w' => e = .returned (.agg #[.int .i64 3, .int .i64 r, .int .i64 n]) ∧ w.alloc (.cells #[.int .i64 3, .int .i64 r, .int .i64 n] 30) = w' := by
  go_enter Try.func15, Try.ntmps15
  go_wp2
  go_returns
  exact ⟨rfl, rfl⟩
theorem below_drewN {B : Nat} {a w : World} (h : Below B a w) (n : Nat) : Below B a (w.drewN n) := ⟨h.os, h.tape, h.output, h.size, h.block⟩
theorem field_11_7 (x : Int) (h0 : 0 ≤ x) (h1 : x ≤ 4294967295) (w : World) :
    Calls Try.prog 16 #[.int .u32 x, .int .i64 11, .int .i64 7] w fun e w' => ∃ n, e = .returned (.int .i64 (x / 128 % 32)) ∧ w.drewN n = w' := by
  go_enter Try.func16, Try.ntmps16
  go_wp2
  go_quiet (fail)
  go_wp2
  go_ret
  exact ⟨_, rfl, rfl⟩
theorem field_12_12 (x : Int) (h0 : 0 ≤ x) (h1 : x ≤ 4294967295) (w : World) :
    Calls Try.prog 16 #[.int .u32 x, .int .i64 12, .int .i64 12] w fun e w' => ∃ n, e = .returned (.int .i64 (x / 4096 % 2)) ∧ w.drewN n = w' := by
  go_enter Try.func16, Try.ntmps16
  go_wp2
  go_quiet (fail)
  go_wp2
  go_ret
  exact ⟨_, rfl, rfl⟩
theorem field_6_2 (x : Int) (h0 : 0 ≤ x) (h1 : x ≤ 4294967295) (w : World) :
    Calls Try.prog 16 #[.int .u32 x, .int .i64 6, .int .i64 2] w fun e w' => ∃ n, e = .returned (.int .i64 (x / 4 % 32)) ∧ w.drewN n = w' := by
  go_enter Try.func16, Try.ntmps16
  go_wp2
  go_quiet (fail)
  go_wp2
  go_ret
  exact ⟨_, rfl, rfl⟩
set_option maxRecDepth 100000 in
theorem short6_q (x : Int) (h0 : 0 ≤ x) (h1 : x ≤ 4294967295) (w : World) : Calls Try.prog 13 #[.int .u32 x] w fun e w' => e = .returned (.int .i64 (x / 4096 % 2 * 32 + x / 4 % 32)) ∧ ∃ n, w' = w.drewN n := by
  go_enter Try.func13, Try.ntmps13
  go_wp2_with (first | (go_at_call 16; (with_reducible refine (field_12_12 x h0 h1 _).mono ?_); rintro e W ⟨nq, rfl, rfl⟩) | (go_at_call 16; (with_reducible refine (field_6_2 x h0 h1 _).mono ?_); rintro e W ⟨nq, rfl, rfl⟩) | (go_at_call 27; go_in))
  go_ret
  exact ⟨rfl, _, rfl⟩
theorem signed_hi (s : Int) (h0 : 32 ≤ s) (h1 : s ≤ 63) (w : World) : Calls Try.prog 12 #[.int .i64 s, .int .i64 6] w fun e w' => e = .returned (.int .i64 (s - 64)) ∧ w' = w := by
  go_enter Try.func12, Try.ntmps12
  go_wp2
  go_ret
  exact ⟨rfl, rfl⟩
theorem signed_lo (s : Int) (h0 : 0 ≤ s) (h1 : s < 32) (w : World) : Calls Try.prog 12 #[.int .i64 s, .int .i64 6] w fun e w' => e = .returned (.int .i64 (s)) ∧ w' = w := by
  go_enter Try.func12, Try.ntmps12
  go_wp2
  go_ret
  exact ⟨rfl, rfl⟩
set_option maxRecDepth 100000 in
set_option maxHeartbeats 4000000 in
theorem law (x : Int) (h0 : 0 ≤ x) (h1 : x ≤ 4294967295) (w : World) :
    Calls Try.prog 6 #[.int .u32 x] w fun e w' => e = .returned (.bool true) ∧ Below w.heap.size w w' := by
  have e0 := Conv.ta_Reg_Reg
  have e1 := Conv.ta_Simm_Reg
  have e2 := Conv.ta_Simm_RegPtr
  have e3 := Conv.ta_Simm_RegOffset
  have e4 := Conv.ta_Simm_Simm
  by_cases hq0 : x / 128 % 32 = 0
  · have hz_rd_n2 : (x / 128 % 32 == 0) = true := by rw [beq_iff_eq]; exact hq0
    clear hq0
    by_cases hq1 : x / 4096 % 2 * 32 + x / 4 % 32 = 0
    · have ht_c_nzimm18 : (x / 4096 % 2 * 32 + x / 4 % 32 == 0) = true := by rw [beq_iff_eq]; exact hq1
      have hz_c_nzimm18 : x / 4 % 32 * 4096 + x / 4096 % 2 * 131072 = 0 := by omega
      clear hq1
      go_enter Try.func6, Try.ntmps6
      go_wp2_with (first | (go_at_call 30; (with_reducible refine (dec_rd_n2_yes x h0 h1 hz_rd_n2 hz2_rd_n2 _).mono ?_); rintro e w' ⟨rfl, rfl⟩) | (go_at_call 30; (with_reducible refine (dec_c_nzimm18 x h0 h1 hz_c_nzimm18 _).mono ?_); rintro e w' ⟨v, hv0, hv1, HV, rfl, rfl⟩) | (go_at_call 30; (with_reducible refine (dec_rd_n2_zero x h0 h1 hz_rd_n2 _).mono ?_); rintro e w' ⟨rfl, rfl⟩) | (go_at_call 30; (with_reducible refine (dec_rd_n2_two x h0 h1 hz_rd_n2 hz2_rd_n2 _).mono ?_); rintro e w' ⟨rfl, rfl⟩) | (go_at_call 30; (with_reducible refine (dec_c_nzimm18_zero x h0 h1 hz_c_nzimm18 _).mono ?_); rintro e w' ⟨rfl, rfl⟩) | (go_at_call 16; (with_reducible refine (field_11_7 x h0 h1 _).mono ?_); rintro e W ⟨nq, rfl, rfl⟩) | (go_at_call 16; (with_reducible refine (field_12_12 x h0 h1 _).mono ?_); rintro e W ⟨nq, rfl, rfl⟩) | (go_at_call 16; (with_reducible refine (field_6_2 x h0 h1 _).mono ?_); rintro e W ⟨nq, rfl, rfl⟩) | (go_at_call 18; go_in) | (go_at_call 19; go_in) | (go_at_call 26; go_in) | (go_at_call 25; go_in) | (go_at_call 13; go_in) | (go_at_call 27; go_in) | (go_at_call 12; go_in) | (go_at_call 15; go_in) | (go_at_call 11; go_in))
      all_goals go_ret
      all_goals exact ⟨rfl, (by repeat' (first | (with_reducible exact Below.refl _ _) | (with_reducible assumption) | (with_reducible refine Below.alloc ?_ ?_ _) | (with_reducible refine Below.drew ?_) | (with_reducible refine below_drewN ?_ _) | go_size))⟩
    · have ht_c_nzimm18 : (x / 4096 % 2 * 32 + x / 4 % 32 == 0) = false := by rw [beq_eq_false_iff_ne]; exact hq1
      have hz_c_nzimm18 : ¬ x / 4 % 32 * 4096 + x / 4096 % 2 * 131072 = 0 := by omega
      go_enter Try.func6, Try.ntmps6
      go_wp2_with (first | (go_at_call 30; (with_reducible refine (dec_rd_n2_yes x h0 h1 hz_rd_n2 hz2_rd_n2 _).mono ?_); rintro e w' ⟨rfl, rfl⟩) | (go_at_call 30; (with_reducible refine (dec_c_nzimm18 x h0 h1 hz_c_nzimm18 _).mono ?_); rintro e w' ⟨v, hv0, hv1, HV, rfl, rfl⟩) | (go_at_call 30; (with_reducible refine (dec_rd_n2_zero x h0 h1 hz_rd_n2 _).mono ?_); rintro e w' ⟨rfl, rfl⟩) | (go_at_call 30; (with_reducible refine (dec_rd_n2_two x h0 h1 hz_rd_n2 hz2_rd_n2 _).mono ?_); rintro e w' ⟨rfl, rfl⟩) | (go_at_call 30; (with_reducible refine (dec_c_nzimm18_zero x h0 h1 hz_c_nzimm18 _).mono ?_); rintro e w' ⟨rfl, rfl⟩) | (go_at_call 16; (with_reducible refine (field_11_7 x h0 h1 _).mono ?_); rintro e W ⟨nq, rfl, rfl⟩) | (go_at_call 16; (with_reducible refine (field_12_12 x h0 h1 _).mono ?_); rintro e W ⟨nq, rfl, rfl⟩) | (go_at_call 16; (with_reducible refine (field_6_2 x h0 h1 _).mono ?_); rintro e W ⟨nq, rfl, rfl⟩) | (go_at_call 18; go_in) | (go_at_call 19; go_in) | (go_at_call 26; go_in) | (go_at_call 25; go_in) | (go_at_call 13; go_in) | (go_at_call 27; go_in) | (go_at_call 12; go_in) | (go_at_call 15; go_in) | (go_at_call 11; go_in))
      all_goals go_ret
      all_goals exact ⟨rfl, (by repeat' (first | (with_reducible exact Below.refl _ _) | (with_reducible assumption) | (with_reducible refine Below.alloc ?_ ?_ _) | (with_reducible refine Below.drew ?_) | (with_reducible refine below_drewN ?_ _) | go_size))⟩
  · have hz_rd_n2 : (x / 128 % 32 == 0) = false := by rw [beq_eq_false_iff_ne]; exact hq0
    clear hq0
    by_cases hr : x / 128 % 32 = 2
    · have hz2_rd_n2 : (x / 128 % 32 == 2) = true := by rw [beq_iff_eq]; exact hr
      clear hr
      by_cases hq1 : x / 4096 % 2 * 32 + x / 4 % 32 = 0
      · have ht_c_nzimm18 : (x / 4096 % 2 * 32 + x / 4 % 32 == 0) = true := by rw [beq_iff_eq]; exact hq1
        have hz_c_nzimm18 : x / 4 % 32 * 4096 + x / 4096 % 2 * 131072 = 0 := by omega
        clear hq1
        go_enter Try.func6, Try.ntmps6
        go_wp2_with (first | (go_at_call 30; (with_reducible refine (dec_rd_n2_yes x h0 h1 hz_rd_n2 hz2_rd_n2 _).mono ?_); rintro e w' ⟨rfl, rfl⟩) | (go_at_call 30; (with_reducible refine (dec_c_nzimm18 x h0 h1 hz_c_nzimm18 _).mono ?_); rintro e w' ⟨v, hv0, hv1, HV, rfl, rfl⟩) | (go_at_call 30; (with_reducible refine (dec_rd_n2_zero x h0 h1 hz_rd_n2 _).mono ?_); rintro e w' ⟨rfl, rfl⟩) | (go_at_call 30; (with_reducible refine (dec_rd_n2_two x h0 h1 hz_rd_n2 hz2_rd_n2 _).mono ?_); rintro e w' ⟨rfl, rfl⟩) | (go_at_call 30; (with_reducible refine (dec_c_nzimm18_zero x h0 h1 hz_c_nzimm18 _).mono ?_); rintro e w' ⟨rfl, rfl⟩) | (go_at_call 16; (with_reducible refine (field_11_7 x h0 h1 _).mono ?_); rintro e W ⟨nq, rfl, rfl⟩) | (go_at_call 16; (with_reducible refine (field_12_12 x h0 h1 _).mono ?_); rintro e W ⟨nq, rfl, rfl⟩) | (go_at_call 16; (with_reducible refine (field_6_2 x h0 h1 _).mono ?_); rintro e W ⟨nq, rfl, rfl⟩) | (go_at_call 18; go_in) | (go_at_call 19; go_in) | (go_at_call 26; go_in) | (go_at_call 25; go_in) | (go_at_call 13; go_in) | (go_at_call 27; go_in) | (go_at_call 12; go_in) | (go_at_call 15; go_in) | (go_at_call 11; go_in))
        all_goals go_ret
        all_goals exact ⟨rfl, (by repeat' (first | (with_reducible exact Below.refl _ _) | (with_reducible assumption) | (with_reducible refine Below.alloc ?_ ?_ _) | (with_reducible refine Below.drew ?_) | (with_reducible refine below_drewN ?_ _) | go_size))⟩
      · have ht_c_nzimm18 : (x / 4096 % 2 * 32 + x / 4 % 32 == 0) = false := by rw [beq_eq_false_iff_ne]; exact hq1
        have hz_c_nzimm18 : ¬ x / 4 % 32 * 4096 + x / 4096 % 2 * 131072 = 0 := by omega
        go_enter Try.func6, Try.ntmps6
        go_wp2_with (first | (go_at_call 30; (with_reducible refine (dec_rd_n2_yes x h0 h1 hz_rd_n2 hz2_rd_n2 _).mono ?_); rintro e w' ⟨rfl, rfl⟩) | (go_at_call 30; (with_reducible refine (dec_c_nzimm18 x h0 h1 hz_c_nzimm18 _).mono ?_); rintro e w' ⟨v, hv0, hv1, HV, rfl, rfl⟩) | (go_at_call 30; (with_reducible refine (dec_rd_n2_zero x h0 h1 hz_rd_n2 _).mono ?_); rintro e w' ⟨rfl, rfl⟩) | (go_at_call 30; (with_reducible refine (dec_rd_n2_two x h0 h1 hz_rd_n2 hz2_rd_n2 _).mono ?_); rintro e w' ⟨rfl, rfl⟩) | (go_at_call 30; (with_reducible refine (dec_c_nzimm18_zero x h0 h1 hz_c_nzimm18 _).mono ?_); rintro e w' ⟨rfl, rfl⟩) | (go_at_call 16; (with_reducible refine (field_11_7 x h0 h1 _).mono ?_); rintro e W ⟨nq, rfl, rfl⟩) | (go_at_call 16; (with_reducible refine (field_12_12 x h0 h1 _).mono ?_); rintro e W ⟨nq, rfl, rfl⟩) | (go_at_call 16; (with_reducible refine (field_6_2 x h0 h1 _).mono ?_); rintro e W ⟨nq, rfl, rfl⟩) | (go_at_call 18; go_in) | (go_at_call 19; go_in) | (go_at_call 26; go_in) | (go_at_call 25; go_in) | (go_at_call 13; go_in) | (go_at_call 27; go_in) | (go_at_call 12; go_in) | (go_at_call 15; go_in) | (go_at_call 11; go_in))
        all_goals go_ret
        all_goals exact ⟨rfl, (by repeat' (first | (with_reducible exact Below.refl _ _) | (with_reducible assumption) | (with_reducible refine Below.alloc ?_ ?_ _) | (with_reducible refine Below.drew ?_) | (with_reducible refine below_drewN ?_ _) | go_size))⟩
    · have hz2_rd_n2 : (x / 128 % 32 == 2) = false := by rw [beq_eq_false_iff_ne]; exact hr
      clear hr
      by_cases hq1 : x / 4096 % 2 * 32 + x / 4 % 32 = 0
      · have ht_c_nzimm18 : (x / 4096 % 2 * 32 + x / 4 % 32 == 0) = true := by rw [beq_iff_eq]; exact hq1
        have hz_c_nzimm18 : x / 4 % 32 * 4096 + x / 4096 % 2 * 131072 = 0 := by omega
        clear hq1
        go_enter Try.func6, Try.ntmps6
        go_wp2_with (first | (go_at_call 30; (with_reducible refine (dec_rd_n2_yes x h0 h1 hz_rd_n2 hz2_rd_n2 _).mono ?_); rintro e w' ⟨rfl, rfl⟩) | (go_at_call 30; (with_reducible refine (dec_c_nzimm18 x h0 h1 hz_c_nzimm18 _).mono ?_); rintro e w' ⟨v, hv0, hv1, HV, rfl, rfl⟩) | (go_at_call 30; (with_reducible refine (dec_rd_n2_zero x h0 h1 hz_rd_n2 _).mono ?_); rintro e w' ⟨rfl, rfl⟩) | (go_at_call 30; (with_reducible refine (dec_rd_n2_two x h0 h1 hz_rd_n2 hz2_rd_n2 _).mono ?_); rintro e w' ⟨rfl, rfl⟩) | (go_at_call 30; (with_reducible refine (dec_c_nzimm18_zero x h0 h1 hz_c_nzimm18 _).mono ?_); rintro e w' ⟨rfl, rfl⟩) | (go_at_call 16; (with_reducible refine (field_11_7 x h0 h1 _).mono ?_); rintro e W ⟨nq, rfl, rfl⟩) | (go_at_call 16; (with_reducible refine (field_12_12 x h0 h1 _).mono ?_); rintro e W ⟨nq, rfl, rfl⟩) | (go_at_call 16; (with_reducible refine (field_6_2 x h0 h1 _).mono ?_); rintro e W ⟨nq, rfl, rfl⟩) | (go_at_call 18; go_in) | (go_at_call 19; go_in) | (go_at_call 26; go_in) | (go_at_call 25; go_in) | (go_at_call 13; go_in) | (go_at_call 27; go_in) | (go_at_call 12; go_in) | (go_at_call 15; go_in) | (go_at_call 11; go_in))
        all_goals go_ret
        all_goals exact ⟨rfl, (by repeat' (first | (with_reducible exact Below.refl _ _) | (with_reducible assumption) | (with_reducible refine Below.alloc ?_ ?_ _) | (with_reducible refine Below.drew ?_) | (with_reducible refine below_drewN ?_ _) | go_size))⟩
      · have ht_c_nzimm18 : (x / 4096 % 2 * 32 + x / 4 % 32 == 0) = false := by rw [beq_eq_false_iff_ne]; exact hq1
        have hz_c_nzimm18 : ¬ x / 4 % 32 * 4096 + x / 4096 % 2 * 131072 = 0 := by omega
        by_cases hs : 32 ≤ x / 4096 % 2 * 32 + x / 4 % 32
        · skip
          go_enter Try.func6, Try.ntmps6
          go_wp2_with (first | (go_at_call 30; (with_reducible refine (dec_rd_n2_yes x h0 h1 hz_rd_n2 hz2_rd_n2 _).mono ?_); rintro e w' ⟨rfl, rfl⟩) | (go_at_call 30; (with_reducible refine (dec_c_nzimm18 x h0 h1 hz_c_nzimm18 _).mono ?_); rintro e w' ⟨v, hv0, hv1, HV, rfl, rfl⟩) | (go_at_call 30; (with_reducible refine (dec_rd_n2_zero x h0 h1 hz_rd_n2 _).mono ?_); rintro e w' ⟨rfl, rfl⟩) | (go_at_call 30; (with_reducible refine (dec_rd_n2_two x h0 h1 hz_rd_n2 hz2_rd_n2 _).mono ?_); rintro e w' ⟨rfl, rfl⟩) | (go_at_call 30; (with_reducible refine (dec_c_nzimm18_zero x h0 h1 hz_c_nzimm18 _).mono ?_); rintro e w' ⟨rfl, rfl⟩) | (go_at_call 16; (with_reducible refine (field_11_7 x h0 h1 _).mono ?_); rintro e W ⟨nq, rfl, rfl⟩) | (go_at_call 16; (with_reducible refine (field_12_12 x h0 h1 _).mono ?_); rintro e W ⟨nq, rfl, rfl⟩) | (go_at_call 16; (with_reducible refine (field_6_2 x h0 h1 _).mono ?_); rintro e W ⟨nq, rfl, rfl⟩) | (go_at_call 18; go_in) | (go_at_call 19; go_in) | (go_at_call 26; go_in) | (go_at_call 25; go_in) | (go_at_call 13; go_in) | (go_at_call 27; go_in) | (go_at_call 12; go_in) | (go_at_call 15; go_in) | (go_at_call 11; go_in))
          go_call (conv_law (x / 128 % 32) (by omega) (by omega) (v) (by omega) (by omega)) as e w1 ⟨g2, cap2, rfl, hgA, hgB, hB1, p0, p1, p2, p3, p4, p5, d0, d1, d2, d3, d4, d5⟩
          go_wp2_with fail
          clear e0 e1 e2 e3 e4
          have hBw : Below w.heap.size w w1 := Conv.below_call (by repeat' (first | (with_reducible exact Below.refl _ _) | (with_reducible assumption) | (with_reducible refine Below.alloc ?_ ?_ _) | (with_reducible refine Below.drew ?_) | (with_reducible refine below_drewN ?_ _) | go_size)) hB1 (Nat.le_refl _)
          have hsz := hBw.size
          clear hB1
          have hsm : v / 4096 % 4294967296 - (x / 4096 % 2 * 32 + x / 4 % 32 - 64) = 4294967296 := by have hv := HV; unfold SignedOf at hv; split at hv <;> omega
          have hsub : IntKind.i64.wrap (v / 4096 % 4294967296 - (x / 4096 % 2 * 32 + x / 4 % 32 - 64)) = 4294967296 := by rw [hsm]; rfl
          have hand : bits BinOp.and IntKind.i64 4294967296 1048575 = 0 := by kernel_rfl
          clear hsm HV
          go_quiet ((first | (go_at_call 20; exact Calls.quiet_of_same (there_law (x / 128 % 32) (v) _ _ _ p0 p1 p2 p3 p4 p5)) | (go_at_call 13; exact Calls.quiet_of (short6_q x h0 h1 _)) | (go_at_call 12; exact Calls.quiet_of_same (signed_hi _ (by omega) (by omega) _))))
          go_wp2
          go_ret
          exact ⟨rfl, below_drewN hBw _⟩
        · have hs2 := Int.not_le.1 hs
          clear hs
          go_enter Try.func6, Try.ntmps6
          go_wp2_with (first | (go_at_call 30; (with_reducible refine (dec_rd_n2_yes x h0 h1 hz_rd_n2 hz2_rd_n2 _).mono ?_); rintro e w' ⟨rfl, rfl⟩) | (go_at_call 30; (with_reducible refine (dec_c_nzimm18 x h0 h1 hz_c_nzimm18 _).mono ?_); rintro e w' ⟨v, hv0, hv1, HV, rfl, rfl⟩) | (go_at_call 30; (with_reducible refine (dec_rd_n2_zero x h0 h1 hz_rd_n2 _).mono ?_); rintro e w' ⟨rfl, rfl⟩) | (go_at_call 30; (with_reducible refine (dec_rd_n2_two x h0 h1 hz_rd_n2 hz2_rd_n2 _).mono ?_); rintro e w' ⟨rfl, rfl⟩) | (go_at_call 30; (with_reducible refine (dec_c_nzimm18_zero x h0 h1 hz_c_nzimm18 _).mono ?_); rintro e w' ⟨rfl, rfl⟩) | (go_at_call 16; (with_reducible refine (field_11_7 x h0 h1 _).mono ?_); rintro e W ⟨nq, rfl, rfl⟩) | (go_at_call 16; (with_reducible refine (field_12_12 x h0 h1 _).mono ?_); rintro e W ⟨nq, rfl, rfl⟩) | (go_at_call 16; (with_reducible refine (field_6_2 x h0 h1 _).mono ?_); rintro e W ⟨nq, rfl, rfl⟩) | (go_at_call 18; go_in) | (go_at_call 19; go_in) | (go_at_call 26; go_in) | (go_at_call 25; go_in) | (go_at_call 13; go_in) | (go_at_call 27; go_in) | (go_at_call 12; go_in) | (go_at_call 15; go_in) | (go_at_call 11; go_in))
          go_call (conv_law (x / 128 % 32) (by omega) (by omega) (v) (by omega) (by omega)) as e w1 ⟨g2, cap2, rfl, hgA, hgB, hB1, p0, p1, p2, p3, p4, p5, d0, d1, d2, d3, d4, d5⟩
          go_wp2_with fail
          clear e0 e1 e2 e3 e4
          have hBw : Below w.heap.size w w1 := Conv.below_call (by repeat' (first | (with_reducible exact Below.refl _ _) | (with_reducible assumption) | (with_reducible refine Below.alloc ?_ ?_ _) | (with_reducible refine Below.drew ?_) | (with_reducible refine below_drewN ?_ _) | go_size)) hB1 (Nat.le_refl _)
          have hsz := hBw.size
          clear hB1
          have hsm : v / 4096 % 4294967296 - (x / 4096 % 2 * 32 + x / 4 % 32) = 0 := by have hv := HV; unfold SignedOf at hv; split at hv <;> omega
          have hsub : IntKind.i64.wrap (v / 4096 % 4294967296 - (x / 4096 % 2 * 32 + x / 4 % 32)) = 0 := by rw [hsm]; rfl
          have hand : bits BinOp.and IntKind.i64 0 1048575 = 0 := by kernel_rfl
          clear hsm HV
          go_quiet ((first | (go_at_call 20; exact Calls.quiet_of_same (there_law (x / 128 % 32) (v) _ _ _ p0 p1 p2 p3 p4 p5)) | (go_at_call 13; exact Calls.quiet_of (short6_q x h0 h1 _)) | (go_at_call 12; exact Calls.quiet_of_same (signed_lo _ (by omega) (by omega) _))))
          go_wp2
          go_ret
          exact ⟨rfl, below_drewN hBw _⟩
theorem walk (a0 : Int) (w0 : (Lit.int .u32 a0).wf = true) (w : World) :
    Calls Try.prog 6 #[.int .u32 a0] w fun e w' => e = .returned (.bool true) ∧ Below w.heap.size w w' := by
  have hb := bounds_u32 w0
  exact law a0 hb.1 (by omega) w

/-! ### THE ROW's STEP: WRITTEN OUT: LEAVE IT -/
set_option maxRecDepth 100000 in
theorem lifted (os : Os) (started : os.Started) (H : Type) (enc : TypeId × Value → H) :
    ReturnsInHanded {} Try.checked os 6 .any (Rows.fnConvertLuiSpec.pre6 enc Try.prog Try.f6 Rows.fnConvertLuiRow.domain false) (Rows.fnConvertLuiSpec.post enc Try.prog Try.f6 false true false false) := by
  refine returnsInHanded_of_change (C := Try.checked) own started (by kernel_rfl) Try.func6
    (ChangeSpec.witness6 (enc := enc) (C := Try.checked) false ⟨#[], #[.int .u32 0], []⟩ 8 (by kernel_rfl) (by kernel_rfl) (by kernel_rfl) (by kernel_rfl)) ?_
  intro W base args ds gs before hval0 hW hcnd _
  have hval : ∀ (j : Nat) t v, Try.f6.params[j]? = some t → args[j]? = some v → Value.okWide Try.prog W .any base t v := hval0
  have hW' := hW
  obtain ⟨p, q, hA0, hV, rfl, hfz, hnd⟩ := hW
  have hA : DataW.TrodAll enc Try.prog W 0 (fun _ => true) true Try.f6.params.toList args.toList ds p := hA0
  rw [Try.params6] at hA hval
  obtain ⟨v0, vs0, d0, ds0, p0, q0, hargs, rfl, rfl, h0, r0⟩ := trodAll_cons hA
  obtain ⟨rfl, rfl, rfl⟩ := trodAll_nil r0
  obtain rfl : args = #[v0] := by cases args; simp_all
  obtain ⟨rfl, rfl⟩ := trodVars_none hV
  obtain ⟨a0, rfl, rfl, rfl, w0⟩ := open_int Try.underlying22 (hval 0 22 v0 rfl rfl) h0
  clear hA0 hval0
  simp only [List.append_nil] at hW'
  refine (walk a0 w0 W).mono fun e W' ⟨he, hg⟩ => ?_
  subst he
  refine ⟨_, rfl, _, _, _, [], [], [], hW', trodAll_cons_mk (shut_bool Try.underlying4 _) trodAll_mk0, trodAll_cons_mk (shut_int Try.underlying22 w0) trodAll_mk0, rfl, hg.frame _, fun h => by cases h⟩

theorem over : Rows.fnConvertLuiRow.holds Try.pinned (OpenSpec.ofChange Rows.fnConvertLuiSpec) :=
  OpenClaim.holds_of_wide 6 Try.f6 rfl rfl rfl rfl rfl rfl rfl ⟨rfl, rfl, rfl, rfl, rfl⟩ rfl rfl rfl rfl rfl (by kernel_rfl) Try.func6 (by kernel_rfl)
    (of_decide_eq_true (by kernel_rfl)) (by unfold Func.isWrapper; first | (rw [if_pos (by decide +kernel)]; kernel_rfl) | (rw [if_neg (by decide +kernel)]; exact ⟨rfl, rfl⟩))
    (fun os started H enc _ => lifted os started H enc)

/-- ████ THE STATEMENT ████ -/
theorem proved : Rows.FnConvertLuiSaid :=
  over
#print axioms proved
end Go.Proofs.Ytclcdbigdmabiaa.fnConvertLui
