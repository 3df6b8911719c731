/-
  The statement 'FnArgImm20' is proved: for every word x of 32 bits the law returns true and its argument reads as before. Conditions: none beyond the row's own.
-/
import Derived.Test.YtajjnfnncbpjbaaRows
import Derived.WalkKit
import Derived.ProofKit
import Derived.OpenShut
import Derived.ShutString
import Derived.Handy
import Derived.Deep.QuietTactic
import Derived.BigQuiet
namespace Go.Proofs.Ytajjnfnncbpjbaa.fnArgImm20
open Go.ChangeShapes Go.WideShapes Go.ChangeAt Go.RowKit
open Go.ChangeMaps (open_string shut_string)
set_option linter.unusedVariables false

/-! ### PLAIN NUMBERS -/
def SignedOf (v n half full : Int) : Prop := v = if half ≤ n then n - full else n
theorem signedOf_mk {v n half full s : Int} (hs : Hid (s = n)) (h : v = if half ≤ s then s - full else s) : SignedOf v n half full := by
  unfold Hid at hs; subst hs; exact h
theorem hide {p : Prop} (h : p) : Hid p := h
theorem ret_bool {b c : Bool} (h : b = c) : Ending.returned (.bool b) = .returned (.bool c) := by rw [h]
theorem grown_drewN {w w' : World} (h : Grown w w') (n : Nat) : Grown w (w'.drewN n) := ⟨h.1, h.2.1, h.2.2⟩
theorem grown_trans {a b c : World} (h : Grown a b) (k : Grown b c) : Grown a c := ⟨World.keptBut_trans h.1 k.1, fun x => (k.2.1 x).trans (h.2.1 x), Nat.le_trans h.2.2 k.2.2⟩
theorem nat_or_field (acc t i n : Nat) (h1 : acc / 2 ^ i % 2 ^ n = 0) (h2 : t < 2 ^ n) : acc ||| t * 2 ^ i = acc + t * 2 ^ i := by
  have e1 : acc = 2 ^ i * (2 ^ n * (acc / 2 ^ i / 2 ^ n)) + acc % 2 ^ i := by
    have a := Nat.div_add_mod acc (2 ^ i)
    have b := Nat.div_add_mod (acc / 2 ^ i) (2 ^ n)
    rw [h1, Nat.add_zero] at b
    rw [b]; exact a.symm
  have hlo : acc % 2 ^ i < 2 ^ i := Nat.mod_lt _ (Nat.two_pow_pos i)
  generalize acc % 2 ^ i = lo at e1 hlo
  generalize acc / 2 ^ i / 2 ^ n = hi at e1
  subst e1
  have e3 : 2 ^ i * (2 ^ n * hi) ||| t * 2 ^ i = 2 ^ i * (2 ^ n * hi + t) := by
    rw [Nat.two_pow_add_eq_or_of_lt h2, Nat.mul_comm (2 ^ i) (2 ^ n * hi), Nat.mul_comm (2 ^ i) (2 ^ n * hi ||| t), ← Nat.shiftLeft_eq, ← Nat.shiftLeft_eq, ← Nat.shiftLeft_eq, Nat.shiftLeft_or_distrib]
  rw [Nat.two_pow_add_eq_or_of_lt hlo, Nat.or_assoc, Nat.or_comm lo, ← Nat.or_assoc, e3, ← Nat.two_pow_add_eq_or_of_lt hlo, Nat.mul_add, ← Nat.two_pow_add_eq_or_of_lt hlo, Nat.mul_comm t]
  omega
theorem u32_or_field (i n : Nat) (P M : Int) (hP : P = 2 ^ i) (hM : M = 2 ^ n) (a t : Int) (ha : 0 ≤ a) (ha' : a < 4294967296) (ht : 0 ≤ t) (h2 : t < M) (hb : t * P < 4294967296) (h1 : a / P % M = 0) : bits .or .u32 a (t * P) = a + t * P := by
  subst hP hM
  obtain ⟨A, rfl⟩ := Int.eq_ofNat_of_zero_le ha
  obtain ⟨T, rfl⟩ := Int.eq_ofNat_of_zero_le ht
  have e : (T : Int) * 2 ^ i = ((T * 2 ^ i : Nat) : Int) := by simp
  rw [e] at hb ⊢
  rw [u32_or_nat A (T * 2 ^ i) (by omega) (by omega), nat_or_field A T i n (by exact_mod_cast h1) (by exact_mod_cast h2)]
  simp
theorem u32_or_top (i : Nat) (P : Int) (hP : P = 2 ^ i) (a t : Int) (ha : 0 ≤ a) (ha' : a < 4294967296) (ht : 0 ≤ t) (h1 : a < P) (hb : t * P < 4294967296) : bits .or .u32 a (t * P) = a + t * P := by
  subst hP
  obtain ⟨A, rfl⟩ := Int.eq_ofNat_of_zero_le ha
  obtain ⟨T, rfl⟩ := Int.eq_ofNat_of_zero_le ht
  have e : (T : Int) * 2 ^ i = ((T * 2 ^ i : Nat) : Int) := by simp
  have hA : A < 2 ^ i := by exact_mod_cast h1
  rw [e] at hb ⊢
  rw [u32_or_nat A (T * 2 ^ i) (by omega) (by omega), Nat.or_comm, Nat.mul_comm, ← Nat.two_pow_add_eq_or_of_lt hA, Nat.add_comm]
  simp
theorem u32_or_high (i : Nat) (a t : Int) (ha : 0 ≤ a) (ha' : a < 2 ^ i) (ht : 1 ≤ t) (hb : t * 2 ^ i < 4294967296) : bits .or .u32 a (t * 2 ^ i) = a + t * 2 ^ i := by
  obtain ⟨A, rfl⟩ := Int.eq_ofNat_of_zero_le ha
  obtain ⟨T, rfl⟩ := Int.eq_ofNat_of_zero_le (show 0 ≤ t by omega)
  have e : (T : Int) * 2 ^ i = ((T * 2 ^ i : Nat) : Int) := by simp
  have hA : A < 2 ^ i := by exact_mod_cast ha'
  rw [e] at hb ⊢
  have h1 : 2 ^ i ≤ T * 2 ^ i := Nat.le_mul_of_pos_left _ (by omega)
  rw [u32_or_nat A (T * 2 ^ i) (by omega) (by omega), Nat.or_comm, Nat.mul_comm, ← Nat.two_pow_add_eq_or_of_lt hA, Nat.add_comm]
  simp
theorem u32_and_low (n : Nat) (hn : n ≤ 31) (a : Int) (ha : 0 ≤ a) (ha' : a < 4294967296) : bits .and .u32 a (2 ^ n - 1) = a % 2 ^ n := by
  obtain ⟨A, rfl⟩ := Int.eq_ofNat_of_zero_le ha
  have hp : 2 ^ n ≤ 2 ^ 31 := Nat.pow_le_pow_right (by omega) hn
  have h1 : 1 ≤ 2 ^ n := Nat.one_le_two_pow
  have e : ((2 : Int) ^ n - 1) = ((2 ^ n - 1 : Nat) : Int) := by rw [Int.ofNat_sub h1]; simp
  rw [e, u32_and_nat A (2 ^ n - 1) (by omega) (by omega), Nat.and_two_pow_sub_one_eq_mod]
  simp
theorem ofInt64_toNat (a : Nat) (ha : a < 18446744073709551616) : (BitVec.ofInt 64 (a : Int)).toNat = a := by
  rw [BitVec.ofInt_natCast, BitVec.toNat_ofNat]; exact Nat.mod_eq_of_lt (by omega)
theorem i64_and_low (n : Nat) (hn : n ≤ 62) (a : Int) (ha : 0 ≤ a) (ha' : a < 9223372036854775808) : bits .and .i64 a (2 ^ n - 1) = a % 2 ^ n := by
  obtain ⟨A, rfl⟩ := Int.eq_ofNat_of_zero_le ha
  have hp : 2 ^ n ≤ 2 ^ 62 := Nat.pow_le_pow_right (by omega) hn
  have h1 : 1 ≤ 2 ^ n := Nat.one_le_two_pow
  have e : ((2 : Int) ^ n - 1) = ((2 ^ n - 1 : Nat) : Int) := by rw [Int.ofNat_sub h1]; simp
  have hx : A % 2 ^ n < 2 ^ n := Nat.mod_lt _ (Nat.two_pow_pos n)
  rw [e]
  show IntKind.i64.wrap ((BitVec.ofInt 64 (A : Int) &&& BitVec.ofInt 64 ((2 ^ n - 1 : Nat) : Int)).toNat : Int) = _
  rw [BitVec.toNat_and, ofInt64_toNat A (by omega), ofInt64_toNat (2 ^ n - 1) (by omega), Nat.and_two_pow_sub_one_eq_mod, IntKind.wrap_i64]
  simp only [Int.natCast_emod, Int.natCast_pow, Int.cast_ofNat_Int]
  omega

/-! ### THE WALK -/
theorem own : ownKnob Try.prog.godebug = none := by kernel_rfl

set_option maxRecDepth 100000 in
theorem dec_imm20 (x : Int) (h0 : 0 ≤ x) (h1 : x ≤ 4294967295) (w : World) :
    Calls Try.prog 44 #[.int .u16 28, .int .u32 x, .int .i64 0] w fun e w' => e = .returned (.iface 48 (.agg #[.int .u32 (x / 4096), .bool false])) ∧ w = w' := by
  go_enter Try.func44, Try.ntmps44
  go_wp2
  go_ret
  exact ⟨rfl, rfl⟩
theorem ta_Uimm_Reg (v : Value) (w : World) : (Instr.typeAssert (.iface 48 v) 36 39 true).run Try.prog w = .ok (.tuple #[.int .u16 0, .bool false]) w := by kernel_rfl
theorem ta_Uimm_RegPtr (v : Value) (w : World) : (Instr.typeAssert (.iface 48 v) 36 41 true).run Try.prog w = .ok (.tuple #[.agg #[.int .u16 0], .bool false]) w := by kernel_rfl
theorem ta_Uimm_RegOffset (v : Value) (w : World) : (Instr.typeAssert (.iface 48 v) 36 46 true).run Try.prog w = .ok (.tuple #[.agg #[.int .u16 0, .int .i32 0, .bool false, .int .u8 0], .bool false]) w := by kernel_rfl
theorem ta_Uimm_Simm (v : Value) (w : World) : (Instr.typeAssert (.iface 48 v) 36 44 true).run Try.prog w = .ok (.tuple #[.agg #[.int .i32 0, .bool false, .int .u8 0], .bool false]) w := by kernel_rfl
theorem ta_Uimm_Uimm (v : Value) (w : World) : (Instr.typeAssert (.iface 48 v) 36 48 true).run Try.prog w = .ok (.tuple #[v, .bool true]) w := by kernel_rfl
theorem fieldq_31_12 (x : Int) (h0 : 0 ≤ x) (h1 : x ≤ 4294967295) (w : World) :
    Calls Try.prog 23 #[.int .u32 x, .int .i64 31, .int .i64 12] w fun e w' => e = .returned (.int .i64 (x / 4096 % 1048576)) ∧ ∃ n, w' = w.drewN n := by
  go_enter Try.func23, Try.ntmps23
  go_wp2
  go_quiet (fail)
  go_wp2
  go_ret
  exact ⟨rfl, _, rfl⟩
set_option maxRecDepth 100000 in
set_option maxHeartbeats 1000000 in
theorem law (x : Int) (h0 : 0 ≤ x) (h1 : x ≤ 4294967295) (w : World) :
    Calls Try.prog 14 #[.int .u32 x] w fun e w' => e = .returned (.bool true) ∧ Grown w w' := by
  have e0 := ta_Uimm_Reg
  have e1 := ta_Uimm_RegPtr
  have e2 := ta_Uimm_RegOffset
  have e3 := ta_Uimm_Simm
  have e4 := ta_Uimm_Uimm
  have a2 : bits BinOp.and IntKind.i64 (x / 4096) 1048575 = x / 4096 % 1048576 := i64_and_low 20 (by omega) _ (by omega) (by omega)
  go_enter Try.func14, Try.ntmps14
  go_wp2_with (first | (go_at_call 44; (with_reducible refine (dec_imm20 x h0 h1 _).mono ?_); rintro e w' ⟨rfl, rfl⟩) | go_in)
  go_quiet ((go_at_call 23; exact Calls.quiet_of (fieldq_31_12 x h0 h1 _)))
  go_wp2
  all_goals go_ret
  all_goals refine ⟨ret_bool ?_, by repeat (with_reducible first | exact Grown.refl _ | assumption | apply Grown.alloc | apply Grown.drew | apply grown_drewN | refine grown_trans ?_ (by assumption))⟩
  all_goals (first | rfl | (rw [beq_iff_eq]; omega) | (have hv := HV; unfold Hid at hv; rw [beq_iff_eq]; omega) | (have hv := HV; unfold SignedOf at hv; rw [beq_iff_eq]; split at hv <;> omega) | (have hv := HV; unfold SignedOf at hv; split at hv <;> simp <;> omega) | (simp; omega))
theorem walk (a0 : Int) (w0 : (Lit.int .u32 a0).wf = true) (w : World) :
    Calls Try.prog 14 #[.int .u32 a0] w fun e w' => e = .returned (.bool true) ∧ Grown w w' := by
  have hb := bounds_u32 w0
  exact law a0 hb.1 (by omega) w

/-! ### THE ROW's STEP: WRITTEN OUT: LEAVE IT -/
set_option maxRecDepth 100000 in
theorem lifted (os : Os) (started : os.Started) (H : Type) (enc : TypeId × Value → H) :
    ReturnsInHanded {} Try.checked os 14 .any (Rows.fnArgImm20Spec.pre6 enc Try.prog Try.f14 Rows.fnArgImm20Row.domain false) (Rows.fnArgImm20Spec.post enc Try.prog Try.f14 false true false false) := by
  refine returnsInHanded_of_change (C := Try.checked) own started (by kernel_rfl) Try.func14
    (ChangeSpec.witness6 (enc := enc) (C := Try.checked) false ⟨#[], #[.int .u32 0], []⟩ 8 (by kernel_rfl) (by kernel_rfl) (by kernel_rfl) (by kernel_rfl)) ?_
  intro W base args ds gs before hval0 hW hcnd _
  have hval : ∀ (j : Nat) t v, Try.f14.params[j]? = some t → args[j]? = some v → Value.okWide Try.prog W .any base t v := hval0
  have hW' := hW
  obtain ⟨p, q, hA0, hV, rfl, hfz, hnd⟩ := hW
  have hA : DataW.TrodAll enc Try.prog W 0 (fun _ => true) true Try.f14.params.toList args.toList ds p := hA0
  rw [Try.params14] at hA hval
  obtain ⟨v0, vs0, d0, ds0, p0, q0, hargs, rfl, rfl, h0, r0⟩ := trodAll_cons hA
  obtain ⟨rfl, rfl, rfl⟩ := trodAll_nil r0
  obtain rfl : args = #[v0] := by cases args; simp_all
  obtain ⟨rfl, rfl⟩ := trodVars_none hV
  obtain ⟨a0, rfl, rfl, rfl, w0⟩ := open_int Try.underlying22 (hval 0 22 v0 rfl rfl) h0
  clear hA0 hval0
  simp only [List.append_nil] at hW'
  refine (walk a0 w0 W).mono fun e W' ⟨he, hg⟩ => ?_
  subst he
  exact ⟨_, rfl, post_of_same (pa := []) (pv := []) hW' (fun _ _ _ => (trodAll_cons_mk (shut_bool Try.underlying4 _) trodAll_mk0)) (fun sp _ => (trodAll_cons_mk (shut_int Try.underlying22 w0) trodAll_mk0)) (fun _ _ => rfl) rfl
    (hg.frame _) hg.2.1 (ok_one (by kernel_rfl) rfl (okWide_bool_mk Try.underlying4 _))⟩

theorem over : Rows.fnArgImm20Row.holds Try.pinned (OpenSpec.ofChange Rows.fnArgImm20Spec) :=
  OpenClaim.holds_of_wide 14 Try.f14 rfl rfl rfl rfl rfl rfl rfl ⟨rfl, rfl, rfl, rfl, rfl⟩ rfl rfl rfl rfl rfl (by kernel_rfl) Try.func14 (by kernel_rfl)
    (of_decide_eq_true (by kernel_rfl)) (by unfold Func.isWrapper; first | (rw [if_pos (by decide +kernel)]; kernel_rfl) | (rw [if_neg (by decide +kernel)]; exact ⟨rfl, rfl⟩))
    (fun os started H enc _ => lifted os started H enc)

/-- ████ THE STATEMENT ████ -/
theorem proved : Rows.FnArgImm20Said :=
  over
#print axioms proved
end Go.Proofs.Ytajjnfnncbpjbaa.fnArgImm20
