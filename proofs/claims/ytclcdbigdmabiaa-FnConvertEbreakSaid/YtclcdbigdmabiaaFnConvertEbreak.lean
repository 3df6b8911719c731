/-
  The statement 'FnConvertEbreak' is proved: for every word x of 32 bits the law returns true and its argument reads as before. Conditions: none beyond the row's own.
-/
import Derived.Test.YtclcdbigdmabiaaConv
import Derived.Test.YtclcdbigdmabiaaRows
import Derived.WalkKit
import Derived.ProofKit
import Derived.OpenShut
import Derived.ShutString
import Derived.Handy
import Derived.Deep.QuietTactic
import Derived.BigQuiet
import Derived.RegionTactic
import Derived.ChangeAlike
namespace Go.Proofs.Ytclcdbigdmabiaa.fnConvertEbreak
open Go.ChangeShapes Go.WideShapes Go.ChangeAt Go.RowKit
open Go.ChangeMaps (open_string shut_string)
set_option linter.unusedVariables false

/-! ### PLAIN NUMBERS -/
def SignedOf (v n half full : Int) : Prop := v = if half ≤ n then n - full else n
theorem signedOf_mk {v n half full s : Int} (hs : Hid (s = n)) (h : v = if half ≤ s then s - full else s) : SignedOf v n half full := by
  unfold Hid at hs; subst hs; exact h
theorem hide {p : Prop} (h : p) : Hid p := h
theorem ret_bool {b c : Bool} (h : b = c) : Ending.returned (.bool b) = .returned (.bool c) := by rw [h]
theorem grown_drewN {w w' : World} (h : Grown w w') (n : Nat) : Grown w (w'.drewN n) := ⟨h.1, h.2.1, h.2.2⟩
theorem grown_trans {a b c : World} (h : Grown a b) (k : Grown b c) : Grown a c := ⟨World.keptBut_trans h.1 k.1, fun x => (k.2.1 x).trans (h.2.1 x), Nat.le_trans h.2.2 k.2.2⟩
theorem nat_or_field (acc t i n : Nat) (h1 : acc / 2 ^ i % 2 ^ n = 0) (h2 : t < 2 ^ n) : acc ||| t * 2 ^ i = acc + t * 2 ^ i := by
  have e1 : acc = 2 ^ i * (2 ^ n * (acc / 2 ^ i / 2 ^ n)) + acc % 2 ^ i := by
    have a := Nat.div_add_mod acc (2 ^ i)
    have b := Nat.div_add_mod (acc / 2 ^ i) (2 ^ n)
    rw [h1, Nat.add_zero] at b
    rw [b]; exact a.symm
  have hlo : acc % 2 ^ i < 2 ^ i := Nat.mod_lt _ (Nat.two_pow_pos i)
  generalize acc % 2 ^ i = lo at e1 hlo
  generalize acc / 2 ^ i / 2 ^ n = hi at e1
  subst e1
  have e3 : 2 ^ i * (2 ^ n * hi) ||| t * 2 ^ i = 2 ^ i * (2 ^ n * hi + t) := by
    rw [Nat.two_pow_add_eq_or_of_lt h2, Nat.mul_comm (2 ^ i) (2 ^ n * hi), Nat.mul_comm (2 ^ i) (2 ^ n * hi ||| t), ← Nat.shiftLeft_eq, ← Nat.shiftLeft_eq, ← Nat.shiftLeft_eq, Nat.shiftLeft_or_distrib]
  rw [Nat.two_pow_add_eq_or_of_lt hlo, Nat.or_assoc, Nat.or_comm lo, ← Nat.or_assoc, e3, ← Nat.two_pow_add_eq_or_of_lt hlo, Nat.mul_add, ← Nat.two_pow_add_eq_or_of_lt hlo, Nat.mul_comm t]
  omega
theorem u32_or_field (i n : Nat) (P M : Int) (hP : P = 2 ^ i) (hM : M = 2 ^ n) (a t : Int) (ha : 0 ≤ a) (ha' : a < 4294967296) (ht : 0 ≤ t) (h2 : t < M) (hb : t * P < 4294967296) (h1 : a / P % M = 0) : bits .or .u32 a (t * P) = a + t * P := by
  subst hP hM
  obtain ⟨A, rfl⟩ := Int.eq_ofNat_of_zero_le ha
  obtain ⟨T, rfl⟩ := Int.eq_ofNat_of_zero_le ht
  have e : (T : Int) * 2 ^ i = ((T * 2 ^ i : Nat) : Int) := by simp
  rw [e] at hb ⊢
  rw [u32_or_nat A (T * 2 ^ i) (by omega) (by omega), nat_or_field A T i n (by exact_mod_cast h1) (by exact_mod_cast h2)]
  simp
theorem u32_or_mid (i n : Nat) (P M : Int) (hP : P = 2 ^ i) (hM : M = 2 ^ n) (a t h l : Int) (ha : 0 ≤ a) (ha' : a < 4294967296) (ht : 0 ≤ t) (h2 : t < M) (hb : t * P < 4294967296) (e : a = l + h * M * P) (hl : 0 ≤ l) (hl' : l < P) : bits .or .u32 a (t * P) = a + t * P := by
  refine u32_or_field i n P M hP hM a t ha ha' ht h2 hb ?_
  rw [e, Int.add_mul_ediv_right _ _ (by omega), Int.ediv_eq_zero_of_lt hl hl', Int.zero_add, Int.mul_emod_left]
theorem u32_or_top (i : Nat) (P : Int) (hP : P = 2 ^ i) (a t : Int) (ha : 0 ≤ a) (ha' : a < 4294967296) (ht : 0 ≤ t) (h1 : a < P) (hb : t * P < 4294967296) : bits .or .u32 a (t * P) = a + t * P := by
  subst hP
  obtain ⟨A, rfl⟩ := Int.eq_ofNat_of_zero_le ha
  obtain ⟨T, rfl⟩ := Int.eq_ofNat_of_zero_le ht
  have e : (T : Int) * 2 ^ i = ((T * 2 ^ i : Nat) : Int) := by simp
  have hA : A < 2 ^ i := by exact_mod_cast h1
  rw [e] at hb ⊢
  rw [u32_or_nat A (T * 2 ^ i) (by omega) (by omega), Nat.or_comm, Nat.mul_comm, ← Nat.two_pow_add_eq_or_of_lt hA, Nat.add_comm]
  simp
theorem u32_or_high (i : Nat) (a t : Int) (ha : 0 ≤ a) (ha' : a < 2 ^ i) (ht : 1 ≤ t) (hb : t * 2 ^ i < 4294967296) : bits .or .u32 a (t * 2 ^ i) = a + t * 2 ^ i := by
  obtain ⟨A, rfl⟩ := Int.eq_ofNat_of_zero_le ha
  obtain ⟨T, rfl⟩ := Int.eq_ofNat_of_zero_le (show 0 ≤ t by omega)
  have e : (T : Int) * 2 ^ i = ((T * 2 ^ i : Nat) : Int) := by simp
  have hA : A < 2 ^ i := by exact_mod_cast ha'
  rw [e] at hb ⊢
  have h1 : 2 ^ i ≤ T * 2 ^ i := Nat.le_mul_of_pos_left _ (by omega)
  rw [u32_or_nat A (T * 2 ^ i) (by omega) (by omega), Nat.or_comm, Nat.mul_comm, ← Nat.two_pow_add_eq_or_of_lt hA, Nat.add_comm]
  simp
theorem u32_and_low (n : Nat) (hn : n ≤ 31) (a : Int) (ha : 0 ≤ a) (ha' : a < 4294967296) : bits .and .u32 a (2 ^ n - 1) = a % 2 ^ n := by
  obtain ⟨A, rfl⟩ := Int.eq_ofNat_of_zero_le ha
  have hp : 2 ^ n ≤ 2 ^ 31 := Nat.pow_le_pow_right (by omega) hn
  have h1 : 1 ≤ 2 ^ n := Nat.one_le_two_pow
  have e : ((2 : Int) ^ n - 1) = ((2 ^ n - 1 : Nat) : Int) := by rw [Int.ofNat_sub h1]; simp
  rw [e, u32_and_nat A (2 ^ n - 1) (by omega) (by omega), Nat.and_two_pow_sub_one_eq_mod]
  simp
theorem own : ownKnob Try.prog.godebug = none := by kernel_rfl

set_option maxRecDepth 100000 in
set_option maxHeartbeats 1000000 in
theorem zz (w : World) :
    Calls Try.prog 22 #[.int .u16 127, .agg #[.nilIface, .nilIface, .nilIface, .nilIface, .nilIface, .nilIface]] w fun e w' => e = .returned (.tuple #[.int .u16 159, .agg #[.nilIface, .nilIface, .nilIface, .nilIface, .nilIface, .nilIface]]) ∧ Below w.heap.size w w' := by
  go_enter Try.func22, Try.ntmps22
  go_wp2
  go_region
  all_goals go_wp2
  all_goals exact bodyPost_ret (v := .tuple #[.int .u16 159, .agg #[.nilIface, .nilIface, .nilIface, .nilIface, .nilIface, .nilIface]]) (by simp [results, Try.results22, go_sem]) rfl ⟨rfl, by go_grown⟩
theorem conv_law (g cap : Nat) (w : World) (hg : g < w.heap.size) : Calls Try.prog 7 #[.int .i64 127, .slice (some ⟨g, 0, none⟩) 0 cap] w fun e w' => ∃ v, e = .returned (.tuple #[.int .i64 159, v]) ∧ (v = .slice none 0 0 ∨ ∃ g2 cap2, v = .slice (some ⟨g2, 0, none⟩) 0 cap2) ∧ Below w.heap.size w w' := by
  refine (Conv.convert_E_0 127 159 (by omega) (by omega) (by omega) (by omega) g cap w hg (Conv.hide fun W => zz W)).mono ?_
  rintro e w' ⟨v, rfl, hown, hb⟩
  refine ⟨v, rfl, ?_, hb⟩
  rcases hown.2 with ⟨h, _⟩ | ⟨g2, cap2, cur, h, _⟩
  · exact Or.inl h
  · exact Or.inr ⟨g2, cap2, h⟩
theorem like_nil (g2 cap2 g cap : Nat) (w : World) : Calls Try.prog 8 #[.slice none 0 0, .slice (some ⟨g, 0, none⟩) 0 cap] w fun e w' => e = .returned (.bool true) ∧ w' = w := by
  go_enter Try.func8, Try.ntmps8
  go_wp2
  refine wp_loop_rounds 1 ?_
  rw [rounds_succ]
  go_wp2
  go_ret
  exact ⟨rfl, rfl⟩
theorem like_some (g2 cap2 g cap : Nat) (w : World) : Calls Try.prog 8 #[.slice (some ⟨g2, 0, none⟩) 0 cap2, .slice (some ⟨g, 0, none⟩) 0 cap] w fun e w' => e = .returned (.bool true) ∧ w' = w := by
  go_enter Try.func8, Try.ntmps8
  go_wp2
  refine wp_loop_rounds 1 ?_
  rw [rounds_succ]
  go_wp2
  go_ret
  exact ⟨rfl, rfl⟩
set_option maxRecDepth 100000 in
set_option maxHeartbeats 1000000 in
theorem law (x : Int) (h0 : 0 ≤ x) (h1 : x ≤ 4294967295) (w : World) :
    Calls Try.prog 3 #[.int .u32 x] w fun e w' => e = .returned (.bool true) ∧ Below w.heap.size w w' := by
  go_enter Try.func3, Try.ntmps3
  go_wp2_with fail
  go_call conv_law as e w1 ⟨v, rfl, hv, hB1⟩
  have hBw : Below w.heap.size w w1 := Conv.below_call (by repeat' (first | (with_reducible exact Below.refl _ _) | (with_reducible assumption) | (with_reducible refine Below.alloc ?_ ?_ _) | (with_reducible refine Below.drew ?_) | go_size)) hB1 (Nat.le_refl _)
  clear hB1
  rcases hv with rfl | ⟨g2, cap2, rfl⟩
  · have hsz := hBw.size
    go_wp2_with (go_at_call 8; refine (like_nil 0 0 _ _ _).mono ?_; rintro e w' ⟨rfl, rfl⟩)
    go_ret
    exact ⟨rfl, (by repeat' (first | (with_reducible exact Below.refl _ _) | (with_reducible assumption) | (with_reducible refine Below.alloc ?_ ?_ _) | (with_reducible refine Below.drew ?_) | go_size))⟩
  · have hsz := hBw.size
    go_wp2_with (go_at_call 8; refine (like_some _ _ _ _ _).mono ?_; rintro e w' ⟨rfl, rfl⟩)
    go_ret
    exact ⟨rfl, (by repeat' (first | (with_reducible exact Below.refl _ _) | (with_reducible assumption) | (with_reducible refine Below.alloc ?_ ?_ _) | (with_reducible refine Below.drew ?_) | go_size))⟩
theorem walk (a0 : Int) (w0 : (Lit.int .u32 a0).wf = true) (w : World) :
    Calls Try.prog 3 #[.int .u32 a0] w fun e w' => e = .returned (.bool true) ∧ Below w.heap.size w w' := by
  have hb := bounds_u32 w0
  exact law a0 hb.1 (by omega) w

/-! ### THE ROW's STEP: WRITTEN OUT: LEAVE IT -/
set_option maxRecDepth 100000 in
theorem lifted (os : Os) (started : os.Started) (H : Type) (enc : TypeId × Value → H) :
    ReturnsInHanded {} Try.checked os 3 .any (Rows.fnConvertEbreakSpec.pre6 enc Try.prog Try.f3 Rows.fnConvertEbreakRow.domain false) (Rows.fnConvertEbreakSpec.post enc Try.prog Try.f3 false true false false) := by
  refine returnsInHanded_of_change (C := Try.checked) own started (by kernel_rfl) Try.func3
    (ChangeSpec.witness6 (enc := enc) (C := Try.checked) false ⟨#[], #[.int .u32 0], []⟩ 8 (by kernel_rfl) (by kernel_rfl) (by kernel_rfl) (by kernel_rfl)) ?_
  intro W base args ds gs before hval0 hW hcnd _
  have hval : ∀ (j : Nat) t v, Try.f3.params[j]? = some t → args[j]? = some v → Value.okWide Try.prog W .any base t v := hval0
  have hW' := hW
  obtain ⟨p, q, hA0, hV, rfl, hfz, hnd⟩ := hW
  have hA : DataW.TrodAll enc Try.prog W 0 (fun _ => true) true Try.f3.params.toList args.toList ds p := hA0
  rw [Try.params3] at hA hval
  obtain ⟨v0, vs0, d0, ds0, p0, q0, hargs, rfl, rfl, h0, r0⟩ := trodAll_cons hA
  obtain ⟨rfl, rfl, rfl⟩ := trodAll_nil r0
  obtain rfl : args = #[v0] := by cases args; simp_all
  obtain ⟨rfl, rfl⟩ := trodVars_none hV
  obtain ⟨a0, rfl, rfl, rfl, w0⟩ := open_int Try.underlying22 (hval 0 22 v0 rfl rfl) h0
  clear hA0 hval0
  simp only [List.append_nil] at hW'
  refine (walk a0 w0 W).mono fun e W' ⟨he, hg⟩ => ?_
  subst he
  refine ⟨_, rfl, _, _, _, [], [], [], hW', trodAll_cons_mk (shut_bool Try.underlying4 _) trodAll_mk0, trodAll_cons_mk (shut_int Try.underlying22 w0) trodAll_mk0, rfl, hg.frame _, fun h => by cases h⟩

theorem over : Rows.fnConvertEbreakRow.holds Try.pinned (OpenSpec.ofChange Rows.fnConvertEbreakSpec) :=
  OpenClaim.holds_of_wide 3 Try.f3 rfl rfl rfl rfl rfl rfl rfl ⟨rfl, rfl, rfl, rfl, rfl⟩ rfl rfl rfl rfl rfl (by kernel_rfl) Try.func3 (by kernel_rfl)
    (of_decide_eq_true (by kernel_rfl)) (by unfold Func.isWrapper; first | (rw [if_pos (by decide +kernel)]; kernel_rfl) | (rw [if_neg (by decide +kernel)]; exact ⟨rfl, rfl⟩))
    (fun os started H enc _ => lifted os started H enc)

/-- ████ THE STATEMENT ████ -/
theorem proved : Rows.FnConvertEbreakSaid :=
  over
#print axioms proved
end Go.Proofs.Ytclcdbigdmabiaa.fnConvertEbreak
