/-
  What the statements on Convert share: the arguments of an instruction as plain data (RV), and contracts of argOf, listed, made, Convert, LikeAll and There. No condition beyond what each theorem states.
-/
import Derived.Test.YtclcdbigdmabiaaRows
import Derived.WalkKit
import Derived.ProofKit
import Derived.OpenShut
import Derived.ShutString
import Derived.Handy
import Derived.Deep.QuietTactic
import Derived.BigQuiet
import Derived.RegionTactic
import Derived.ChangeAlike
import Derived.StillTailTactics
namespace Go.Proofs.Ytclcdbigdmabiaa.Conv
open Go.ChangeShapes Go.WideShapes Go.ChangeAt Go.RowKit
set_option linter.unusedVariables false
set_option maxRecDepth 100000

/-! ### PLAIN NUMBERS -/
def SignedOf (v n half full : Int) : Prop := v = if half ≤ n then n - full else n
theorem signedOf_mk {v n half full s : Int} (hs : Hid (s = n)) (h : v = if half ≤ s then s - full else s) : SignedOf v n half full := by
  unfold Hid at hs; subst hs; exact h
theorem hide {p : Prop} (h : p) : Hid p := h
theorem ret_bool {b c : Bool} (h : b = c) : Ending.returned (.bool b) = .returned (.bool c) := by rw [h]
theorem grown_drewN {w w' : World} (h : Grown w w') (n : Nat) : Grown w (w'.drewN n) := ⟨h.1, h.2.1, h.2.2⟩
theorem grown_trans {a b c : World} (h : Grown a b) (k : Grown b c) : Grown a c := ⟨World.keptBut_trans h.1 k.1, fun x => (k.2.1 x).trans (h.2.1 x), Nat.le_trans h.2.2 k.2.2⟩
theorem nat_or_field (acc t i n : Nat) (h1 : acc / 2 ^ i % 2 ^ n = 0) (h2 : t < 2 ^ n) : acc ||| t * 2 ^ i = acc + t * 2 ^ i := by
  have e1 : acc = 2 ^ i * (2 ^ n * (acc / 2 ^ i / 2 ^ n)) + acc % 2 ^ i := by
    have a := Nat.div_add_mod acc (2 ^ i)
    have b := Nat.div_add_mod (acc / 2 ^ i) (2 ^ n)
    rw [h1, Nat.add_zero] at b
    rw [b]; exact a.symm
  have hlo : acc % 2 ^ i < 2 ^ i := Nat.mod_lt _ (Nat.two_pow_pos i)
  generalize acc % 2 ^ i = lo at e1 hlo
  generalize acc / 2 ^ i / 2 ^ n = hi at e1
  subst e1
  have e3 : 2 ^ i * (2 ^ n * hi) ||| t * 2 ^ i = 2 ^ i * (2 ^ n * hi + t) := by
    rw [Nat.two_pow_add_eq_or_of_lt h2, Nat.mul_comm (2 ^ i) (2 ^ n * hi), Nat.mul_comm (2 ^ i) (2 ^ n * hi ||| t), ← Nat.shiftLeft_eq, ← Nat.shiftLeft_eq, ← Nat.shiftLeft_eq, Nat.shiftLeft_or_distrib]
  rw [Nat.two_pow_add_eq_or_of_lt hlo, Nat.or_assoc, Nat.or_comm lo, ← Nat.or_assoc, e3, ← Nat.two_pow_add_eq_or_of_lt hlo, Nat.mul_add, ← Nat.two_pow_add_eq_or_of_lt hlo, Nat.mul_comm t]
  omega
theorem u32_or_field (i n : Nat) (P M : Int) (hP : P = 2 ^ i) (hM : M = 2 ^ n) (a t : Int) (ha : 0 ≤ a) (ha' : a < 4294967296) (ht : 0 ≤ t) (h2 : t < M) (hb : t * P < 4294967296) (h1 : a / P % M = 0) : bits .or .u32 a (t * P) = a + t * P := by
  subst hP hM
  obtain ⟨A, rfl⟩ := Int.eq_ofNat_of_zero_le ha
  obtain ⟨T, rfl⟩ := Int.eq_ofNat_of_zero_le ht
  have e : (T : Int) * 2 ^ i = ((T * 2 ^ i : Nat) : Int) := by simp
  rw [e] at hb ⊢
  rw [u32_or_nat A (T * 2 ^ i) (by omega) (by omega), nat_or_field A T i n (by exact_mod_cast h1) (by exact_mod_cast h2)]
  simp
theorem u32_or_mid (i n : Nat) (P M : Int) (hP : P = 2 ^ i) (hM : M = 2 ^ n) (a t h l : Int) (ha : 0 ≤ a) (ha' : a < 4294967296) (ht : 0 ≤ t) (h2 : t < M) (hb : t * P < 4294967296) (e : a = l + h * M * P) (hl : 0 ≤ l) (hl' : l < P) : bits .or .u32 a (t * P) = a + t * P := by
  refine u32_or_field i n P M hP hM a t ha ha' ht h2 hb ?_
  rw [e, Int.add_mul_ediv_right _ _ (by omega), Int.ediv_eq_zero_of_lt hl hl', Int.zero_add, Int.mul_emod_left]
theorem u32_or_top (i : Nat) (P : Int) (hP : P = 2 ^ i) (a t : Int) (ha : 0 ≤ a) (ha' : a < 4294967296) (ht : 0 ≤ t) (h1 : a < P) (hb : t * P < 4294967296) : bits .or .u32 a (t * P) = a + t * P := by
  subst hP
  obtain ⟨A, rfl⟩ := Int.eq_ofNat_of_zero_le ha
  obtain ⟨T, rfl⟩ := Int.eq_ofNat_of_zero_le ht
  have e : (T : Int) * 2 ^ i = ((T * 2 ^ i : Nat) : Int) := by simp
  have hA : A < 2 ^ i := by exact_mod_cast h1
  rw [e] at hb ⊢
  rw [u32_or_nat A (T * 2 ^ i) (by omega) (by omega), Nat.or_comm, Nat.mul_comm, ← Nat.two_pow_add_eq_or_of_lt hA, Nat.add_comm]
  simp
theorem u32_or_high (i : Nat) (a t : Int) (ha : 0 ≤ a) (ha' : a < 2 ^ i) (ht : 1 ≤ t) (hb : t * 2 ^ i < 4294967296) : bits .or .u32 a (t * 2 ^ i) = a + t * 2 ^ i := by
  obtain ⟨A, rfl⟩ := Int.eq_ofNat_of_zero_le ha
  obtain ⟨T, rfl⟩ := Int.eq_ofNat_of_zero_le (show 0 ≤ t by omega)
  have e : (T : Int) * 2 ^ i = ((T * 2 ^ i : Nat) : Int) := by simp
  have hA : A < 2 ^ i := by exact_mod_cast ha'
  rw [e] at hb ⊢
  have h1 : 2 ^ i ≤ T * 2 ^ i := Nat.le_mul_of_pos_left _ (by omega)
  rw [u32_or_nat A (T * 2 ^ i) (by omega) (by omega), Nat.or_comm, Nat.mul_comm, ← Nat.two_pow_add_eq_or_of_lt hA, Nat.add_comm]
  simp
theorem u32_and_low (n : Nat) (hn : n ≤ 31) (a : Int) (ha : 0 ≤ a) (ha' : a < 4294967296) : bits .and .u32 a (2 ^ n - 1) = a % 2 ^ n := by
  obtain ⟨A, rfl⟩ := Int.eq_ofNat_of_zero_le ha
  have hp : 2 ^ n ≤ 2 ^ 31 := Nat.pow_le_pow_right (by omega) hn
  have h1 : 1 ≤ 2 ^ n := Nat.one_le_two_pow
  have e : ((2 : Int) ^ n - 1) = ((2 ^ n - 1 : Nat) : Int) := by rw [Int.ofNat_sub h1]; simp
  rw [e, u32_and_nat A (2 ^ n - 1) (by omega) (by omega), Nat.and_two_pow_sub_one_eq_mod]
  simp

/-! ### AN ARGUMENT AS PLAIN DATA -/
inductive RV where
  | reg (r : Int)
  | offs (r n : Int)
  | simm (n k : Int)
  | uimm (n : Int) (d : Bool)
def RV.ty : RV → TypeId
  | .reg _ => 52
  | .offs _ _ => 56
  | .simm _ _ => 54
  | .uimm _ _ => 58
def RV.val : RV → Value
  | .reg r => .int .u16 r
  | .offs r n => .agg #[.int .u16 r, .int .i32 n, .bool true, .int .u8 12]
  | .simm n k => .agg #[.int .i32 n, .bool true, .int .u8 k]
  | .uimm n d => .agg #[.int .u32 n, .bool d]
def RV.k : RV → Int
  | .reg _ => 1
  | .offs _ _ => 3
  | .simm _ _ => 4
  | .uimm _ _ => 5
def RV.r : RV → Int
  | .reg r => r
  | .offs r _ => r
  | .simm _ _ => 0
  | .uimm _ _ => 0
def RV.n : RV → Int
  | .reg _ => 0
  | .offs _ n => n
  | .simm n _ => n
  | .uimm n _ => n
/-- The numbers fit their kinds. -/
def RV.ok : RV → Prop
  | .reg r => 0 ≤ r ∧ r ≤ 65535
  | .offs r n => 0 ≤ r ∧ r ≤ 65535 ∧ -2147483648 ≤ n ∧ n ≤ 2147483647
  | .simm n _ => -2147483648 ≤ n ∧ n ≤ 2147483647
  | .uimm n _ => 0 ≤ n ∧ n ≤ 4294967295
theorem ta_Reg_Reg (v : Value) (w : World) : (Instr.typeAssert (.iface 52 v) 39 52 true).run Try.prog w = .ok (.tuple #[v, .bool true]) w := by kernel_rfl
theorem ta_RegOffset_Reg (v : Value) (w : World) : (Instr.typeAssert (.iface 56 v) 39 52 true).run Try.prog w = .ok (.tuple #[.int .u16 0, .bool false]) w := by kernel_rfl
theorem ta_RegOffset_RegPtr (v : Value) (w : World) : (Instr.typeAssert (.iface 56 v) 39 70 true).run Try.prog w = .ok (.tuple #[.agg #[.int .u16 0], .bool false]) w := by kernel_rfl
theorem ta_RegOffset_RegOffset (v : Value) (w : World) : (Instr.typeAssert (.iface 56 v) 39 56 true).run Try.prog w = .ok (.tuple #[v, .bool true]) w := by kernel_rfl
theorem ta_Simm_Reg (v : Value) (w : World) : (Instr.typeAssert (.iface 54 v) 39 52 true).run Try.prog w = .ok (.tuple #[.int .u16 0, .bool false]) w := by kernel_rfl
theorem ta_Simm_RegPtr (v : Value) (w : World) : (Instr.typeAssert (.iface 54 v) 39 70 true).run Try.prog w = .ok (.tuple #[.agg #[.int .u16 0], .bool false]) w := by kernel_rfl
theorem ta_Simm_RegOffset (v : Value) (w : World) : (Instr.typeAssert (.iface 54 v) 39 56 true).run Try.prog w = .ok (.tuple #[.agg #[.int .u16 0, .int .i32 0, .bool false, .int .u8 0], .bool false]) w := by kernel_rfl
theorem ta_Simm_Simm (v : Value) (w : World) : (Instr.typeAssert (.iface 54 v) 39 54 true).run Try.prog w = .ok (.tuple #[v, .bool true]) w := by kernel_rfl
theorem ta_Uimm_Reg (v : Value) (w : World) : (Instr.typeAssert (.iface 58 v) 39 52 true).run Try.prog w = .ok (.tuple #[.int .u16 0, .bool false]) w := by kernel_rfl
theorem ta_Uimm_RegPtr (v : Value) (w : World) : (Instr.typeAssert (.iface 58 v) 39 70 true).run Try.prog w = .ok (.tuple #[.agg #[.int .u16 0], .bool false]) w := by kernel_rfl
theorem ta_Uimm_RegOffset (v : Value) (w : World) : (Instr.typeAssert (.iface 58 v) 39 56 true).run Try.prog w = .ok (.tuple #[.agg #[.int .u16 0, .int .i32 0, .bool false, .int .u8 0], .bool false]) w := by kernel_rfl
theorem ta_Uimm_Simm (v : Value) (w : World) : (Instr.typeAssert (.iface 58 v) 39 54 true).run Try.prog w = .ok (.tuple #[.agg #[.int .i32 0, .bool false, .int .u8 0], .bool false]) w := by kernel_rfl
theorem ta_Uimm_Uimm (v : Value) (w : World) : (Instr.typeAssert (.iface 58 v) 39 58 true).run Try.prog w = .ok (.tuple #[v, .bool true]) w := by kernel_rfl

/-! ### argOf -/
theorem argOf_any (a : RV) (ha : a.ok) (w : World) :
    Calls Try.prog 25 #[.iface a.ty a.val] w fun e w' => e = .returned (.agg #[.int .i64 a.k, .int .i64 a.r, .int .i64 a.n]) ∧ Below w.heap.size w w' := by
  cases a with
  | reg r =>
    obtain ⟨h0, h1⟩ := ha
    simp only [RV.ty, RV.val, RV.k, RV.r, RV.n]
    have e0 := ta_Reg_Reg
    go_enter Try.func25, Try.ntmps25
    go_wp2
    go_returns
    exact ⟨rfl, by go_grown⟩
  | offs r n =>
    obtain ⟨h0, h1, h2, h3⟩ := ha
    simp only [RV.ty, RV.val, RV.k, RV.r, RV.n]
    have e0 := ta_RegOffset_Reg
    have e1 := ta_RegOffset_RegPtr
    have e2 := ta_RegOffset_RegOffset
    go_enter Try.func25, Try.ntmps25
    go_wp2
    go_returns
    exact ⟨rfl, by go_grown⟩
  | simm n k =>
    obtain ⟨h0, h1⟩ := ha
    simp only [RV.ty, RV.val, RV.k, RV.r, RV.n]
    have e0 := ta_Simm_Reg
    have e1 := ta_Simm_RegPtr
    have e2 := ta_Simm_RegOffset
    have e3 := ta_Simm_Simm
    go_enter Try.func25, Try.ntmps25
    go_wp2
    go_returns
    exact ⟨rfl, by go_grown⟩
  | uimm n d =>
    obtain ⟨h0, h1⟩ := ha
    simp only [RV.ty, RV.val, RV.k, RV.r, RV.n]
    have e0 := ta_Uimm_Reg
    have e1 := ta_Uimm_RegPtr
    have e2 := ta_Uimm_RegOffset
    have e3 := ta_Uimm_Simm
    have e4 := ta_Uimm_Uimm
    go_enter Try.func25, Try.ntmps25
    go_wp2
    go_returns
    exact ⟨rfl, by go_grown⟩

/-! ### ROWS OF ARGUMENTS -/
abbrev zeroArg : Value := .agg #[.int .i64 0, .int .i64 0, .int .i64 0]
theorem infoArg : (Try.prog.info? 30).map (fun i => (i.zero, i.size, i.bytes)) = some (some zeroArg, 3, 24) := by kernel_rfl
def RV.row (a : RV) : List Value := [.int .i64 a.k, .int .i64 a.r, .int .i64 a.n]
theorem cells_three (w : World) (n : Nat) (hn : n = w.heap.size) (x y z : Value) (t : TypeId) : ∀ j u, [x, y, z][j]? = some u → (w.alloc (.cells #[x, y, z] t)).cell? ((⟨n, 0, none⟩ : Addr).add j) = some u := by
  subst hn
  intro j u hj
  match j, hj with
  | 0, hj => simpa [Addr.add] using hj
  | 1, hj => simpa [Addr.add] using hj
  | 2, hj => simpa [Addr.add] using hj
  | j + 3, hj => simp at hj
theorem row_oneCell (a : RV) : ∀ u ∈ [Value.int .i64 a.k, .int .i64 a.r, .int .i64 a.n], u.oneCell' = true := by
  intro u hu
  simp only [List.mem_cons, List.mem_nil_iff, or_false] at hu
  rcases hu with rfl | rfl | rfl <;> rfl
theorem own_below {w w' : World} {base e size n : Nat} {v : Value} {xs : List Value} (h : w.ownsRow base e size v n xs) (hb : Below w.heap.size w w') : w'.ownsRow base e size v n xs :=
  h.kept (row := none) ⟨hb.os, hb.tape, hb.output, hb.size, fun k hk _ => hb.block k hk⟩ (by cases v.ownBlock <;> simp)
theorem below_append {B base e size n : Nat} {a w w' : World} {v : Value} {xs : List Value} (h : Below B a w) (hown : w.ownsRow base e size v n xs) (hg : w.grownBy w' v.ownBlock) (hB : B ≤ w.heap.size) (hbase : B ≤ base) : Below B a w' :=
  h.grown hg hB fun k hk => Nat.le_trans hbase (hown.lt k hk).1
theorem below_call {B : Nat} {w W W' : World} (h : Below B w W) (hb : Below W.heap.size W W') (hB : B ≤ w.heap.size) : Below B w W' := h.trans (hb.mono (Nat.le_trans hB h.size))
theorem below_step {w u wa u' : World} {C : Obj} {e size n : Nat} {v : Value} {xs : List Value} (hu : Below w.heap.size w u) (hb : Below u.heap.size u wa)
    (hown : (wa.alloc C).ownsRow w.heap.size e size v n xs) (hg : (wa.alloc C).grownBy u' v.ownBlock) : Below w.heap.size w u' := by
  have h1 : Below w.heap.size w wa := hu.trans (hb.mono hu.size)
  have h2 := h1.alloc h1.size C
  exact below_append h2 hown hg h2.size (Nat.le_refl _)
theorem own_cells {w : World} {base e n : Nat} {v : Value} {xs : List Value} (h : w.ownsRow base e 3 v n xs) (hn : 0 < n) :
    ∃ g cap, v = .slice (some ⟨g, 0, none⟩) n cap ∧ g < w.heap.size ∧ ∀ (j : Nat) u, xs[j]? = some u → w.cell? ⟨g, j, none⟩ = some u := by
  have hc := fun {g : Nat} (hg : v.ownBlock = some g) => h.cells hg
  obtain ⟨h1, h2⟩ := h
  rcases h2 with ⟨_, h2⟩ | ⟨g, cap, cur, hv, hg, hh, r⟩
  · omega
  · subst hv
    refine ⟨g, cap, rfl, (Array.getElem?_eq_some_iff.1 hh).1, fun j u hu => ?_⟩
    have := hc rfl j u hu
    have e : (⟨g, 0, none⟩ : Addr).add j = ⟨g, j, none⟩ := by unfold Addr.add; split <;> simp_all
    rwa [e] at this
theorem own_base {w : World} {base base' e size n : Nat} {v : Value} {xs : List Value} (h : w.ownsRow base e size v n xs) (hb : base' ≤ base) : w.ownsRow base' e size v n xs := by
  obtain ⟨h1, h2⟩ := h
  refine ⟨h1, ?_⟩
  rcases h2 with h2 | ⟨g, cap, cur, hv, hg, r⟩
  · exact Or.inl h2
  · exact Or.inr ⟨g, cap, cur, hv, by omega, r⟩
theorem idx0 (a b c d e f : Value) (w : World) : (Instr.index 41 (.agg #[a, b, c, d, e, f]) (.int .i64 0)).run Try.prog w = .ok a w := by kernel_rfl
theorem idx1 (a b c d e f : Value) (w : World) : (Instr.index 41 (.agg #[a, b, c, d, e, f]) (.int .i64 1)).run Try.prog w = .ok b w := by kernel_rfl
theorem idx2 (a b c d e f : Value) (w : World) : (Instr.index 41 (.agg #[a, b, c, d, e, f]) (.int .i64 2)).run Try.prog w = .ok c w := by kernel_rfl
theorem idx3 (a b c d e f : Value) (w : World) : (Instr.index 41 (.agg #[a, b, c, d, e, f]) (.int .i64 3)).run Try.prog w = .ok d w := by kernel_rfl
theorem idx4 (a b c d e f : Value) (w : World) : (Instr.index 41 (.agg #[a, b, c, d, e, f]) (.int .i64 4)).run Try.prog w = .ok e w := by kernel_rfl
theorem idx5 (a b c d e f : Value) (w : World) : (Instr.index 41 (.agg #[a, b, c, d, e, f]) (.int .i64 5)).run Try.prog w = .ok f w := by kernel_rfl

/-! ### listed -/
set_option maxHeartbeats 1000000 in
theorem listed_0  (w : World) :
    Calls Try.prog 23 #[.agg #[.nilIface, .nilIface, .nilIface, .nilIface, .nilIface, .nilIface]] w
      fun e w' => ∃ v, e = .returned v ∧ w'.ownsRow w.heap.size 30 3 v 0 ([]) ∧ Below w.heap.size w w' := by
  have i0 := idx0
  have i1 := idx1
  have i2 := idx2
  have i3 := idx3
  have i4 := idx4
  have i5 := idx5
  obtain ⟨ia, hi, hz0, hz1, hz2⟩ := info_parts infoArg
  go_enter Try.func23, Try.ntmps23
  go_wp2
  refine wp_loop_rounds 7 ?_
  rw [rounds_succ]
  go_wp2
  rw [rounds_succ]
  go_wp2
  rw [rounds_succ]
  go_wp2
  rw [rounds_succ]
  go_wp2
  rw [rounds_succ]
  go_wp2
  rw [rounds_succ]
  go_wp2
  rw [rounds_succ]
  go_wp2
  go_ret
  exact ⟨_, rfl, World.ownsRow_nil _ _ _ _, by go_grown⟩
set_option maxHeartbeats 1000000 in
theorem listed_2 (a : RV) (ha : a.ok) (b : RV) (hb : b.ok) (w : World) :
    Calls Try.prog 23 #[.agg #[.iface a.ty a.val, .iface b.ty b.val, .nilIface, .nilIface, .nilIface, .nilIface]] w
      fun e w' => ∃ v, e = .returned v ∧ w'.ownsRow w.heap.size 30 3 v 2 (a.row ++ b.row) ∧ Below w.heap.size w w' := by
  have i0 := idx0
  have i1 := idx1
  have i2 := idx2
  have i3 := idx3
  have i4 := idx4
  have i5 := idx5
  obtain ⟨ia, hi, hz0, hz1, hz2⟩ := info_parts infoArg
  go_enter Try.func23, Try.ntmps23
  go_wp2
  refine wp_loop_rounds 7 ?_
  rw [rounds_succ]
  go_wp2_with (first | (go_at_call 25; (with_reducible refine (argOf_any a ha _).mono ?_); rintro e wa ⟨rfl, hba⟩) | (at_builtin; refine wpList_append_own _ rfl _ _ 23 rfl w.heap.size 30 ia zeroArg 3 24 Try.underlying23 hi hz0 hz1 hz2 rfl (by decide) _ 0 _ rfl (World.ownsRow_nil _ _ _ _) _ 1 1 [.int .i64 a.k, .int .i64 a.r, .int .i64 a.n] rfl rfl (cells_three wa _ rfl _ _ _ _) (row_oneCell a) (by unfold maxLen; omega) (by omega) ?_ ?_; rotate_left; intro v0 u0 hown0 hg0 _))
  rotate_left
  · have h1 : Below w.heap.size w wa := ((Below.refl _ _).alloc (Nat.le_refl _) _).trans (hba.mono ((Below.refl _ _).alloc (Nat.le_refl _) _).size)
    have := h1.size
    simp only [World.size_alloc]
    omega
  have hB0 := below_step ((Below.refl _ _).alloc (Nat.le_refl _) _) hba (World.ownsRow_nil _ _ 30 3) hg0
  rw [rounds_succ]
  go_wp2_with (first | (go_at_call 25; (with_reducible refine (argOf_any b hb _).mono ?_); rintro e wb ⟨rfl, hbb⟩) | (at_builtin; refine wpList_append_own _ rfl _ _ 23 rfl w.heap.size 30 ia zeroArg 3 24 Try.underlying23 hi hz0 hz1 hz2 rfl (by decide) _ 1 _ rfl ((own_below hown0 hbb).alloc _) _ 1 1 [.int .i64 b.k, .int .i64 b.r, .int .i64 b.n] rfl rfl (cells_three wb _ rfl _ _ _ _) (row_oneCell b) (by unfold maxLen; omega) (by omega) ?_ ?_; rotate_left; intro v1 u1 hown1 hg1 _))
  rotate_left
  · have h1 : Below w.heap.size w wb := hB0.trans (hbb.mono hB0.size)
    have := h1.size
    simp only [World.size_alloc]
    omega
  have hB1 := below_step hB0 hbb ((own_below hown0 hbb).alloc _) hg1
  rw [rounds_succ]
  go_wp2
  rw [rounds_succ]
  go_wp2
  rw [rounds_succ]
  go_wp2
  rw [rounds_succ]
  go_wp2
  rw [rounds_succ]
  go_wp2
  go_ret
  exact ⟨_, rfl, hown1, hB1⟩
set_option maxHeartbeats 1000000 in
theorem listed_3 (a : RV) (ha : a.ok) (b : RV) (hb : b.ok) (c : RV) (hc : c.ok) (w : World) :
    Calls Try.prog 23 #[.agg #[.iface a.ty a.val, .iface b.ty b.val, .iface c.ty c.val, .nilIface, .nilIface, .nilIface]] w
      fun e w' => ∃ v, e = .returned v ∧ w'.ownsRow w.heap.size 30 3 v 3 (a.row ++ b.row ++ c.row) ∧ Below w.heap.size w w' := by
  have i0 := idx0
  have i1 := idx1
  have i2 := idx2
  have i3 := idx3
  have i4 := idx4
  have i5 := idx5
  obtain ⟨ia, hi, hz0, hz1, hz2⟩ := info_parts infoArg
  go_enter Try.func23, Try.ntmps23
  go_wp2
  refine wp_loop_rounds 7 ?_
  rw [rounds_succ]
  go_wp2_with (first | (go_at_call 25; (with_reducible refine (argOf_any a ha _).mono ?_); rintro e wa ⟨rfl, hba⟩) | (at_builtin; refine wpList_append_own _ rfl _ _ 23 rfl w.heap.size 30 ia zeroArg 3 24 Try.underlying23 hi hz0 hz1 hz2 rfl (by decide) _ 0 _ rfl (World.ownsRow_nil _ _ _ _) _ 1 1 [.int .i64 a.k, .int .i64 a.r, .int .i64 a.n] rfl rfl (cells_three wa _ rfl _ _ _ _) (row_oneCell a) (by unfold maxLen; omega) (by omega) ?_ ?_; rotate_left; intro v0 u0 hown0 hg0 _))
  rotate_left
  · have h1 : Below w.heap.size w wa := ((Below.refl _ _).alloc (Nat.le_refl _) _).trans (hba.mono ((Below.refl _ _).alloc (Nat.le_refl _) _).size)
    have := h1.size
    simp only [World.size_alloc]
    omega
  have hB0 := below_step ((Below.refl _ _).alloc (Nat.le_refl _) _) hba (World.ownsRow_nil _ _ 30 3) hg0
  rw [rounds_succ]
  go_wp2_with (first | (go_at_call 25; (with_reducible refine (argOf_any b hb _).mono ?_); rintro e wb ⟨rfl, hbb⟩) | (at_builtin; refine wpList_append_own _ rfl _ _ 23 rfl w.heap.size 30 ia zeroArg 3 24 Try.underlying23 hi hz0 hz1 hz2 rfl (by decide) _ 1 _ rfl ((own_below hown0 hbb).alloc _) _ 1 1 [.int .i64 b.k, .int .i64 b.r, .int .i64 b.n] rfl rfl (cells_three wb _ rfl _ _ _ _) (row_oneCell b) (by unfold maxLen; omega) (by omega) ?_ ?_; rotate_left; intro v1 u1 hown1 hg1 _))
  rotate_left
  · have h1 : Below w.heap.size w wb := hB0.trans (hbb.mono hB0.size)
    have := h1.size
    simp only [World.size_alloc]
    omega
  have hB1 := below_step hB0 hbb ((own_below hown0 hbb).alloc _) hg1
  rw [rounds_succ]
  go_wp2_with (first | (go_at_call 25; (with_reducible refine (argOf_any c hc _).mono ?_); rintro e wc ⟨rfl, hbc⟩) | (at_builtin; refine wpList_append_own _ rfl _ _ 23 rfl w.heap.size 30 ia zeroArg 3 24 Try.underlying23 hi hz0 hz1 hz2 rfl (by decide) _ 2 _ rfl ((own_below hown1 hbc).alloc _) _ 1 1 [.int .i64 c.k, .int .i64 c.r, .int .i64 c.n] rfl rfl (cells_three wc _ rfl _ _ _ _) (row_oneCell c) (by unfold maxLen; omega) (by omega) ?_ ?_; rotate_left; intro v2 u2 hown2 hg2 _))
  rotate_left
  · have h1 : Below w.heap.size w wc := hB1.trans (hbc.mono hB1.size)
    have := h1.size
    simp only [World.size_alloc]
    omega
  have hB2 := below_step hB1 hbc ((own_below hown1 hbc).alloc _) hg2
  rw [rounds_succ]
  go_wp2
  rw [rounds_succ]
  go_wp2
  rw [rounds_succ]
  go_wp2
  rw [rounds_succ]
  go_wp2
  go_ret
  exact ⟨_, rfl, hown2, hB2⟩

/-! ### Convert -/
set_option maxHeartbeats 2000000 in
theorem convert_RS_2 (r0 : Int) (r0a : 0 ≤ r0) (r0b : r0 ≤ 65535) (n1 : Int) (n1a : -2147483648 ≤ n1) (n1b : n1 ≤ 2147483647) (op op' : Int) (o0 : 0 ≤ op) (o1 : op ≤ 65535) (o2 : 0 ≤ op') (o3 : op' ≤ 65535) (a : RV) (ha : a.ok) (b : RV) (hb : b.ok) (g cap : Nat) (w : World) (hg : g < w.heap.size) (c0 : w.cell? ⟨g, 0, none⟩ = some (.int .i64 1)) (c1 : w.cell? ⟨g, 1, none⟩ = some (.int .i64 r0)) (c2 : w.cell? ⟨g, 2, none⟩ = some (.int .i64 0)) (c3 : w.cell? ⟨g, 3, none⟩ = some (.int .i64 4)) (c4 : w.cell? ⟨g, 4, none⟩ = some (.int .i64 0)) (c5 : w.cell? ⟨g, 5, none⟩ = some (.int .i64 n1))
    (H : Hid (∀ W : World, Calls Try.prog 22 #[.int .u16 op, .agg #[.iface 52 (.int .u16 r0), .iface 54 (.agg #[.int .i32 n1, .bool true, .int .u8 12]), .nilIface, .nilIface, .nilIface, .nilIface]] W fun e W' => e = .returned (.tuple #[.int .u16 op', .agg #[.iface a.ty a.val, .iface b.ty b.val, .nilIface, .nilIface, .nilIface, .nilIface]]) ∧ Below W.heap.size W W')) :
    Calls Try.prog 7 #[.int .i64 op, .slice (some ⟨g, 0, none⟩) 2 cap] w fun e w' => ∃ v, e = .returned (.tuple #[.int .i64 op', v]) ∧ w'.ownsRow w.heap.size 30 3 v 2 (a.row ++ b.row) ∧ Below w.heap.size w w' := by
  have hg0 : g < w.heap.size + 1 := by omega
  have hg1 : g < w.heap.size + 1 + 1 := by omega
  go_enter Try.func7, Try.ntmps7
  go_wp2
  refine wp_loop_rounds 3 ?_
  rw [rounds_succ]
  go_wp2
  rw [rounds_succ]
  go_wp2
  rw [rounds_succ]
  go_wp2_with (first | (go_at_call 22; refine (H.out _).mono ?_; rintro e wz ⟨rfl, hbz⟩) | (go_at_call 23; (with_reducible refine (listed_2 a ha b hb _).mono ?_); rintro e wl ⟨v, rfl, hown, hbl⟩))
  go_ret2
  have hB1 := below_call (B := w.heap.size) (by go_grown) hbz (Nat.le_refl _)
  have hB2 := hB1.alloc hB1.size (.cells #[.iface a.ty a.val, .iface b.ty b.val, .nilIface, .nilIface, .nilIface, .nilIface] 41)
  exact ⟨v, rfl, own_base hown hB2.size, below_call (B := w.heap.size) hB2 hbl (Nat.le_refl _)⟩
set_option maxHeartbeats 2000000 in
theorem convert_E_0 (op op' : Int) (o0 : 0 ≤ op) (o1 : op ≤ 65535) (o2 : 0 ≤ op') (o3 : op' ≤ 65535) (g cap : Nat) (w : World) (hg : g < w.heap.size)
    (H : Hid (∀ W : World, Calls Try.prog 22 #[.int .u16 op, .agg #[.nilIface, .nilIface, .nilIface, .nilIface, .nilIface, .nilIface]] W fun e W' => e = .returned (.tuple #[.int .u16 op', .agg #[.nilIface, .nilIface, .nilIface, .nilIface, .nilIface, .nilIface]]) ∧ Below W.heap.size W W')) :
    Calls Try.prog 7 #[.int .i64 op, .slice (some ⟨g, 0, none⟩) 0 cap] w fun e w' => ∃ v, e = .returned (.tuple #[.int .i64 op', v]) ∧ w'.ownsRow w.heap.size 30 3 v 0 ([]) ∧ Below w.heap.size w w' := by
  have hg0 : g < w.heap.size + 1 := by omega
  have hg1 : g < w.heap.size + 1 + 1 := by omega
  go_enter Try.func7, Try.ntmps7
  go_wp2
  refine wp_loop_rounds 1 ?_
  rw [rounds_succ]
  go_wp2_with (first | (go_at_call 22; refine (H.out _).mono ?_; rintro e wz ⟨rfl, hbz⟩) | (go_at_call 23; (with_reducible refine (listed_0 _).mono ?_); rintro e wl ⟨v, rfl, hown, hbl⟩))
  go_ret2
  have hB1 := below_call (B := w.heap.size) (by go_grown) hbz (Nat.le_refl _)
  have hB2 := hB1.alloc hB1.size (.cells #[.nilIface, .nilIface, .nilIface, .nilIface, .nilIface, .nilIface] 41)
  exact ⟨v, rfl, own_base hown hB2.size, below_call (B := w.heap.size) hB2 hbl (Nat.le_refl _)⟩

/-! ### There, Like, LikeAll -/
theorem k_ne (a : RV) : (a.k == 0) = false := by cases a <;> rfl
theorem there_0 (g cap : Nat) (w : World) :
    Calls Try.prog 20 #[.slice (some ⟨g, 0, none⟩) 0 cap] w fun e w' => e = .returned (.bool true) ∧ w' = w := by
  go_enter Try.func20, Try.ntmps20
  go_wp2
  refine wp_loop_rounds 1 ?_
  rw [rounds_succ]
  go_wp2
  go_ret
  exact ⟨rfl, rfl⟩
theorem there_2 (a : RV) (b : RV) (g cap : Nat) (w : World) (c0 : w.cell? ⟨g, 0, none⟩ = some (.int .i64 a.k)) (c1 : w.cell? ⟨g, 1, none⟩ = some (.int .i64 a.r)) (c2 : w.cell? ⟨g, 2, none⟩ = some (.int .i64 a.n)) (c3 : w.cell? ⟨g, 3, none⟩ = some (.int .i64 b.k)) (c4 : w.cell? ⟨g, 4, none⟩ = some (.int .i64 b.r)) (c5 : w.cell? ⟨g, 5, none⟩ = some (.int .i64 b.n)) :
    Calls Try.prog 20 #[.slice (some ⟨g, 0, none⟩) 2 cap] w fun e w' => e = .returned (.bool true) ∧ w' = w := by
  have ka := k_ne a
  have kb := k_ne b
  go_enter Try.func20, Try.ntmps20
  go_wp2
  refine wp_loop_rounds 3 ?_
  rw [rounds_succ]
  go_wp2
  rw [rounds_succ]
  go_wp2
  rw [rounds_succ]
  go_wp2
  go_ret
  exact ⟨rfl, rfl⟩
theorem like_same (a : RV) (w : World) : Calls Try.prog 9 #[.agg #[.int .i64 a.k, .int .i64 a.r, .int .i64 a.n], .agg #[.int .i64 a.k, .int .i64 a.r, .int .i64 a.n]] w fun e w' => e = .returned (.bool true) ∧ Below w.heap.size w w' := by
  cases a with
  | reg r =>
    simp only [RV.k, RV.r, RV.n]
    go_enter Try.func9, Try.ntmps9
    go_wp2
    go_ret
    exact ⟨ret_bool (by simp), by go_grown⟩
  | offs r n =>
    simp only [RV.k, RV.r, RV.n]
    go_enter Try.func9, Try.ntmps9
    go_wp2
    go_ret
    exact ⟨ret_bool (by simp), by go_grown⟩
  | simm n k =>
    simp only [RV.k, RV.r, RV.n]
    go_enter Try.func9, Try.ntmps9
    go_wp2
    go_ret
    exact ⟨ret_bool (by simp), by go_grown⟩
  | uimm n d =>
    simp only [RV.k, RV.r, RV.n]
    go_enter Try.func9, Try.ntmps9
    go_wp2
    go_ret
    exact ⟨ret_bool (by simp), by go_grown⟩
set_option maxHeartbeats 1000000 in
theorem likeall_0 (g cap g2 cap2 : Nat) (w : World) (hg : g < w.heap.size) (hg2 : g2 < w.heap.size) :
    Calls Try.prog 8 #[.slice (some ⟨g, 0, none⟩) 0 cap, .slice (some ⟨g2, 0, none⟩) 0 cap2] w fun e w' => e = .returned (.bool true) ∧ Below w.heap.size w w' := by
  go_enter Try.func8, Try.ntmps8
  go_wp2
  refine wp_loop_rounds 1 ?_
  have hB0 := Below.refl w.heap.size w
  rw [rounds_succ]
  go_wp2
  go_ret
  exact ⟨rfl, hB0⟩
set_option maxHeartbeats 1000000 in
theorem likeall_2 (a : RV) (b : RV) (g cap g2 cap2 : Nat) (w : World) (hg : g < w.heap.size) (hg2 : g2 < w.heap.size) (c0 : w.cell? ⟨g, 0, none⟩ = some (.int .i64 a.k)) (c1 : w.cell? ⟨g, 1, none⟩ = some (.int .i64 a.r)) (c2 : w.cell? ⟨g, 2, none⟩ = some (.int .i64 a.n)) (c3 : w.cell? ⟨g, 3, none⟩ = some (.int .i64 b.k)) (c4 : w.cell? ⟨g, 4, none⟩ = some (.int .i64 b.r)) (c5 : w.cell? ⟨g, 5, none⟩ = some (.int .i64 b.n)) (d0 : w.cell? ⟨g2, 0, none⟩ = some (.int .i64 a.k)) (d1 : w.cell? ⟨g2, 1, none⟩ = some (.int .i64 a.r)) (d2 : w.cell? ⟨g2, 2, none⟩ = some (.int .i64 a.n)) (d3 : w.cell? ⟨g2, 3, none⟩ = some (.int .i64 b.k)) (d4 : w.cell? ⟨g2, 4, none⟩ = some (.int .i64 b.r)) (d5 : w.cell? ⟨g2, 5, none⟩ = some (.int .i64 b.n)) :
    Calls Try.prog 8 #[.slice (some ⟨g, 0, none⟩) 2 cap, .slice (some ⟨g2, 0, none⟩) 2 cap2] w fun e w' => e = .returned (.bool true) ∧ Below w.heap.size w w' := by
  go_enter Try.func8, Try.ntmps8
  go_wp2
  refine wp_loop_rounds 3 ?_
  have hB0 := Below.refl w.heap.size w
  rw [rounds_succ]
  go_wp2
  go_still_tail 8, (by kernel_rfl)
  go_wp2_with (go_at_call 9; (with_reducible refine (like_same a _).mono ?_); rintro e wa ⟨rfl, hba⟩)
  have hB1 := below_call (B := w.heap.size) hB0.drew hba (Nat.le_refl _)
  have p3 := (hB1.cell (p := ⟨g, 3, none⟩) hg).trans c3
  have q3 := (hB1.cell (p := ⟨g2, 3, none⟩) hg2).trans d3
  have p4 := (hB1.cell (p := ⟨g, 4, none⟩) hg).trans c4
  have q4 := (hB1.cell (p := ⟨g2, 4, none⟩) hg2).trans d4
  have p5 := (hB1.cell (p := ⟨g, 5, none⟩) hg).trans c5
  have q5 := (hB1.cell (p := ⟨g2, 5, none⟩) hg2).trans d5
  rw [rounds_succ]
  go_wp2
  go_still_tail 8, (by kernel_rfl)
  go_wp2_with (go_at_call 9; (with_reducible refine (like_same b _).mono ?_); rintro e wb ⟨rfl, hbb⟩)
  have hB2 := below_call (B := w.heap.size) hB1.drew hbb (Nat.le_refl _)
  rw [rounds_succ]
  go_wp2
  go_ret
  exact ⟨rfl, hB2⟩
theorem likeall_new_2 (a : RV) (b : RV) (g cap k : Nat) (w : World) (hk : k = w.heap.size) (hg : g < w.heap.size) (c0 : w.cell? ⟨g, 0, none⟩ = some (.int .i64 a.k)) (c1 : w.cell? ⟨g, 1, none⟩ = some (.int .i64 a.r)) (c2 : w.cell? ⟨g, 2, none⟩ = some (.int .i64 a.n)) (c3 : w.cell? ⟨g, 3, none⟩ = some (.int .i64 b.k)) (c4 : w.cell? ⟨g, 4, none⟩ = some (.int .i64 b.r)) (c5 : w.cell? ⟨g, 5, none⟩ = some (.int .i64 b.n)) :
    Calls Try.prog 8 #[.slice (some ⟨g, 0, none⟩) 2 cap, .slice (some ⟨k, 0, none⟩) 2 2] (w.alloc (.cells #[.int .i64 a.k, .int .i64 a.r, .int .i64 a.n, .int .i64 b.k, .int .i64 b.r, .int .i64 b.n] 30)) fun e w' => e = .returned (.bool true) ∧ Below w.heap.size w w' := by
  subst hk
  refine (likeall_2 a b g cap w.heap.size 2 _ (by simp only [World.size_alloc]; omega) (by simp only [World.size_alloc]; omega) ((World.cell?_alloc_past _ _ _ hg).trans c0) ((World.cell?_alloc_past _ _ _ hg).trans c1) ((World.cell?_alloc_past _ _ _ hg).trans c2) ((World.cell?_alloc_past _ _ _ hg).trans c3) ((World.cell?_alloc_past _ _ _ hg).trans c4) ((World.cell?_alloc_past _ _ _ hg).trans c5) (by rw [World.cell?_alloc_at _ _ _ _ rfl]; rfl) (by rw [World.cell?_alloc_at _ _ _ _ rfl]; rfl) (by rw [World.cell?_alloc_at _ _ _ _ rfl]; rfl) (by rw [World.cell?_alloc_at _ _ _ _ rfl]; rfl) (by rw [World.cell?_alloc_at _ _ _ _ rfl]; rfl) (by rw [World.cell?_alloc_at _ _ _ _ rfl]; rfl)).mono ?_
  rintro e w' ⟨rfl, hb⟩
  exact ⟨rfl, below_call ((Below.refl _ _).alloc (Nat.le_refl _) _) hb (Nat.le_refl _)⟩
end Go.Proofs.Ytclcdbigdmabiaa.Conv
