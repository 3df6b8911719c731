/-
  The statement 'FnOffsetText' is proved (its tied card): for all numbers reg, n and width and either value of decimal the law returns true and its arguments read as before. Conditions: none beyond the row's own: the listed tables of the library read as the program's own initialisers lay them.
-/
import Derived.Test.YtclcdbigdmabiaaDoorRows
import Derived.Test.YtclcdbigdmabiaaDoorShelf
import Derived.Test.YtclcdbigdmabiaaDoorHex
import Derived.WalkKit
import Derived.WalkSpells
import Derived.ProofKit
import Derived.Handy
import Derived.LaidMore
import Derived.OpenShut
import Derived.Stop.Joined
import Derived.Stop.LaidErr
import Derived.Lib.LaidTab
import Derived.Lib.SmallJoins
import Derived.SevenTiedAt
import Derived.Deep.RegionHeld3
import Derived.Test.YtclcdbigdmabiaaDoorTie
import Derived.Test.YtclcdbigdmabiaaDoorCards

namespace Go.Proofs.YtclcdbigdmabiaaDoor.fnOffsetText
open Go.ChangeShapes Go.WideShapes Go.ChangeAt Go.RowKit
open Go.Proofs.YtclcdbigdmabiaaDoor.hexText (hexS fi13)
set_option linter.unusedVariables false
set_option maxRecDepth 100000
theorem hide {p : Prop} (h : p) : Hid p := h
theorem ret_bool {b c : Bool} (h : b = c) : Ending.returned (.bool b) = .returned (.bool c) := by rw [h]

/-! ### the two tables -/
def C15 (w : World) : Prop := w.cell? ⟨2, 15, none⟩ = some (.int .u8 4)
def TabOk (w : World) : Prop := Lib.TabIs Tryd.prog w "internal/strconv.uint64pow10" .u64 Lib.pow10Tab
theorem tabOk_alloc {w : World} (h : TabOk w) (o : Obj) : TabOk (w.alloc o) := Lib.tabIs_alloc h o
theorem c15_alloc {w : World} (h : C15 w) (o : Obj) : C15 (w.alloc o) := Lib.cell?_alloc_some o h
theorem c15_below {w w' : World} (h : C15 w) (hB : Below w.heap.size w w') : C15 w' := by
  unfold C15 at *
  rw [hB.cell (World.block_lt_of_cell? _ _ h)]; exact h
theorem tabOk_below {w w' : World} (h : TabOk w) (hB : Below w.heap.size w w') : TabOk w' := by
  unfold TabOk Lib.TabIs World.var? at *
  cases hg : Tryd.prog.globalNamed "internal/strconv.uint64pow10" with
  | none => simp [hg] at h
  | some g =>
    simp only [hg, Option.bind_some] at h ⊢
    have hlt : g < w.heap.size := by
      rcases Nat.lt_or_ge g w.heap.size with h' | h'
      · exact h'
      · rw [Array.getElem?_eq_none h'] at h; simp at h
    rw [hB.block g hlt]
    exact h

/-! ### decimal text -/
theorem len_dec : ∀ (u : Nat), (Lib.decDigits u).length ≤ u + 1 := by
  intro u
  induction u using Nat.strongRecOn with
  | ind u ih =>
    rw [Lib.decDigits]
    split
    · simp
    · have := ih (u / 10) (by omega)
      simp only [List.length_append, List.length_cons, List.length_nil]
      omega
theorem pos_dec : ∀ (u : Nat), 1 ≤ (Lib.decDigits u).length := by
  intro u
  rw [show Lib.decDigits u = _ from Lib.decDigits.eq_def u]
  split
  · simp
  · simp only [List.length_append, List.length_cons, List.length_nil]; omega
def intT (n : Int) : ByteArray := ⟨(Lib.itoa n).toArray⟩
theorem intT_len (n : Int) : 1 ≤ (intT n).size ∧ (intT n).size ≤ n.natAbs + 2 := by
  have : (intT n).size = (Lib.itoa n).length := by unfold intT; simp [ByteArray.size]
  rw [this]
  unfold Lib.itoa
  have h1 := len_dec n.natAbs
  have h2 := pos_dec n.natAbs
  have h3 := len_dec n.toNat
  have h4 := pos_dec n.toNat
  split
  · simp only [List.length_cons]; omega
  · omega
theorem fmt (n : Int) (h0 : -2147483648 ≤ n) (h1 : n ≤ 2147483647) (w : World) (htab : TabOk w) :
    Calls Tryd.prog 13 #[.int .i64 n, .int .i64 10] w fun e w' => ∃ s : ByteArray, Hid (s = intT n) ∧ e = .returned (.string s) ∧ Below w.heap.size w w' := by
  refine (Tryd.strconv_FormatInt_10 n (by omega) (by omega) w htab).mono ?_
  rintro e w' ⟨rfl, k, os, rfl⟩
  exact ⟨_, hide rfl, rfl, rfl, rfl, rfl, by simp [Sort.grow, World.drewN], fun k hk => by simp [Sort.grow, World.drewN, Array.getElem?_append, hk]⟩

/-! ### text at base 16 -/
def hexT (n : Int) : ByteArray := if n < 0 then ⟨#[45, 48, 120]⟩ ++ hexS (-n) else ⟨#[48, 120]⟩ ++ hexS n
theorem hex14 (n : Int) (h0 : -2147483648 ≤ n) (h1 : n ≤ 2147483647) (w : World) (c : C15 w) :
    Calls Tryd.prog 14 #[.int .i64 n] w fun e w' => ∃ s : ByteArray, 1 ≤ s.size ∧ s.size ≤ 2147483650 ∧ Hid (s = hexT n) ∧ e = .returned (.string s) ∧ Below w.heap.size w w' := by
  have c' : w.cell? ⟨2, 15, none⟩ = some (.int .u8 4) := c
  by_cases hn : n < 0
  · go_enter Tryd.func14, Tryd.ntmps14
    go_wp2_with (first | (go_at_call 13; (with_reducible refine (fi13 (-n) (by omega) (by omega) _ c').mono ?_); rintro e w' ⟨s, hs1, hs2, HS, rfl, hB⟩))
    go_ret
    refine ⟨_, ?_, ?_, hide ?_, rfl, hB⟩
    · simp; omega
    · rw [ByteArray.size_append]
      have : (⟨#[45, 48, 120]⟩ : ByteArray).size = 3 := rfl
      omega
    · unfold Hid at HS
      rw [HS]; unfold hexT; rw [if_pos hn]
  · go_enter Tryd.func14, Tryd.ntmps14
    go_wp2_with (first | (go_at_call 13; (with_reducible refine (fi13 n (by omega) (by omega) _ c').mono ?_); rintro e w' ⟨s, hs1, hs2, HS, rfl, hB⟩))
    go_ret
    refine ⟨_, ?_, ?_, hide ?_, rfl, hB⟩
    · simp; omega
    · rw [ByteArray.size_append]
      have : (⟨#[48, 120]⟩ : ByteArray).size = 2 := rfl
      omega
    · unfold Hid at HS
      rw [HS]; unfold hexT; rw [if_neg (by omega)]

/-! ### String of Simm -/
def numT (n : Int) (d : Bool) : ByteArray := if d then intT n else hexT n
theorem simm10 (n : Int) (h0 : -2147483648 ≤ n) (h1 : n ≤ 2147483647) (d : Bool) (b : Int) (w : World) (htab : TabOk w) (c : C15 w) :
    Calls Tryd.prog 10 #[.agg #[.int .i32 n, .bool d, .int .u8 b]] w fun e w' => ∃ s : ByteArray, 1 ≤ s.size ∧ s.size ≤ 2147483650 ∧ Hid (s = numT n d) ∧ e = .returned (.string s) ∧ Below w.heap.size w w' := by
  cases d with
  | true =>
    go_enter Tryd.func10, Tryd.ntmps10
    go_wp2_with (first | (go_at_call 13; (with_reducible refine (fmt n h0 h1 _ (tabOk_alloc htab _)).mono ?_); rintro e w' ⟨s, HS, rfl, hB⟩))
    go_ret
    have hl := intT_len n
    have e : s = intT n := HS
    exact ⟨s, by rw [e]; exact hl.1, by rw [e]; omega, hide (by rw [e]; rfl), rfl, ((Below.refl _ w).alloc (Nat.le_refl _) _).trans (hB.mono (by simp))⟩
  | false =>
    go_enter Tryd.func10, Tryd.ntmps10
    go_wp2_with (first | (go_at_call 14; (with_reducible refine (hex14 n h0 h1 _ (c15_alloc c _)).mono ?_); rintro e w' ⟨s, hs1, hs2, HS, rfl, hB⟩))
    go_ret
    have e : s = hexT n := HS
    exact ⟨s, hs1, hs2, hide (by rw [e]; rfl), rfl, ((Below.refl _ w).alloc (Nat.le_refl _) _).trans (hB.mono (by simp))⟩
theorem simm (n : Int) (h0 : -2147483648 ≤ n) (h1 : n ≤ 2147483647) (d : Bool) (b : Int) (hb1 : 1 ≤ b) (hb2 : b ≤ 32) (w : World) (htab : TabOk w) (c : C15 w) :
    Calls Tryd.prog 6 #[.int .i64 n, .bool d, .int .i64 b] w fun e w' => ∃ s : ByteArray, 1 ≤ s.size ∧ s.size ≤ 2147483650 ∧ Hid (s = numT n d) ∧ e = .returned (.string s) ∧ Below w.heap.size w w' := by
  go_enter Tryd.func6, Tryd.ntmps6
  go_wp2_with (first | (go_at_call 10; (with_reducible refine (simm10 n h0 h1 d b _ htab c).mono ?_); rintro e w' ⟨s, hs1, hs2, HS, rfl, hB⟩))
  go_ret
  exact ⟨s, hs1, hs2, HS, rfl, hB⟩

/-! ### String of Reg -/
def dig2 (i : Nat) : List UInt8 := if i < 10 then [UInt8.ofNat (48 + i)] else [UInt8.ofNat (48 + i / 10), UInt8.ofNat (48 + i % 10)]
theorem dig2_eq (i : Nat) (h : i < 100) : Lib.decDigits i = dig2 i := by
  unfold dig2
  split
  · rename_i h1; exact Lib.decDigits_one h1
  · rename_i h1; exact Lib.decDigits_two h1 h
theorem dig2_len (i : Nat) : (dig2 i).length ≤ 2 := by unfold dig2; split <;> simp
def regT (r : Nat) : ByteArray := ⟨#[120]⟩ ++ ⟨(dig2 r).toArray⟩
theorem fmt_small (i : Nat) (h : i < 100) (w : World) :
    Calls Tryd.prog 13 #[.int .i64 i, .int .i64 10] w fun e w' => ∃ s : ByteArray, s.size ≤ 2 ∧ Hid (s = ⟨(dig2 i).toArray⟩) ∧ e = .returned (.string s) ∧ w = w' := by
  refine (Tryd.strconv_FormatInt_10_small i h w).mono ?_
  rintro e w' ⟨rfl, rfl⟩
  refine ⟨⟨(dig2 i).toArray⟩, ?_, hide rfl, by rw [dig2_eq i h], rfl⟩
  show (dig2 i).toArray.size ≤ 2
  simpa using dig2_len i
theorem reg11 (r : Nat) (hr : r ≤ 31) (w : World) :
    Calls Tryd.prog 11 #[.int .u16 r] w fun e w' => ∃ s : ByteArray, 1 ≤ s.size ∧ s.size ≤ 3 ∧ Hid (s = regT r) ∧ e = .returned (.string s) ∧ w = w' := by
  go_enter Tryd.func11, Tryd.ntmps11
  go_wp2_with (first | (go_at_call 13; refine (fmt_small r (by omega) _).mono ?_; rintro e w' ⟨s, hs, HS, rfl, rfl⟩))
  go_ret
  have h1 : (⟨#[120]⟩ : ByteArray).size = 1 := rfl
  refine ⟨_, ?_, ?_, hide ?_, rfl, rfl⟩
  · rw [ByteArray.size_append]; omega
  · rw [ByteArray.size_append]; omega
  · unfold Hid at HS
    rw [HS]; rfl
theorem reg8 (r : Nat) (hr : r ≤ 31) (w : World) :
    Calls Tryd.prog 8 #[.int .i64 r] w fun e w' => ∃ s : ByteArray, 1 ≤ s.size ∧ s.size ≤ 3 ∧ Hid (s = regT r) ∧ e = .returned (.string s) ∧ w = w' := by
  go_enter Tryd.func8, Tryd.ntmps8
  go_wp2_with (first | (go_at_call 11; (with_reducible refine (reg11 r hr _).mono ?_); rintro e w' ⟨s, hs1, hs2, HS, rfl, rfl⟩))
  go_ret
  exact ⟨s, hs1, hs2, HS, rfl, rfl⟩

/-! ### String of RegOffset -/
def offT (r : Nat) (n : Int) (d : Bool) : ByteArray := ((numT n d ++ ⟨#[40]⟩) ++ regT r) ++ ⟨#[41]⟩
theorem simm10r (n : Int) (h0 : -2147483648 ≤ n) (h1 : n ≤ 2147483647) (d : Bool) (b : Int) (r : Int) (g : Nat) (w : World) (hg : g < w.heap.size) (p0 : w.cell? ⟨g, 0, none⟩ = some (.int .u16 r)) (p1 : w.cell? ⟨g, 1, none⟩ = some (.int .i32 n)) (p2 : w.cell? ⟨g, 2, none⟩ = some (.bool d)) (p3 : w.cell? ⟨g, 3, none⟩ = some (.int .u8 b)) (c : w.cell? ⟨2, 15, none⟩ = some (.int .u8 4)) (htab : TabOk w) :
    Calls Tryd.prog 10 #[.agg #[.int .i32 n, .bool d, .int .u8 b]] w fun e w' => ∃ s : ByteArray, 1 ≤ s.size ∧ s.size ≤ 2147483650 ∧ Hid (s = numT n d) ∧ e = .returned (.string s) ∧ Below w.heap.size w w' ∧ w'.cell? ⟨g, 0, none⟩ = some (.int .u16 r) ∧ w'.cell? ⟨g, 1, none⟩ = some (.int .i32 n) ∧ w'.cell? ⟨g, 2, none⟩ = some (.bool d) ∧ w'.cell? ⟨g, 3, none⟩ = some (.int .u8 b) ∧ w'.cell? ⟨2, 15, none⟩ = some (.int .u8 4) ∧ TabOk w' := by
  refine (simm10 n h0 h1 d b w htab c).mono ?_
  rintro e w' ⟨s, hs1, hs2, HS, rfl, hb⟩
  exact ⟨s, hs1, hs2, HS, rfl, hb, (hb.cell (p := ⟨g, 0, none⟩) hg).trans p0, (hb.cell (p := ⟨g, 1, none⟩) hg).trans p1, (hb.cell (p := ⟨g, 2, none⟩) hg).trans p2, (hb.cell (p := ⟨g, 3, none⟩) hg).trans p3, c15_below c hb, tabOk_below htab hb⟩
theorem off12 (r : Nat) (hr : r ≤ 31) (n : Int) (h0 : -2147483648 ≤ n) (h1 : n ≤ 2147483647) (d : Bool) (b : Int) (w : World) (htab : TabOk w) (c : C15 w) :
    Calls Tryd.prog 12 #[.agg #[.int .u16 r, .int .i32 n, .bool d, .int .u8 b]] w fun e w' => ∃ s : ByteArray, s.size ≤ 2147483660 ∧ Hid (s = offT r n d) ∧ e = .returned (.string s) ∧ Below w.heap.size w w' := by
  have td : ∀ v : World, TabOk v.drew ↔ TabOk v := fun _ => Iff.rfl
  have ta : ∀ (v : World) (o : Obj), TabOk v → TabOk (v.alloc o) := fun _ o h => tabOk_alloc h o
  have c' : w.cell? ⟨2, 15, none⟩ = some (.int .u8 4) := c
  go_enter Tryd.func12, Tryd.ntmps12
  go_wp2
  go_region_held3 (fun w' => w'.cell? ⟨w.heap.size, 0, none⟩ = some (.int .u16 r) ∧ w'.cell? ⟨w.heap.size, 1, none⟩ = some (.int .i32 n) ∧ w'.cell? ⟨w.heap.size, 2, none⟩ = some (.bool d) ∧ w'.cell? ⟨w.heap.size, 3, none⟩ = some (.int .u8 b) ∧ w'.cell? ⟨2, 15, none⟩ = some (.int .u8 4) ∧ TabOk w') (go_keep) (first | (go_at_call 10; apply Calls.mono; (focus ((apply simm10r n h0 h1 d b r w.heap.size) <;> first | (go_keep; done) | (go_size; done))); rintro e w3 ⟨s, hs1, hs2, HS, rfl, hB, k0, k1, k2, k3, k4, k5⟩; have q1 : ¬ 9223372036854775807 < s.size + 1 := (by omega)) | (go_at_call 11; (with_reducible refine (reg11 r hr _).mono ?_); rintro e w' ⟨t, ht1, ht2, HT, rfl, rfl⟩; have q2 : ¬ 9223372036854775807 < s.size + 1 + t.size := (by omega); have q3 : ¬ 9223372036854775807 < s.size + 1 + t.size + 1 := (by omega)))
  all_goals go_wp2
  all_goals go_ret
  all_goals
    refine ⟨_, ?_, hide ?_, rfl, ?_⟩
    · have h1 : (⟨#[40]⟩ : ByteArray).size = 1 := rfl
      have h2 : (⟨#[41]⟩ : ByteArray).size = 1 := rfl
      rw [ByteArray.size_append, ByteArray.size_append, ByteArray.size_append]
      omega
    · unfold Hid at HS HT
      rw [HS, HT]; rfl
    · exact (((Below.refl _ w).alloc (Nat.le_refl _) _).drew).trans (hB.mono (by simp))
theorem off9 (r : Nat) (hr : r ≤ 31) (n : Int) (h0 : -2147483648 ≤ n) (h1 : n ≤ 2147483647) (d : Bool) (b : Int) (hb1 : 1 ≤ b) (hb2 : b ≤ 32) (w : World) (htab : TabOk w) (c : C15 w) :
    Calls Tryd.prog 9 #[.int .i64 r, .int .i64 n, .bool d, .int .i64 b] w fun e w' => ∃ s : ByteArray, s.size ≤ 2147483660 ∧ Hid (s = offT r n d) ∧ e = .returned (.string s) ∧ Below w.heap.size w w' := by
  go_enter Tryd.func9, Tryd.ntmps9
  go_wp2_with (first | (go_at_call 12; (with_reducible refine (off12 r hr n h0 h1 d b _ htab c).mono ?_); rintro e w' ⟨s, hs1, HS, rfl, hB⟩))
  go_ret
  exact ⟨s, hs1, HS, rfl, hB⟩

/-! ### the law -/
theorem law_within (r : Nat) (hr : r ≤ 31) (n : Int) (h0 : -2147483648 ≤ n) (h1 : n ≤ 2147483647) (d : Bool) (b : Int) (hb1 : 1 ≤ b) (hb2 : b ≤ 32) (w : World) (htab : TabOk w) (c : C15 w) :
    Calls Tryd.prog 5 #[.int .i64 r, .int .i64 n, .bool d, .int .i64 b] w fun e w' => e = .returned (.bool true) ∧ Below w.heap.size w w' := by
  go_enter Tryd.func5, Tryd.ntmps5
  go_wp2_with (first | (go_at_call 6; (with_reducible refine (simm n h0 h1 d b hb1 hb2 _ htab c).mono ?_); rintro e w1 ⟨s, hs1, hs2, HS, rfl, hB⟩) | (go_at_call 8; (with_reducible refine (reg8 r hr _).mono ?_); rintro e w' ⟨t, ht1, ht2, HT, rfl, rfl⟩) | (go_at_call 9; (with_reducible refine (off9 r hr n h0 h1 d b hb1 hb2 _ (tabOk_below htab hB) (c15_below c hB)).mono ?_); rintro e w2 ⟨u, hu, HU, rfl, hB2⟩))
  go_ret
  refine ⟨ret_bool ?_, hB.trans (hB2.mono hB.size)⟩
  have e : u = (s ++ ⟨#[40]⟩) ++ t ++ ⟨#[41]⟩ := by
    unfold Hid at HS HT HU
    rw [HS, HT, HU]; rfl
  rw [e]; simp
theorem walk (a0 a1 : Int) (a2 : Bool) (a3 : Int) (w : World) (htab : TabOk w) (c : C15 w) :
    Calls Tryd.prog 5 #[.int .i64 a0, .int .i64 a1, .bool a2, .int .i64 a3] w fun e w' => e = .returned (.bool true) ∧ Below w.heap.size w w' := by
  by_cases h : 0 ≤ a0 ∧ a0 ≤ 31 ∧ -2147483648 ≤ a1 ∧ a1 ≤ 2147483647 ∧ 1 ≤ a3 ∧ a3 ≤ 32
  · obtain ⟨h1, h2, h3, h4, h5, h6⟩ := h
    obtain ⟨r, rfl⟩ := Int.eq_ofNat_of_zero_le h1
    exact law_within r (by omega) a1 h3 h4 a2 a3 h5 h6 w htab c
  · have hg : a0 < 0 ∨ 31 < a0 ∨ a1 < -2147483648 ∨ 2147483647 < a1 ∨ a3 < 1 ∨ 32 < a3 := by omega
    rcases hg with h1 | h1 | h1 | h1 | h1 | h1
    all_goals
      go_enter Tryd.func5, Tryd.ntmps5
      go_wp2
      all_goals
        go_ret
        exact ⟨rfl, Below.refl _ _⟩

theorem own : ownKnob Tryd.prog.godebug = none := by kernel_rfl
theorem door_met (os : Os) (args : Array Value) : laidMetH Tryd.prog Rows.fnOffsetTextRow.laid ((World.doorLaid Tryd.prog 400 os).forCall (fun _ _ => 0) ⟨#[], args, []⟩).memory :=
  laidMetH_of_parts3 (fuel := 8) (laidMet_of_run' 8 (by kernel_rfl) (by kernel_rfl)) (by kernel_rfl) (by kernel_rfl)
/-! ### THE ROW's STEP: WRITTEN OUT: LEAVE IT -/
set_option maxRecDepth 100000 in
theorem lifted (os : Os) (started : os.Started) (H : Type) (enc : TypeId × Value → H) :
    ReturnsInHanded {} Tryd.checked os 5 .any (fun w args => (Rows.fnOffsetTextSpec.pre enc Tryd.prog Tryd.f5 [] false w args ∧ laidMetH Tryd.prog Rows.fnOffsetTextRow.laid w) ∧ sizedMet enc Tryd.prog Tryd.f5 (OpenSpec.ofChange Rows.fnOffsetTextSpec) false w args) (Rows.fnOffsetTextSpec.post enc Tryd.prog Tryd.f5 false true false false) := by
  refine returnsInHanded_of_change_and (C := Tryd.checked) (X := fun w _ => laidMetH Tryd.prog Rows.fnOffsetTextRow.laid w) (fun _ _ _ hh h => h.of_heap hh) own started (by kernel_rfl) Tryd.func5
    (ChangeSpec.witness_shaped (enc := enc) (C := Tryd.checked) (os := os) (X := fun w _ => laidMetH Tryd.prog Rows.fnOffsetTextRow.laid w) false (World.doorLaid Tryd.prog 400 os) #[.int .i64 0, .int .i64 0, .bool false, .int .i64 0] 8 rfl (World.shaped_of_RefB (by kernel_rfl) (by kernel_rfl)) (by kernel_rfl) (by kernel_rfl) (by kernel_rfl) (door_met os _)) ?_
  intro W base args ds gs before hval0 hW _ _ hL _
  rw [MakeChecks.laidMetH_plain _ _ _ (by kernel_rfl)] at hL
  have hc : C15 W := by
    have h64 : Lib.TabIs Tryd.prog W "math/bits.deBruijn64tab" .u8 [0, 1, 56, 2, 57, 49, 28, 3, 61, 58, 42, 50, 38, 29, 17, 4, 62, 47, 59, 36, 45, 43, 51, 22, 53, 39, 33, 30, 24, 18, 12, 5, 63, 55, 48, 27, 60, 41, 37, 16, 46, 35, 44, 21, 52, 32, 23, 11, 54, 26, 40, 15, 34, 20, 31, 10, 25, 14, 19, 9, 13, 8, 7, 6] :=
      Lib.tabIs_of_head (g := 2) (t := 53) (e := 5) (n := 64) (by kernel_rfl) (by kernel_rfl) (by kernel_rfl) (by kernel_rfl) (by kernel_rfl) (by kernel_rfl) hL.tail
    exact h64.cell (g := 2) (by kernel_rfl) 15 (by decide)
  have htab : TabOk W := by
    exact Lib.tabIs_of_head (g := 0) (t := 45) (e := 37) (n := 20) (by kernel_rfl) (by kernel_rfl) (by kernel_rfl) (by kernel_rfl) (by kernel_rfl) (by kernel_rfl) hL.tail.tail
  have hval : ∀ (j : Nat) t v, Tryd.f5.params[j]? = some t → args[j]? = some v → Value.okWide Tryd.prog W .any base t v := hval0
  have hW' := hW
  obtain ⟨p, q, hA0, hV, rfl, hfz, hnd⟩ := hW
  have hA : DataW.TrodAll enc Tryd.prog W 0 (fun _ => true) true Tryd.f5.params.toList args.toList ds p := hA0
  rw [Tryd.params5] at hA hval
  obtain ⟨v0, vs0, d0, ds0, p0, q0, hargs, rfl, rfl, h0, r0⟩ := trodAll_cons hA
  obtain ⟨v1, vs1, d1, ds1, p1, q1, rfl, rfl, rfl, h1, r1⟩ := trodAll_cons r0
  obtain ⟨v2, vs2, d2, ds2, p2, q2, rfl, rfl, rfl, h2, r2⟩ := trodAll_cons r1
  obtain ⟨v3, vs3, d3, ds3, p3, q3, rfl, rfl, rfl, h3, r3⟩ := trodAll_cons r2
  obtain ⟨rfl, rfl, rfl⟩ := trodAll_nil r3
  obtain rfl : args = #[v0, v1, v2, v3] := by cases args; simp_all
  obtain ⟨rfl, rfl⟩ := trodVars_none hV
  obtain ⟨a0, rfl, rfl, rfl, w0⟩ := open_int Tryd.underlying3 (hval 0 3 v0 rfl rfl) h0
  obtain ⟨a1, rfl, rfl, rfl, w1⟩ := open_int Tryd.underlying3 (hval 1 3 v1 rfl rfl) h1
  obtain ⟨a2, rfl, rfl, rfl⟩ := open_bool Tryd.underlying4 (hval 2 4 v2 rfl rfl) h2
  obtain ⟨a3, rfl, rfl, rfl, w3⟩ := open_int Tryd.underlying3 (hval 3 3 v3 rfl rfl) h3
  clear hA0 hval0
  simp only [List.append_nil] at hW'
  refine (walk a0 a1 a2 a3 W htab hc).mono fun e W' ⟨he, hg⟩ => ?_
  subst he
  refine ⟨_, rfl, _, _, _, [], [], [], hW', trodAll_cons_mk (shut_bool Tryd.underlying4 _) trodAll_mk0, trodAll_cons_mk (shut_int Tryd.underlying3 w0) (trodAll_cons_mk (shut_int Tryd.underlying3 w1) (trodAll_cons_mk (shut_bool Tryd.underlying4 _) (trodAll_cons_mk (shut_int Tryd.underlying3 w3) trodAll_mk0))), rfl, hg.frame _, fun h => by cases h⟩

theorem over : Rows.fnOffsetTextRow.holds Tryd.pinned (OpenSpec.ofChange Rows.fnOffsetTextSpec) :=
  OpenClaim.holds_of_wide 5 Tryd.f5 rfl rfl rfl rfl rfl rfl rfl ⟨rfl, rfl, rfl, rfl, rfl⟩ rfl rfl rfl rfl rfl (by kernel_rfl) Tryd.func5 (by kernel_rfl)
    (of_decide_eq_true (by kernel_rfl)) (by unfold Func.isWrapper; first | (rw [if_pos (by decide +kernel)]; kernel_rfl) | (rw [if_neg (by decide +kernel)]; exact ⟨rfl, rfl⟩))
    (fun os started H enc _ => lifted os started H enc)

/-- ████ THE STATEMENT ████ -/
theorem proved : Rows.FnOffsetTextCardSaid :=
  Claim7.holds_tied_plain_at .later [] [.data, .data, .data] true (true, "fb8df768ba901b08d16e08a86f4be844bd035d1c3272a56d6d02cd7f0706ed52") false
    over (fun _ h => by cases h) (by kernel_rfl) (fun _ h => by cases h) fnOffsetText_row_tie rfl ⟨rfl, rfl⟩ (by kernel_rfl) rfl
    (fun f fn hf hfn => by
      obtain rfl : f = 5 := Option.some.inj ((show Tryd.prog.funcNamed "loop.example/pub-g03336/laws.FnOffsetText" = some 5 by kernel_rfl).symm.trans hf) |>.symm
      obtain rfl : fn = Tryd.f5 := (Option.some.inj (Tryd.func5.symm.trans hfn)).symm
      exact ⟨by kernel_rfl, fun j t ht => by
        rw [Tryd.params5] at ht
        have hm : t ∈ [3, 3, 4, 3] := by simpa using Array.mem_of_getElem? ht
        have hall : ([3, 3, 4, 3].all fun u => !Tryd.prog.wantsStandIn u) = true := by kernel_rfl
        exact (show Tryd.prog.wantsStandIn t = false by simpa using List.all_eq_true.1 hall t hm)⟩)
    (by kernel_rfl)
#print axioms proved
end Go.Proofs.YtclcdbigdmabiaaDoor.fnOffsetText
