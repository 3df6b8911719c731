/-
  The statement 'FnSimmText' is proved (its tied card): for all numbers n and width the law returns true and its arguments read as before. Conditions: none beyond the row's own: the listed tables of the library read as the program's own initialisers lay them.
-/
import Derived.Test.YtclcdbigdmabiaaDoorRows
import Derived.Test.YtclcdbigdmabiaaDoorShelf
import Derived.WalkKit
import Derived.WalkSpells
import Derived.ProofKit
import Derived.Handy
import Derived.LaidMore
import Derived.OpenShut
import Derived.Stop.Joined
import Derived.Stop.LaidErr
import Derived.Lib.LaidTab
import Derived.Lib.SmallJoins
import Derived.SevenTiedAt
import Derived.Test.YtclcdbigdmabiaaDoorTie
import Derived.Test.YtclcdbigdmabiaaDoorCards

namespace Go.Proofs.YtclcdbigdmabiaaDoor.fnSimmText
open Go.ChangeShapes Go.WideShapes Go.ChangeAt Go.RowKit
set_option linter.unusedVariables false
set_option maxRecDepth 100000
theorem hide {p : Prop} (h : p) : Hid p := h
theorem ret_bool {b c : Bool} (h : b = c) : Ending.returned (.bool b) = .returned (.bool c) := by rw [h]
theorem len_dec : ∀ (u : Nat), (Lib.decDigits u).length ≤ u + 1 := by
  intro u
  induction u using Nat.strongRecOn with
  | ind u ih =>
    rw [Lib.decDigits]
    split
    · simp
    · have := ih (u / 10) (by omega)
      simp only [List.length_append, List.length_cons, List.length_nil]
      omega
def decT (u : Nat) : ByteArray := ⟨(Lib.decDigits u).toArray⟩
theorem decT_len (u : Nat) : (decT u).size ≤ u + 1 := by
  have : (decT u).size = (Lib.decDigits u).length := by unfold decT; simp [ByteArray.size]
  rw [this]; exact len_dec u
theorem decT_step (u : Nat) (h : 10 ≤ u) : decT u = decT (u / 10) ++ decT (u % 10) := by
  unfold decT
  rw [show Lib.decDigits u = _ from Lib.decDigits.eq_def u, dif_neg (by omega), Lib.decDigits_one (i := u % 10) (by omega)]
  apply ByteArray.ext
  simp
theorem digit1 (n : Nat) (h : n < 10) (w : World) : Calls Tryd.prog 7 #[.int .i64 n] w fun e w' => e = .returned (.string (decT n)) ∧ w = w' := by
  have hn : n = 0 ∨ n = 1 ∨ n = 2 ∨ n = 3 ∨ n = 4 ∨ n = 5 ∨ n = 6 ∨ n = 7 ∨ n = 8 ∨ n = 9 := by omega
  rcases hn with rfl | rfl | rfl | rfl | rfl | rfl | rfl | rfl | rfl | rfl
  all_goals
    go_enter Tryd.func7, Tryd.ntmps7
    go_wp2
    go_ret
    refine ⟨?_, rfl⟩
    rw [show decT _ = _ from (by unfold decT; rw [Lib.decDigits_one (by omega)])]
    rfl
set_option maxHeartbeats 1000000 in
theorem digits : ∀ (n : Nat), n < 2147483649 → ∀ (w : World),
    Calls Tryd.prog 7 #[.int .i64 n] w fun e w' => ∃ s : ByteArray, s.size ≤ n + 1 ∧ Hid (s = decT n) ∧ e = .returned (.string s) ∧ w = w' := by
  intro n
  induction n using Nat.strongRecOn with
  | ind n ih =>
    intro hn w
    by_cases h : n < 10
    · refine (digit1 n h w).mono ?_
      rintro e w' ⟨rfl, rfl⟩
      exact ⟨_, decT_len n, hide rfl, rfl, rfl⟩
    · have i1 : ∀ w, Calls Tryd.prog 7 #[.int .i64 ((n : Int) / 10)] w fun e w' => ∃ s : ByteArray, s.size ≤ n / 10 + 1 ∧ Hid (s = decT (n / 10)) ∧ e = .returned (.string s) ∧ w = w' := fun w => ih (n / 10) (by omega) (by omega) w
      have i2 : ∀ w, Calls Tryd.prog 7 #[.int .i64 ((n : Int) % 10)] w fun e w' => ∃ s : ByteArray, s.size ≤ n % 10 + 1 ∧ Hid (s = decT (n % 10)) ∧ e = .returned (.string s) ∧ w = w' := fun w => ih (n % 10) (by omega) (by omega) w
      clear ih
      go_enter Tryd.func7, Tryd.ntmps7
      go_wp2_with (first | (go_at_call 7; (with_reducible refine (i1 _).mono ?_); rintro e w' ⟨s, hs, HS, rfl, rfl⟩) | (go_at_call 7; (with_reducible refine (i2 _).mono ?_); rintro e w' ⟨t, ht, HT, rfl, rfl⟩))
      go_ret
      have hst : s ++ t = decT n := by
        unfold Hid at HS HT
        rw [HS, HT, ← decT_step n (by omega)]
      exact ⟨s ++ t, by rw [hst]; exact decT_len n, hide hst, rfl, rfl⟩
def TabOk (w : World) : Prop := Lib.TabIs Tryd.prog w "internal/strconv.uint64pow10" .u64 Lib.pow10Tab
theorem tabOk_alloc {w : World} (h : TabOk w) (o : Obj) : TabOk (w.alloc o) := Lib.tabIs_alloc h o
def intT (n : Int) : ByteArray := ⟨(Lib.itoa n).toArray⟩
theorem fmt (n : Int) (h0 : -2147483648 ≤ n) (h1 : n ≤ 2147483647) (w : World) (htab : TabOk w) :
    Calls Tryd.prog 13 #[.int .i64 n, .int .i64 10] w fun e w' => ∃ s : ByteArray, Hid (s = intT n) ∧ e = .returned (.string s) ∧ Below w.heap.size w w' := by
  refine (Tryd.strconv_FormatInt_10 n (by omega) (by omega) w htab).mono ?_
  rintro e w' ⟨rfl, k, os, rfl⟩
  exact ⟨_, hide rfl, rfl, rfl, rfl, rfl, by simp [Sort.grow, World.drewN], fun k hk => by simp [Sort.grow, World.drewN, Array.getElem?_append, hk]⟩
theorem simm10 (n : Int) (h0 : -2147483648 ≤ n) (h1 : n ≤ 2147483647) (b : Int) (w : World) (htab : TabOk w) :
    Calls Tryd.prog 10 #[.agg #[.int .i32 n, .bool true, .int .u8 b]] w fun e w' => ∃ s : ByteArray, Hid (s = intT n) ∧ e = .returned (.string s) ∧ Below w.heap.size w w' := by
  go_enter Tryd.func10, Tryd.ntmps10
  go_wp2_with (first | (go_at_call 13; (with_reducible refine (fmt n h0 h1 _ (tabOk_alloc htab _)).mono ?_); rintro e w' ⟨s, HS, rfl, hB⟩))
  go_ret
  exact ⟨s, HS, rfl, ((Below.refl _ w).alloc (Nat.le_refl _) _).trans (hB.mono (by simp))⟩
theorem simm (n : Int) (h0 : -2147483648 ≤ n) (h1 : n ≤ 2147483647) (b : Int) (hb1 : 1 ≤ b) (hb2 : b ≤ 32) (w : World) (htab : TabOk w) :
    Calls Tryd.prog 6 #[.int .i64 n, .bool true, .int .i64 b] w fun e w' => ∃ s : ByteArray, Hid (s = intT n) ∧ e = .returned (.string s) ∧ Below w.heap.size w w' := by
  go_enter Tryd.func6, Tryd.ntmps6
  go_wp2_with (first | (go_at_call 10; (with_reducible refine (simm10 n h0 h1 b _ htab).mono ?_); rintro e w' ⟨s, HS, rfl, hB⟩))
  go_ret
  exact ⟨s, HS, rfl, hB⟩
theorem law_within (n b : Int) (h0 : -2147483648 ≤ n) (h1 : n ≤ 2147483647) (hb1 : 1 ≤ b) (hb2 : b ≤ 32) (w : World) (htab : TabOk w) :
    Calls Tryd.prog 3 #[.int .i64 n, .int .i64 b] w fun e w' => e = .returned (.bool true) ∧ Below w.heap.size w w' := by
  by_cases hn : n < 0
  · have hd : ∀ w, Calls Tryd.prog 7 #[.int .i64 (-n)] w fun e w' => ∃ s : ByteArray, s.size ≤ 2147483650 ∧ Hid (s = decT n.natAbs) ∧ e = .returned (.string s) ∧ w = w' := by
      intro w
      have : -n = ((n.natAbs : Nat) : Int) := by omega
      rw [this]
      refine (digits n.natAbs (by omega) w).mono ?_
      rintro e w' ⟨s, hs, H⟩
      exact ⟨s, by omega, H⟩
    go_enter Tryd.func3, Tryd.ntmps3
    go_wp2_with (first | (go_at_call 6; (with_reducible refine (simm n h0 h1 b hb1 hb2 _ htab).mono ?_); rintro e w' ⟨s, HS, rfl, hB⟩) | (go_at_call 7; (with_reducible refine (hd _).mono ?_); rintro e w' ⟨t, ht, HT, rfl, rfl⟩))
    go_ret
    refine ⟨ret_bool ?_, hB⟩
    have e : s = ({ data := #[45] } : ByteArray) ++ t := by
      unfold Hid at HS HT
      rw [HS, HT]
      unfold intT Lib.itoa decT
      rw [if_pos hn]
      apply ByteArray.ext
      simp
    rw [e]; simp
  · have hd : ∀ w, Calls Tryd.prog 7 #[.int .i64 n] w fun e w' => ∃ s : ByteArray, s.size ≤ 2147483650 ∧ Hid (s = decT n.toNat) ∧ e = .returned (.string s) ∧ w = w' := by
      intro w
      have : n = ((n.toNat : Nat) : Int) := by omega
      rw [show Value.int .i64 n = Value.int .i64 ((n.toNat : Nat) : Int) from by rw [← this]]
      refine (digits n.toNat (by omega) w).mono ?_
      rintro e w' ⟨s, hs, H⟩
      exact ⟨s, by omega, H⟩
    go_enter Tryd.func3, Tryd.ntmps3
    go_wp2_with (first | (go_at_call 6; (with_reducible refine (simm n h0 h1 b hb1 hb2 _ htab).mono ?_); rintro e w' ⟨s, HS, rfl, hB⟩) | (go_at_call 7; (with_reducible refine (hd _).mono ?_); rintro e w' ⟨t, ht, HT, rfl, rfl⟩))
    go_ret
    refine ⟨ret_bool ?_, hB⟩
    have e : s = t := by
      unfold Hid at HS HT
      rw [HS, HT]
      unfold intT Lib.itoa decT
      rw [if_neg (by omega)]
    rw [e]; simp
theorem walk (a0 : Int) (a1 : Int) (w : World) (htab : TabOk w) :
    Calls Tryd.prog 3 #[.int .i64 a0, .int .i64 a1] w fun e w' => e = .returned (.bool true) ∧ Below w.heap.size w w' := by
  by_cases h : -2147483648 ≤ a0 ∧ a0 ≤ 2147483647 ∧ 1 ≤ a1 ∧ a1 ≤ 32
  · obtain ⟨h1, h2, h3, h4⟩ := h
    exact law_within a0 a1 h1 h2 h3 h4 w htab
  · have hg : a0 < -2147483648 ∨ 2147483647 < a0 ∨ a1 < 1 ∨ 32 < a1 := by omega
    rcases hg with h1 | h1 | h1 | h1
    all_goals
      go_enter Tryd.func3, Tryd.ntmps3
      go_wp2
      all_goals
        go_ret
        exact ⟨rfl, Below.refl _ _⟩
theorem own : ownKnob Tryd.prog.godebug = none := by kernel_rfl
theorem door_met (os : Os) (args : Array Value) : laidMetH Tryd.prog Rows.fnSimmTextRow.laid ((World.doorLaid Tryd.prog 400 os).forCall (fun _ _ => 0) ⟨#[], args, []⟩).memory :=
  laidMetH_of_parts3 (fuel := 8) (laidMet_of_run' 8 (by kernel_rfl) (by kernel_rfl)) (by kernel_rfl) (by kernel_rfl)
/-! ### THE ROW's STEP: WRITTEN OUT: LEAVE IT -/
set_option maxRecDepth 100000 in
theorem lifted (os : Os) (started : os.Started) (H : Type) (enc : TypeId × Value → H) :
    ReturnsInHanded {} Tryd.checked os 3 .any (fun w args => (Rows.fnSimmTextSpec.pre enc Tryd.prog Tryd.f3 [] false w args ∧ laidMetH Tryd.prog Rows.fnSimmTextRow.laid w) ∧ sizedMet enc Tryd.prog Tryd.f3 (OpenSpec.ofChange Rows.fnSimmTextSpec) false w args) (Rows.fnSimmTextSpec.post enc Tryd.prog Tryd.f3 false true false false) := by
  refine returnsInHanded_of_change_and (C := Tryd.checked) (X := fun w _ => laidMetH Tryd.prog Rows.fnSimmTextRow.laid w) (fun _ _ _ hh h => h.of_heap hh) own started (by kernel_rfl) Tryd.func3
    (ChangeSpec.witness_shaped (enc := enc) (C := Tryd.checked) (os := os) (X := fun w _ => laidMetH Tryd.prog Rows.fnSimmTextRow.laid w) false (World.doorLaid Tryd.prog 400 os) #[.int .i64 0, .int .i64 0] 8 rfl (World.shaped_of_RefB (by kernel_rfl) (by kernel_rfl)) (by kernel_rfl) (by kernel_rfl) (by kernel_rfl) (door_met os _)) ?_
  intro W base args ds gs before hval0 hW _ _ hL _
  have htab : TabOk W := by
    rw [MakeChecks.laidMetH_plain _ _ _ (by kernel_rfl)] at hL
    exact Lib.tabIs_of_head (g := 0) (t := 45) (e := 37) (n := 20) (by kernel_rfl) (by kernel_rfl) (by kernel_rfl) (by kernel_rfl) (by kernel_rfl) (by kernel_rfl) hL.tail.tail
  have hval : ∀ (j : Nat) t v, Tryd.f3.params[j]? = some t → args[j]? = some v → Value.okWide Tryd.prog W .any base t v := hval0
  have hW' := hW
  obtain ⟨p, q, hA0, hV, rfl, hfz, hnd⟩ := hW
  have hA : DataW.TrodAll enc Tryd.prog W 0 (fun _ => true) true Tryd.f3.params.toList args.toList ds p := hA0
  rw [Tryd.params3] at hA hval
  obtain ⟨v0, vs0, d0, ds0, p0, q0, hargs, rfl, rfl, h0, r0⟩ := trodAll_cons hA
  obtain ⟨v1, vs1, d1, ds1, p1, q1, rfl, rfl, rfl, h1, r1⟩ := trodAll_cons r0
  obtain ⟨rfl, rfl, rfl⟩ := trodAll_nil r1
  obtain rfl : args = #[v0, v1] := by cases args; simp_all
  obtain ⟨rfl, rfl⟩ := trodVars_none hV
  obtain ⟨a0, rfl, rfl, rfl, w0⟩ := open_int Tryd.underlying3 (hval 0 3 v0 rfl rfl) h0
  obtain ⟨a1, rfl, rfl, rfl, w1⟩ := open_int Tryd.underlying3 (hval 1 3 v1 rfl rfl) h1
  clear hA0 hval0
  simp only [List.append_nil] at hW'
  refine (walk a0 a1 W htab).mono fun e W' ⟨he, hg⟩ => ?_
  subst he
  refine ⟨_, rfl, _, _, _, [], [], [], hW', trodAll_cons_mk (shut_bool Tryd.underlying4 _) trodAll_mk0, trodAll_cons_mk (shut_int Tryd.underlying3 w0) (trodAll_cons_mk (shut_int Tryd.underlying3 w1) trodAll_mk0), rfl, hg.frame _, fun h => by cases h⟩

theorem over : Rows.fnSimmTextRow.holds Tryd.pinned (OpenSpec.ofChange Rows.fnSimmTextSpec) :=
  OpenClaim.holds_of_wide 3 Tryd.f3 rfl rfl rfl rfl rfl rfl rfl ⟨rfl, rfl, rfl, rfl, rfl⟩ rfl rfl rfl rfl rfl (by kernel_rfl) Tryd.func3 (by kernel_rfl)
    (of_decide_eq_true (by kernel_rfl)) (by unfold Func.isWrapper; first | (rw [if_pos (by decide +kernel)]; kernel_rfl) | (rw [if_neg (by decide +kernel)]; exact ⟨rfl, rfl⟩))
    (fun os started H enc _ => lifted os started H enc)

/-- ████ THE STATEMENT ████ -/
theorem proved : Rows.FnSimmTextCardSaid :=
  Claim7.holds_tied_plain_at .later [] [.data, .data, .data] true (true, "fb8df768ba901b08d16e08a86f4be844bd035d1c3272a56d6d02cd7f0706ed52") false
    over (fun _ h => by cases h) (by kernel_rfl) (fun _ h => by cases h) fnSimmText_row_tie rfl ⟨rfl, rfl⟩ (by kernel_rfl) rfl
    (fun f fn hf hfn => by
      obtain rfl : f = 3 := Option.some.inj ((show Tryd.prog.funcNamed "loop.example/pub-g03336/laws.FnSimmText" = some 3 by kernel_rfl).symm.trans hf) |>.symm
      obtain rfl : fn = Tryd.f3 := (Option.some.inj (Tryd.func3.symm.trans hfn)).symm
      exact ⟨by kernel_rfl, fun j t ht => by
        rw [Tryd.params3] at ht
        have hm : t ∈ [3, 3] := by simpa using Array.mem_of_getElem? ht
        have hall : ([3, 3].all fun u => !Tryd.prog.wantsStandIn u) = true := by kernel_rfl
        exact (show Tryd.prog.wantsStandIn t = false by simpa using List.all_eq_true.1 hall t hm)⟩)
    (by kernel_rfl)
#print axioms proved
end Go.Proofs.YtclcdbigdmabiaaDoor.fnSimmText
