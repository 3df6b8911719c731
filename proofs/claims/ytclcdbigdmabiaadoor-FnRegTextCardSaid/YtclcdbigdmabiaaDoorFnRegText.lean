/-
  The statement 'FnRegText' is proved (its tied card): for all numbers a and b the law returns true and its arguments read as before. Conditions: none beyond the row's own: the listed tables of the library read as the program's own initialisers lay them.
-/
import Derived.Test.YtclcdbigdmabiaaDoorRows
import Derived.Test.YtclcdbigdmabiaaDoorShelf
import Derived.WalkKit
import Derived.WalkSpells
import Derived.ProofKit
import Derived.Handy
import Derived.LaidMore
import Derived.OpenShut
import Derived.Stop.Joined
import Derived.SevenTiedAt
import Derived.Test.YtclcdbigdmabiaaDoorTie
import Derived.Test.YtclcdbigdmabiaaDoorCards
namespace Go.Proofs.YtclcdbigdmabiaaDoor.fnRegText
set_option linter.unusedVariables false
open Go.ChangeShapes Go.WideShapes Go.ChangeAt Go.RowKit
set_option maxRecDepth 100000
theorem hide {p : Prop} (h : p) : Hid p := h
theorem ret_bool {b c : Bool} (h : b = c) : Ending.returned (.bool b) = .returned (.bool c) := by rw [h]
def dig2 (i : Nat) : List UInt8 := if i < 10 then [UInt8.ofNat (48 + i)] else [UInt8.ofNat (48 + i / 10), UInt8.ofNat (48 + i % 10)]
theorem dig2_eq (i : Nat) (h : i < 100) : Lib.decDigits i = dig2 i := by
  unfold dig2
  split
  · rename_i h1; exact Lib.decDigits_one h1
  · rename_i h1; exact Lib.decDigits_two h1 h
theorem dig2_len (i : Nat) : (dig2 i).length ≤ 2 := by unfold dig2; split <;> simp
def regBytes (r : Nat) : List UInt8 := if r ≤ 31 then 120 :: dig2 r else if r ≤ 63 then 102 :: dig2 (r - 32) else 118 :: dig2 (r - 64)
def regT (r : Nat) : ByteArray := ⟨(regBytes r).toArray⟩
theorem fmt_small (i : Nat) (h : i < 100) (w : World) :
    Calls Tryd.prog 13 #[.int .i64 i, .int .i64 10] w fun e w' => ∃ s : ByteArray, s.size ≤ 2 ∧ Hid (s = ⟨(dig2 i).toArray⟩) ∧ e = .returned (.string s) ∧ w = w' := by
  refine (Tryd.strconv_FormatInt_10_small i h w).mono ?_
  rintro e w' ⟨rfl, rfl⟩
  refine ⟨⟨(dig2 i).toArray⟩, ?_, hide rfl, by rw [dig2_eq i h], rfl⟩
  show (dig2 i).toArray.size ≤ 2
  simpa using dig2_len i
theorem cat (c : UInt8) (s : ByteArray) (l : List UInt8) (H : Hid (s = ⟨l.toArray⟩)) : (⟨#[c]⟩ : ByteArray) ++ s = ⟨(c :: l).toArray⟩ := by
  unfold Hid at H
  subst H
  apply ByteArray.ext
  simp
theorem regtext (r : Nat) (hr : r ≤ 95) (w : World) :
    Calls Tryd.prog 8 #[.int .i64 r] w fun e w' => e = .returned (.string (regT r)) ∧ w = w' := by
  by_cases h1 : r ≤ 31
  · go_enter Tryd.func8, Tryd.ntmps8
    go_wp2_with (first | (go_at_call 13; refine (fmt_small r (by omega) _).mono ?_; rintro e w' ⟨s, hs, HS, rfl, rfl⟩) | go_in)
    go_ret
    refine ⟨?_, rfl⟩
    rw [show regT r = _ from (by unfold regT regBytes; rw [if_pos h1]), ← cat 120 s (dig2 r) HS]
    rfl
  · by_cases h2 : r ≤ 63
    · obtain ⟨k, rfl⟩ : ∃ k, r = k + 32 := ⟨r - 32, by omega⟩
      go_enter Tryd.func8, Tryd.ntmps8
      go_wp2_with (first | (go_at_call 13; refine (fmt_small k (by omega) _).mono ?_; rintro e w' ⟨s, hs, HS, rfl, rfl⟩) | go_in)
      go_ret
      refine ⟨?_, rfl⟩
      rw [show regT (k + 32) = _ from (by unfold regT regBytes; rw [if_neg h1, if_pos h2, Nat.add_sub_cancel]), ← cat 102 s (dig2 k) HS]
      rfl
    · obtain ⟨k, rfl⟩ : ∃ k, r = k + 64 := ⟨r - 64, by omega⟩
      go_enter Tryd.func8, Tryd.ntmps8
      go_wp2_with (first | (go_at_call 13; refine (fmt_small k (by omega) _).mono ?_; rintro e w' ⟨s, hs, HS, rfl, rfl⟩) | go_in)
      go_ret
      refine ⟨?_, rfl⟩
      rw [show regT (k + 64) = _ from (by unfold regT regBytes; rw [if_neg h1, if_neg h2, Nat.add_sub_cancel]), ← cat 118 s (dig2 k) HS]
      rfl
theorem reg_all : (List.range 96).all (fun a => (List.range 96).all fun b => (regBytes a == regBytes b) == (a == b)) = true := by kernel_rfl

theorem toList_inj {s t : ByteArray} (h : s.toList = t.toList) : s = t := by
  rw [Lib.toList_data, Lib.toList_data] at h
  exact bytes_inj h
theorem reg_size (r : Nat) : 0 < (regT r).size := by
  have : (regT r).size = (regBytes r).length := by unfold regT; simp [ByteArray.size]
  rw [this]; unfold regBytes; split <;> (try split) <;> simp
theorem reg_eq (a b : Nat) (ha : a ≤ 95) (hb : b ≤ 95) : regT a = regT b ↔ a = b := by
  constructor
  · intro h
    have h1 : regBytes a = regBytes b := by
      have := congrArg (fun s : ByteArray => s.data.toList) h
      simpa [regT] using this
    have := List.all_eq_true.1 (List.all_eq_true.1 reg_all a (List.mem_range.2 (by omega))) b (List.mem_range.2 (by omega))
    simp [h1] at this
    exact this
  · rintro rfl; rfl
theorem regtext2 (r : Nat) (hr : r ≤ 95) (w : World) :
    Calls Tryd.prog 8 #[.int .i64 r] w fun e w' => ∃ s : ByteArray, s.size ≤ 3 ∧ 0 < s.size ∧ Hid (s = regT r) ∧ e = .returned (.string s) ∧ w = w' := by
  refine (regtext r hr w).mono ?_
  rintro e w' ⟨rfl, rfl⟩
  refine ⟨regT r, ?_, reg_size r, hide rfl, rfl, rfl⟩
  have : (regT r).size = (regBytes r).length := by unfold regT; simp [ByteArray.size]
  rw [this]; unfold regBytes; have := dig2_len r; have := dig2_len (r-32); have := dig2_len (r-64); split <;> (try split) <;> simp <;> omega
theorem two_eq (a b : Nat) (ha : a ≤ 95) (hb : b ≤ 95) {s t : ByteArray} (hs : Hid (s = regT a)) (ht : Hid (t = regT b)) : (s.toList == t.toList) = ((a : Int) == (b : Int)) := by
  unfold Hid at hs ht
  subst hs; subst ht
  by_cases h : a = b
  · subst h; simp
  · have h1 : ¬ regT a = regT b := fun e => h ((reg_eq a b ha hb).1 e)
    have h2 : ¬ (regT a).toList = (regT b).toList := fun e => h1 (toList_inj e)
    have h3 : ¬ (a : Int) = b := by omega
    rw [beq_eq_false_iff_ne.2 h2, beq_eq_false_iff_ne.2 h3]
theorem law_within (a b : Nat) (ha : a ≤ 95) (hb : b ≤ 95) (w : World) :
    Calls Tryd.prog 4 #[.int .i64 a, .int .i64 b] w fun e w' => e = .returned (.bool true) ∧ w = w' := by
  by_cases hab : a = b
  · subst hab
    go_enter Tryd.func4, Tryd.ntmps4
    go_wp2_with (first | (go_at_call 8; refine (regtext2 a (by omega) _).mono ?_; rintro e w' ⟨s, hs, hs0, HS, rfl, rfl⟩) | go_in)
    go_ret
    refine ⟨ret_bool ?_, rfl⟩
    rename_i s1 _ _ H1
    rw [two_eq a a ha ha H1 HS]; simp
  · go_enter Tryd.func4, Tryd.ntmps4
    go_wp2_with (first | (go_at_call 8; (with_reducible refine (regtext2 a (by omega) _).mono ?_); rintro e w' ⟨s, hs, hs0, HS, rfl, rfl⟩) | (go_at_call 8; (with_reducible refine (regtext2 b (by omega) _).mono ?_); rintro e w' ⟨t, ht, ht0, HT, rfl, rfl⟩) | go_in)
    go_ret
    refine ⟨ret_bool ?_, rfl⟩
    rw [two_eq a b ha hb HS HT]; simp
theorem walk (a0 : Int) (a1 : Int) (w0 : (Lit.int .i64 a0).wf = true) (w1 : (Lit.int .i64 a1).wf = true) (w : World) :
    Calls Tryd.prog 4 #[.int .i64 a0, .int .i64 a1] w fun e w' => e = .returned (.bool true) ∧ w = w' := by
  by_cases h : 0 ≤ a0 ∧ a0 ≤ 95 ∧ 0 ≤ a1 ∧ a1 ≤ 95
  · obtain ⟨h1, h2, h3, h4⟩ := h
    obtain ⟨a, rfl⟩ := Int.eq_ofNat_of_zero_le h1
    obtain ⟨b, rfl⟩ := Int.eq_ofNat_of_zero_le h3
    exact law_within a b (by omega) (by omega) w
  · have hg : a0 < 0 ∨ 95 < a0 ∨ a1 < 0 ∨ 95 < a1 := by omega
    rcases hg with h1 | h1 | h1 | h1
    all_goals
      go_enter Tryd.func4, Tryd.ntmps4
      go_wp2
      all_goals
        go_ret
        exact ⟨rfl, rfl⟩
theorem own : ownKnob Tryd.prog.godebug = none := by kernel_rfl
theorem door_met (os : Os) (args : Array Value) : laidMetH Tryd.prog Rows.fnRegTextRow.laid ((World.doorLaid Tryd.prog 400 os).forCall (fun _ _ => 0) ⟨#[], args, []⟩).memory :=
  laidMetH_of_parts3 (fuel := 8) (laidMet_of_run' 8 (by kernel_rfl) (by kernel_rfl)) (by kernel_rfl) (by kernel_rfl)
/-! ### THE ROW's STEP: WRITTEN OUT: LEAVE IT -/
set_option maxRecDepth 100000 in
theorem lifted (os : Os) (started : os.Started) (H : Type) (enc : TypeId × Value → H) :
    ReturnsInHanded {} Tryd.checked os 4 .any (fun w args => (Rows.fnRegTextSpec.pre enc Tryd.prog Tryd.f4 [] false w args ∧ laidMetH Tryd.prog Rows.fnRegTextRow.laid w) ∧ sizedMet enc Tryd.prog Tryd.f4 (OpenSpec.ofChange Rows.fnRegTextSpec) false w args) (Rows.fnRegTextSpec.post enc Tryd.prog Tryd.f4 false true false false) := by
  refine returnsInHanded_of_change_and (C := Tryd.checked) (X := fun w _ => laidMetH Tryd.prog Rows.fnRegTextRow.laid w) (fun _ _ _ hh h => h.of_heap hh) own started (by kernel_rfl) Tryd.func4
    (ChangeSpec.witness_shaped (enc := enc) (C := Tryd.checked) (os := os) (X := fun w _ => laidMetH Tryd.prog Rows.fnRegTextRow.laid w) false (World.doorLaid Tryd.prog 400 os) #[.int .i64 0, .int .i64 0] 8 rfl (World.shaped_of_RefB (by kernel_rfl) (by kernel_rfl)) (by kernel_rfl) (by kernel_rfl) (by kernel_rfl) (door_met os _)) ?_
  intro W base args ds gs before hval0 hW _ _ hL _
  have hval : ∀ (j : Nat) t v, Tryd.f4.params[j]? = some t → args[j]? = some v → Value.okWide Tryd.prog W .any base t v := hval0
  have hW' := hW
  obtain ⟨p, q, hA0, hV, rfl, hfz, hnd⟩ := hW
  have hA : DataW.TrodAll enc Tryd.prog W 0 (fun _ => true) true Tryd.f4.params.toList args.toList ds p := hA0
  rw [Tryd.params4] at hA hval
  obtain ⟨v0, vs0, d0, ds0, p0, q0, hargs, rfl, rfl, h0, r0⟩ := trodAll_cons hA
  obtain ⟨v1, vs1, d1, ds1, p1, q1, rfl, rfl, rfl, h1, r1⟩ := trodAll_cons r0
  obtain ⟨rfl, rfl, rfl⟩ := trodAll_nil r1
  obtain rfl : args = #[v0, v1] := by cases args; simp_all
  obtain ⟨rfl, rfl⟩ := trodVars_none hV
  obtain ⟨a0, rfl, rfl, rfl, w0⟩ := open_int Tryd.underlying3 (hval 0 3 v0 rfl rfl) h0
  obtain ⟨a1, rfl, rfl, rfl, w1⟩ := open_int Tryd.underlying3 (hval 1 3 v1 rfl rfl) h1
  clear hA0 hval0
  simp only [List.append_nil] at hW'
  refine (walk a0 a1 w0 w1 W).mono fun e W' ⟨he, hg⟩ => ?_
  subst he; subst hg
  exact ⟨_, rfl, post_of_same (pa := []) (pv := []) hW' (fun _ _ _ => (trodAll_cons_mk (shut_bool Tryd.underlying4 _) trodAll_mk0)) (fun sp _ => (trodAll_cons_mk (shut_int Tryd.underlying3 w0) (trodAll_cons_mk (shut_int Tryd.underlying3 w1) trodAll_mk0))) (fun _ _ => rfl) rfl
    (World.keptBut_refl _ _) (fun _ => rfl) (ok_one (by kernel_rfl) rfl (okWide_bool_mk Tryd.underlying4 _))⟩

theorem over : Rows.fnRegTextRow.holds Tryd.pinned (OpenSpec.ofChange Rows.fnRegTextSpec) :=
  OpenClaim.holds_of_wide 4 Tryd.f4 rfl rfl rfl rfl rfl rfl rfl ⟨rfl, rfl, rfl, rfl, rfl⟩ rfl rfl rfl rfl rfl (by kernel_rfl) Tryd.func4 (by kernel_rfl)
    (of_decide_eq_true (by kernel_rfl)) (by unfold Func.isWrapper; first | (rw [if_pos (by decide +kernel)]; kernel_rfl) | (rw [if_neg (by decide +kernel)]; exact ⟨rfl, rfl⟩))
    (fun os started H enc _ => lifted os started H enc)

/-- ████ THE STATEMENT ████ -/
theorem proved : Rows.FnRegTextCardSaid :=
  Claim7.holds_tied_plain_at .later [] [.data, .data, .data] true (true, "fb8df768ba901b08d16e08a86f4be844bd035d1c3272a56d6d02cd7f0706ed52") false
    over (fun _ h => by cases h) (by kernel_rfl) (fun _ h => by cases h) fnRegText_row_tie rfl ⟨rfl, rfl⟩ (by kernel_rfl) rfl
    (fun f fn hf hfn => by
      obtain rfl : f = 4 := Option.some.inj ((show Tryd.prog.funcNamed "loop.example/pub-g03336/laws.FnRegText" = some 4 by kernel_rfl).symm.trans hf) |>.symm
      obtain rfl : fn = Tryd.f4 := (Option.some.inj (Tryd.func4.symm.trans hfn)).symm
      exact ⟨by kernel_rfl, fun j t ht => by
        rw [Tryd.params4] at ht
        have hm : t ∈ [3, 3] := by simpa using Array.mem_of_getElem? ht
        have hall : ([3, 3].all fun u => !Tryd.prog.wantsStandIn u) = true := by kernel_rfl
        exact (show Tryd.prog.wantsStandIn t = false by simpa using List.all_eq_true.1 hall t hm)⟩)
    (by kernel_rfl)
#print axioms proved
end Go.Proofs.YtclcdbigdmabiaaDoor.fnRegText
