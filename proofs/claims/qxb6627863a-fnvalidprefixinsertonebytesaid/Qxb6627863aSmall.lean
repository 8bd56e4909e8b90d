/-
  DERIVED. The contracts of the small functions on the road: alphanumeric, prefixChar, HasPrefix, ValidPrefix, hasKeyPrefix, the two size tests.
-/
import Derived.Test.Qxb6627863aRows
import Derived.Test.Qxb6627863aPlain
import Derived.WalkKit
import Derived.WalkSpells
import Derived.WalkLawsBesides
import Derived.Deep.QuietTactic
import Derived.BigQuiet
import Derived.Lib.RabinKarpLaws
namespace Go.Proofs.Qxb6627863a
open Go.RowKit

theorem ret_bool {a b : Bool} (h : a = b) : Ending.returned (.bool a) = .returned (.bool b) := by rw [h]

theorem hk_three (s : ByteArray) (h : 3 ≤ s.size) : ((s.extract 0 3).toList == [102, 107, 95]) = Plain.hk s.data.toList := by
  rw [ext_win]
  have hl : s.data.toList.length = s.size := by simp
  generalize s.data.toList = l at *
  match l, hl with
  | a :: b :: c :: r, _ =>
    simp [Lib.RK.win, Plain.hk, Bool.and_assoc]
  | [], hl => simp at hl; omega
  | [_], hl => simp at hl; omega
  | [_, _], hl => simp at hl; omega
theorem hk_short (s : ByteArray) (h : ¬ 3 ≤ s.size) : Plain.hk s.data.toList = false := by
  have hl : s.data.toList.length = s.size := by simp
  generalize s.data.toList = l at *
  match l, hl with
  | _ :: _ :: _ :: _, hl => simp at hl; omega
  | [], _ => rfl
  | [_], _ => rfl
  | [_, _], _ => rfl

set_option maxHeartbeats 400000 in
theorem alnum_any (c : Int) (w : World) :
    Calls Try.prog 14 #[.int .u8 c] w fun e w' => e = .returned (.bool (Plain.an c)) ∧ w' = w := by
  go_enter Try.func14, Try.ntmps14
  go_wp2
  all_goals
    go_ret
    refine ⟨ret_bool ?_, rfl⟩
    rw [Bool.eq_iff_iff]
    simp [Plain.an]
    omega

set_option maxHeartbeats 400000 in
theorem pchar_any (c : Int) (w : World) :
    Calls Try.prog 12 #[.int .u8 c] w fun e w' => e = .returned (.bool (Plain.pcI c)) ∧ w' = w := by
  cases h : Plain.an c
  · go_enter Try.func12, Try.ntmps12
    go_wp2_with (go_at_call 14; refine (alnum_any _ _).mono ?_; rintro e w' ⟨rfl, rfl⟩)
    all_goals
      go_ret
      refine ⟨ret_bool ?_, rfl⟩
      simp_all [Plain.pcI]
  · go_enter Try.func12, Try.ntmps12
    go_wp2_with (go_at_call 14; refine (alnum_any _ _).mono ?_; rintro e w' ⟨rfl, rfl⟩)
    all_goals
      go_ret
      refine ⟨ret_bool ?_, rfl⟩
      simp_all [Plain.pcI]

set_option maxHeartbeats 400000 in
theorem zb10_any (s : ByteArray) (k : Int) (hs : s.size ≤ maxLen) (w : World) :
    Calls Try.prog 10 #[.string s, .int .i64 k] w fun e w' => e = .returned (.bool (decide (s.size ≤ 1048576))) ∧ w' = w := by
  unfold maxLen at hs
  go_enter Try.func10, Try.ntmps10
  go_wp2
  all_goals
    go_ret
    refine ⟨ret_bool ?_, rfl⟩
    simp
    omega

set_option maxHeartbeats 400000 in
theorem zb5_any (s : ByteArray) (k c : Int) (hs : s.size ≤ maxLen) (w : World) :
    Calls Try.prog 5 #[.string s, .int .i64 k, .int .u8 c] w fun e w' => e = .returned (.bool (decide (s.size ≤ 1048576))) ∧ w' = w := by
  unfold maxLen at hs
  go_enter Try.func5, Try.ntmps5
  go_wp2
  all_goals
    go_ret
    refine ⟨ret_bool ?_, rfl⟩
    simp
    omega

set_option maxHeartbeats 400000 in
theorem hp13_any (s : ByteArray) (hs : s.size ≤ maxLen) (w : World) :
    Calls Try.prog 13 #[.string s, .string ⟨#[102, 107, 95]⟩] w fun e w' => e = .returned (.bool (Plain.hk s.data.toList)) ∧ w' = w := by
  unfold maxLen at hs
  by_cases h : 3 ≤ s.size
  · have he := hk_three s h
    have HE : Hid (((s.extract 0 3).toList == [102, 107, 95]) = Plain.hk s.data.toList) := he
    clear he
    go_enter Try.func13, Try.ntmps13
    go_wp2
    go_ret
    exact ⟨ret_bool HE.out, rfl⟩
  · have HE : Hid (Plain.hk s.data.toList = false) := hk_short s h
    go_enter Try.func13, Try.ntmps13
    go_wp2
    go_ret
    exact ⟨ret_bool HE.out.symm, rfl⟩

set_option maxHeartbeats 400000 in
theorem hp11_any (s : ByteArray) (hs : s.size ≤ maxLen) (w : World) :
    Calls Try.prog 11 #[.string s, .string ⟨#[102, 107, 95]⟩] w fun e w' => e = .returned (.bool (Plain.hk s.data.toList)) ∧ w' = w := by
  go_enter Try.func11, Try.ntmps11
  go_wp2_with (go_at_call 13; refine (hp13_any _ hs _).mono ?_; rintro e w' ⟨rfl, rfl⟩)
  go_ret
  exact ⟨rfl, rfl⟩

end Go.Proofs.Qxb6627863a
