/-
  DERIVED. The contracts of String and schemeTextOf, and the walk of FnSchemeStringTellsNumbersApart.
-/
import Derived.Test.Qxb6628278aFmtDec
import Derived.Stop.JoinedTold
import Derived.Stop.Texts
import Derived.Stop.FmtTextKit
import Derived.Stop.FmtTextVerbs
import Derived.Lib.SmallJoins
import Derived.Lib.ItoaLen
namespace Go.Proofs.Qxb6628278aFmt
open Go.RowKit Go.Kit
open Go.Extern.Stop Go.Stop Go.Extern

attribute [local go_sem] Tryf.call6 Tryf.guard Tryf.fmt0 Tryf.fmt0r Tryf.fmt1 Tryf.fmt1r Tryf.op3_118 Tryf.op3_100 Tryf.strict3

/-- What fmt is asked. -/
def fReading (n : Int) : List (List UInt8) :=
  [[112, 114, 111, 116, 101, 99, 116, 105, 111, 110, 32, 115, 99, 104, 101, 109, 101, 32, 37, 100], Tryf.shape3, digits 8 (n % 18446744073709551616).toNat]
/-- Its text. -/
def tText (n : Int) : List UInt8 := [112, 114, 111, 116, 101, 99, 116, 105, 111, 110, 32, 115, 99, 104, 101, 109, 101, 32] ++ Lib.itoa n

theorem t_parse : (FmtText.parse [112, 114, 111, 116, 101, 99, 116, 105, 111, 110, 32, 115, 99, 104, 101, 109, 101, 32, 37, 100]).map FmtText.glue = some [.lit [112, 114, 111, 116, 101, 99, 116, 105, 111, 110, 32, 115, 99, 104, 101, 109, 101, 32], .verb {} 100] := by rfl
theorem t_text (n : Int) (hw : (Lit.int .i64 n).wf = true) : FmtText.text "fmt.Sprintf" (fReading n) = some (tText n) := by
  have hi := FmtText.operand_int_at (sh := Tryf.shape3) (k := .i64) rfl rfl n hw
  rw [fReading, FmtText.text_sprintf_glued t_parse (FmtText.operands_cons hi FmtText.operands_nil)]
  simp [FmtText.render, FmtText.printArg_d _ _ hw, tText]

/-- The name of scheme number n, as a string. -/
def nameS (n : Int) : ByteArray := ⟨(Plain.name n).toArray⟩
theorem nameS_of {s : ByteArray} {n : Int} (h : s.data.toList = Plain.name n) : s = nameS n := by
  apply ByteArray.ext
  apply Array.toList_inj.1
  rw [h]
  rfl
theorem name_else (n : Int) (h0 : n ≠ 0) (h1 : n ≠ 1) (h2 : n ≠ 2) : Plain.name n = tText n := by
  unfold Plain.name tText
  rw [if_neg h0, if_neg h1, if_neg h2]

theorem told_name (F : Interp) (n : Int) (hw : (Lit.int .i64 n).wf = true) (h0 : n ≠ 0) (h1 : n ≠ 1) (h2 : n ≠ 2) : FmtStop.textOf (F.told "fmt.Sprintf" (fReading n) 0) = nameS n := by
  apply nameS_of
  have hl := FmtText.itoa_length_le hw
  have ht := told_string F (t_text n hw) (by simp [tText]; omega)
  rw [textOf_list, ht, name_else n h0 h1 h2]

set_option maxHeartbeats 400000 in
theorem str_else (F : Interp) (n : Int) (w : World) (hF : F.answers w.tape) (h0 : (n == 0) = false) (h1 : (n == 1) = false) (h2 : (n == 2) = false) :
    Calls Tryf.prog 4 #[.int .i64 n] w fun e w' => e = .returned (.string (FmtStop.textOf (F "fmt.Sprintf" (fReading n) 0))) ∧ Below w.heap.size w w' := by
  have hF' := answers_open hF
  go_enter Tryf.func4, Tryf.ntmps4
  go_wp2
  go_ret
  exact ⟨rfl, ((Below.refl _ _).alloc (Nat.le_refl _) _).drew⟩
set_option maxHeartbeats 400000 in
theorem str_0 (w : World) : Calls Tryf.prog 4 #[.int .i64 0] w fun e w' => e = .returned (.string (nameS 0)) ∧ w' = w := by
  go_enter Tryf.func4, Tryf.ntmps4
  go_wp2
  go_ret
  exact ⟨rfl, rfl⟩
set_option maxHeartbeats 400000 in
theorem str_1 (w : World) : Calls Tryf.prog 4 #[.int .i64 1] w fun e w' => e = .returned (.string (nameS 1)) ∧ w' = w := by
  go_enter Tryf.func4, Tryf.ntmps4
  go_wp2
  go_ret
  exact ⟨rfl, rfl⟩
set_option maxHeartbeats 400000 in
theorem str_2 (w : World) : Calls Tryf.prog 4 #[.int .i64 2] w fun e w' => e = .returned (.string (nameS 2)) ∧ w' = w := by
  go_enter Tryf.func4, Tryf.ntmps4
  go_wp2
  go_ret
  exact ⟨rfl, rfl⟩

theorem str_any (F : Interp) (n : Int) (hw : (Lit.int .i64 n).wf = true) (w0 w : World) (hb : Below w0.heap.size w0 w) (hF : F.told.answers w0.tape) :
    Calls Tryf.prog 4 #[.int .i64 n] w fun e w' => e = .returned (.string (nameS n)) ∧ Below w0.heap.size w0 w' := by
  have hF1 : F.told.answers w.tape := by rw [hb.tape]; exact hF
  by_cases h0 : n = 0
  · subst h0; exact (str_0 w).mono fun e w' ⟨he, hw'⟩ => ⟨he, by rw [hw']; exact hb⟩
  by_cases h1 : n = 1
  · subst h1; exact (str_1 w).mono fun e w' ⟨he, hw'⟩ => ⟨he, by rw [hw']; exact hb⟩
  by_cases h2 : n = 2
  · subst h2; exact (str_2 w).mono fun e w' ⟨he, hw'⟩ => ⟨he, by rw [hw']; exact hb⟩
  refine (str_else F.told n w hF1 (beq_eq_false_iff_ne.2 h0) (beq_eq_false_iff_ne.2 h1) (beq_eq_false_iff_ne.2 h2)).mono fun e w' ⟨he, h⟩ => ⟨?_, hb.trans (h.mono hb.size)⟩
  rw [he, told_name F n hw h0 h1 h2]

theorem dec_any (n : Int) (h0 : n ≠ 0) (h1 : -9223372036854775808 ≤ n) (h2 : n ≤ 9223372036854775807) (w : World) :
    Calls Tryf.prog 7 #[.int .i64 n] w fun e w' => e = .returned (.string ⟨(Lib.itoa n).toArray⟩) ∧ Below w.heap.size w w' := by
  by_cases h : n < 0
  · obtain ⟨m, hm⟩ : ∃ m : Nat, n = -(m : Int) := ⟨n.natAbs, by omega⟩
    subst hm
    exact dec_neg m (by omega) (by omega) w
  · obtain ⟨m, rfl⟩ := Int.eq_ofNat_of_zero_le (show 0 ≤ n by omega)
    exact dec_pos m (by omega) (by omega) w

theorem txt_cat (n : Int) (h0 : n ≠ 0) (h1 : n ≠ 1) (h2 : n ≠ 2) : (⟨#[112, 114, 111, 116, 101, 99, 116, 105, 111, 110, 32, 115, 99, 104, 101, 109, 101, 32]⟩ : ByteArray) ++ ⟨(Lib.itoa n).toArray⟩ = nameS n := by
  apply nameS_of
  rw [Joins.data_append, name_else n h0 h1 h2]
  rfl

set_option maxHeartbeats 400000 in
theorem txt_else (n : Int) (h0 : (n == 0) = false) (h1 : (n == 1) = false) (h2 : (n == 2) = false) (b1 : -9223372036854775808 ≤ n) (b2 : n ≤ 9223372036854775807) (w : World) :
    Calls Tryf.prog 5 #[.int .i64 n] w fun e w' => e = .returned (.string (nameS n)) ∧ Below w.heap.size w w' := by
  have n0 := beq_eq_false_iff_ne.1 h0
  have n1 := beq_eq_false_iff_ne.1 h1
  have n2 := beq_eq_false_iff_ne.1 h2
  have HC : Hid _ := txt_cat n n0 n1 n2
  have HD := dec_any n n0 b1 b2
  have hts : (⟨(Lib.itoa n).toArray⟩ : ByteArray).size ≤ 21 := by
    show (Lib.itoa n).toArray.size ≤ 21
    rw [List.size_toArray]
    exact Lib.itoa_length_le n b1 b2
  generalize (⟨(Lib.itoa n).toArray⟩ : ByteArray) = t at *
  clear n0 n1 n2
  go_enter Tryf.func5, Tryf.ntmps5
  go_wp2_with fail
  refine (HD _).mono ?_
  clear HD
  rintro e w1 ⟨rfl, hb⟩
  go_wp2
  go_ret
  refine ⟨?_, hb⟩
  rw [← HC.out]
  rfl
set_option maxHeartbeats 400000 in
theorem txt_0 (w : World) : Calls Tryf.prog 5 #[.int .i64 0] w fun e w' => e = .returned (.string (nameS 0)) ∧ w' = w := by
  go_enter Tryf.func5, Tryf.ntmps5
  go_wp2
  go_ret
  exact ⟨rfl, rfl⟩
set_option maxHeartbeats 400000 in
theorem txt_1 (w : World) : Calls Tryf.prog 5 #[.int .i64 1] w fun e w' => e = .returned (.string (nameS 1)) ∧ w' = w := by
  go_enter Tryf.func5, Tryf.ntmps5
  go_wp2
  go_ret
  exact ⟨rfl, rfl⟩
set_option maxHeartbeats 400000 in
theorem txt_2 (w : World) : Calls Tryf.prog 5 #[.int .i64 2] w fun e w' => e = .returned (.string (nameS 2)) ∧ w' = w := by
  go_enter Tryf.func5, Tryf.ntmps5
  go_wp2
  go_ret
  exact ⟨rfl, rfl⟩
theorem txt_any (n : Int) (b1 : -9223372036854775808 ≤ n) (b2 : n ≤ 9223372036854775807) (w0 w : World) (hb : Below w0.heap.size w0 w) :
    Calls Tryf.prog 5 #[.int .i64 n] w fun e w' => e = .returned (.string (nameS n)) ∧ Below w0.heap.size w0 w' := by
  by_cases h0 : n = 0
  · subst h0; exact (txt_0 w).mono fun e w' ⟨he, hw'⟩ => ⟨he, by rw [hw']; exact hb⟩
  by_cases h1 : n = 1
  · subst h1; exact (txt_1 w).mono fun e w' ⟨he, hw'⟩ => ⟨he, by rw [hw']; exact hb⟩
  by_cases h2 : n = 2
  · subst h2; exact (txt_2 w).mono fun e w' ⟨he, hw'⟩ => ⟨he, by rw [hw']; exact hb⟩
  exact (txt_else n (beq_eq_false_iff_ne.2 h0) (beq_eq_false_iff_ne.2 h1) (beq_eq_false_iff_ne.2 h2) b1 b2 w).mono fun e w' ⟨he, h⟩ => ⟨he, hb.trans (h.mono hb.size)⟩

theorem name_eq (a b : Int) : ((nameS a).toList == (nameS b).toList) = (a == b) := by
  rw [Bool.eq_iff_iff, beq_iff_eq, beq_iff_eq]
  constructor
  · intro h
    apply Plain.name_inj
    simpa [nameS, ByteArray.toList_mk] using h
  · rintro rfl; rfl

set_option maxHeartbeats 400000 in
theorem law_any (F : Interp) (a b : Int) (ha : (Lit.int .i64 a).wf = true) (hb : (Lit.int .i64 b).wf = true) (b1 : -9223372036854775808 ≤ a) (b2 : a ≤ 9223372036854775807) (w : World) (hF : F.told.answers w.tape) :
    Calls Tryf.prog 3 #[.int .i64 a, .int .i64 b] w fun e w' => e = .returned (.bool true) ∧ Below w.heap.size w w' := by
  have hab := name_eq a b
  have HF : Hid (F.told.answers w.tape) := hF
  have HA : Hid ((Lit.int .i64 a).wf = true) := ha
  have HB : Hid ((Lit.int .i64 b).wf = true) := hb
  clear hF ha hb
  go_enter Tryf.func3, Tryf.ntmps3
  go_wp2_with fail
  refine (str_any F a HA.out w _ (Below.refl _ _) HF.out).mono ?_
  rintro e w1 ⟨rfl, hb1⟩
  go_wp2_with fail
  refine (str_any F b HB.out w _ hb1 HF.out).mono ?_
  rintro e w2 ⟨rfl, hb2⟩
  go_wp2_with fail
  refine (txt_any a b1 b2 w _ hb2).mono ?_
  rintro e w3 ⟨rfl, hb3⟩
  go_wp2
  go_ret
  exact ⟨rfl, hb3⟩
end Go.Proofs.Qxb6628278aFmt
