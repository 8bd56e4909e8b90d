/-
  DERIVED. The walk of FnValidPrefixInnerKeyPrefixIsHarmless, a case a theorem.
-/
import Derived.Test.Qxb6627863aBytes
import Derived.Test.Qxb6627863aPlainLaws
import Derived.Lib.SmallJoins
namespace Go.Proofs.Qxb6627863a
open Go.RowKit

theorem vp_is (b : Bool) (s : ByteArray) (h : s.size ≤ maxLen ∧ Plain.vp s.data.toList = b) (w : World) :
    Calls Try.prog 7 #[.string s] w fun e w' => e = .returned (.bool b) ∧ w = w' := by
  obtain ⟨h1, rfl⟩ := h
  refine (vp_any s h1 w).mono ?_
  rintro e w' ⟨rfl, rfl⟩
  exact ⟨rfl, rfl⟩
theorem hask_is (b : Bool) (s : ByteArray) (h : s.size ≤ maxLen ∧ Plain.hk s.data.toList = b) (w0 w : World) (hb : Below w0.heap.size w0 w) :
    Calls Try.prog 8 #[.string s] w fun e w' => e = .returned (.bool b) ∧ Below w0.heap.size w0 w' := by
  obtain ⟨h1, rfl⟩ := h
  refine (hask_any s h1 w).mono ?_
  rintro e w' ⟨rfl, n, rfl⟩
  exact ⟨rfl, below_drewN hb n⟩
theorem digs_is (s : ByteArray) (hs : s.size ≤ 1048576) (w0 w : World) (hb : Below w0.heap.size w0 w) :
    Calls Try.prog 9 #[.string s] w fun e w' => ∃ d : ByteArray, e = .returned (.string d) ∧ d.data.toList = s.data.toList.map Plain.dg ∧ s.size ≤ d.size ∧ d.size ≤ s.size ∧ Below w0.heap.size w0 w' := by
  refine (digs_any s hs w).mono ?_
  rintro e w' ⟨rfl, h⟩
  have e : (⟨(s.data.toList.map Plain.dg).toArray⟩ : ByteArray).size = s.size := by
    show (s.data.toList.map Plain.dg).toArray.size = s.size
    rw [List.size_toArray, List.length_map]
    rfl
  exact ⟨_, rfl, rfl, Nat.le_of_eq e.symm, Nat.le_of_eq e, hb.trans (h.mono hb.size)⟩

/-- The text as the walk makes it. -/
theorem put_str (s : ByteArray) (k : Nat) : ((s.extract 0 k ++ ⟨#[102, 107, 95]⟩) ++ s.extract k s.size).data.toList = Plain.put s.data.toList k := by
  rw [Joins.data_append, Joins.data_append, Lib.extract_data, Lib.extract_data]
  simp only [Plain.put, List.drop_zero, Nat.sub_zero]
  congr 1
  exact List.take_of_length_le (by simp)
theorem put_size {t : ByteArray} {l : List UInt8} {k : Nat} (h : t.data.toList = Plain.put l k) (hl : l.length ≤ 1048576) : t.size ≤ maxLen := by
  have := Plain.put_length l k
  rw [← h] at this
  have e : t.data.toList.length = t.size := by simp
  unfold maxLen
  omega
theorem put_is {t : ByteArray} {l : List UInt8} {k : Nat} {b : Bool} (h : t.data.toList = Plain.put l k) (hl : l.length ≤ 1048576) (hv : Plain.vp (Plain.put l k) = b) : t.size ≤ maxLen ∧ Plain.vp t.data.toList = b :=
  ⟨put_size h hl, by rw [h]; exact hv⟩

set_option maxHeartbeats 400000 in
theorem harm_long (s : ByteArray) (k : Int) (h : 1048576 < s.size) (hm : s.size ≤ maxLen) (w : World) :
    Calls Try.prog 4 #[.string s, .int .i64 k] w fun e w' => e = .returned (.bool true) ∧ Below w.heap.size w w' := by
  have hd : decide (s.size ≤ 1048576) = false := by simp; omega
  have HML : Hid (s.size ≤ maxLen) := hm
  clear hm
  go_enter Try.func4, Try.ntmps4
  go_wp2_with (go_at_call 10; refine (zb10_any _ _ HML.out _).mono ?_; rintro e w' ⟨rfl, rfl⟩)
  go_ret
  exact ⟨rfl, Below.refl _ _⟩

set_option maxHeartbeats 400000 in
theorem harm_out (s : ByteArray) (k : Int) (hs : s.size ≤ 1048576) (h : k < 0 ∨ (s.size : Int) < k) (w : World) :
    Calls Try.prog 4 #[.string s, .int .i64 k] w fun e w' => e = .returned (.bool true) ∧ Below w.heap.size w w' := by
  have hd : decide (s.size ≤ 1048576) = true := by simp; omega
  have HML : Hid (s.size ≤ maxLen) := by show _ ≤ _; unfold maxLen; omega
  rcases h with h | h
  · go_enter Try.func4, Try.ntmps4
    go_wp2_with (go_at_call 10; refine (zb10_any _ _ HML.out _).mono ?_; rintro e w' ⟨rfl, rfl⟩)
    go_ret
    exact ⟨rfl, Below.refl _ _⟩
  · have h' : ¬ k < 0 := by omega
    go_enter Try.func4, Try.ntmps4
    go_wp2_with (go_at_call 10; refine (zb10_any _ _ HML.out _).mono ?_; rintro e w' ⟨rfl, rfl⟩)
    go_ret
    exact ⟨rfl, Below.refl _ _⟩

set_option maxHeartbeats 400000 in
theorem harm_zero (s : ByteArray) (hs : s.size ≤ 1048576) (w : World) :
    Calls Try.prog 4 #[.string s, .int .i64 0] w fun e w' => e = .returned (.bool true) ∧ Below w.heap.size w w' := by
  have hd : decide (s.size ≤ 1048576) = true := by simp; omega
  have HML : Hid (s.size ≤ maxLen) := by show _ ≤ _; unfold maxLen; omega
  have HL : Hid (s.data.toList.length ≤ 1048576) := by show _ ≤ _; simp; omega
  go_enter Try.func4, Try.ntmps4
  go_wp2_with (go_at_call 10; refine (zb10_any _ _ HML.out _).mono ?_; rintro e w' ⟨rfl, rfl⟩)
  go_region
  go_wp2_with fail
  refine (vp_is false _ (put_is (k := 0) ?_ HL.out (Plain.put_zero _)) _).mono ?_
  · rw [Joins.data_append]; rfl
  rintro e w1 ⟨rfl, rfl⟩
  go_wp2_with fail
  refine (digs_is s hs w' _ ?_).mono ?_
  · exact (Below.refl _ _).drew
  rintro e w2 ⟨d, rfl, hdd, hd1, hd2, hb⟩
  have HD : Hid (d.data.toList = s.data.toList.map Plain.dg) := hdd
  clear hdd
  go_wp2
  go_region
  go_wp2_with fail
  refine (vp_is false _ (put_is (k := 0) (l := s.data.toList.map Plain.dg) ?_ ?_ (Plain.put_zero _)) _).mono ?_
  · rw [Joins.data_append, HD.out]; rfl
  · rw [List.length_map]; exact HL.out
  rintro e w3 ⟨rfl, rfl⟩
  go_wp2
  go_ret
  exact ⟨rfl, hb.drew⟩


set_option maxHeartbeats 400000 in
theorem harm_over (s : ByteArray) (k : Nat) (hs : s.size ≤ 1048576) (hk0 : 0 < k) (hk : k ≤ s.size) (h16 : 16 < s.size + 3) (w : World) :
    Calls Try.prog 4 #[.string s, .int .i64 (k : Int)] w fun e w' => e = .returned (.bool true) ∧ Below w.heap.size w w' := by
  have hd : decide (s.size ≤ 1048576) = true := by simp; omega
  have HML : Hid (s.size ≤ maxLen) := by show _ ≤ _; unfold maxLen; omega
  have HE : Hid (s.data.toList.length = s.size) := by show _ = _; simp
  have HL : Hid (s.data.toList.length ≤ 1048576) := by show _ ≤ _; simp; omega
  have hd16 : decide ((s.size : Int) + 3 ≤ 16) = false := by simp; omega
  go_enter Try.func4, Try.ntmps4
  go_wp2_with (go_at_call 10; refine (zb10_any _ _ HML.out _).mono ?_; rintro e w' ⟨rfl, rfl⟩)
  go_region
  go_wp2_with fail
  refine (vp_is false _ (put_is (put_str s k) HL.out (Plain.put_long _ _ (by rw [HE.out]; omega))) _).mono ?_
  rintro e w1 ⟨rfl, rfl⟩
  go_wp2_with fail
  refine (digs_is s hs w' _ ?_).mono ?_
  · exact (Below.refl _ _).drew
  rintro e w2 ⟨d, rfl, hdd, hd1, hd2, hb⟩
  have HD : Hid (d.data.toList = s.data.toList.map Plain.dg) := hdd
  have hkd : k ≤ d.size := by omega
  clear hdd
  go_wp2
  go_region
  go_wp2_with fail
  refine (vp_is false _ (put_is (put_str d k) ?_ (Plain.put_long _ _ ?_)) _).mono ?_
  · rw [HD.out, List.length_map]; exact HL.out
  · rw [HD.out, List.length_map, HE.out]; omega
  rintro e w3 ⟨rfl, rfl⟩
  go_wp2
  go_ret
  exact ⟨rfl, hb.drew⟩

theorem dbl_is (s : ByteArray) (hs : s.size ≤ 1048576) : (s ++ s).size ≤ maxLen ∧ Plain.vp (s ++ s).data.toList = Plain.vp (s.data.toList ++ s.data.toList) := by
  refine ⟨?_, by rw [Joins.data_append]⟩
  rw [ByteArray.size_append]
  unfold maxLen
  omega

set_option maxHeartbeats 400000 in
theorem harm_one (s : ByteArray) (h1 : s.size = 1) (w : World) :
    Calls Try.prog 4 #[.string s, .int .i64 1] w fun e w' => e = .returned (.bool true) ∧ Below w.heap.size w w' := by
  have hd : decide (s.size ≤ 1048576) = true := by simp; omega
  have HML : Hid (s.size ≤ maxLen) := by show _ ≤ _; unfold maxLen; omega
  have HE : Hid (s.data.toList.length = 1) := by show _ = _; rw [← h1]; rfl
  have HL : Hid (s.data.toList.length ≤ 1048576) := by show _ ≤ _; rw [HE.out]; omega
  have hs : s.size ≤ 1048576 := by omega
  have hs1 : 1 ≤ s.size := by omega
  have hs2 : s.size ≤ 1 := by omega
  have hd16 : decide ((s.size : Int) + 3 ≤ 16) = true := by simp; omega
  clear h1
  go_enter Try.func4, Try.ntmps4
  go_wp2_with (go_at_call 10; refine (zb10_any _ _ HML.out _).mono ?_; rintro e w' ⟨rfl, rfl⟩)
  go_region
  go_wp2_with fail
  refine (vp_is (Plain.vp (s.data.toList ++ s.data.toList)) _ (put_is (put_str s 1) HL.out (Plain.put_one _ HE.out)) _).mono ?_
  rintro e w1 ⟨rfl, rfl⟩
  go_wp2_with fail
  refine (vp_is (Plain.vp (s.data.toList ++ s.data.toList)) _ (dbl_is s hs) _).mono ?_
  rintro e w1 ⟨rfl, rfl⟩
  go_wp2_with fail
  refine (digs_is s hs w' _ ?_).mono ?_
  · exact (Below.refl _ _).drew
  rintro e w2 ⟨d, rfl, hdd, hd1, hd2, hb⟩
  have HD : Hid (d.data.toList = s.data.toList.map Plain.dg) := hdd
  have hkd : 1 ≤ d.size := by omega
  clear hdd
  go_wp2
  go_region
  go_wp2_with fail
  refine (vp_is true _ (put_is (put_str d 1) ?_ ?_) _).mono ?_
  · rw [HD.out, List.length_map]; exact HL.out
  · rw [HD.out]; exact Plain.digs_put _ _ (by omega) (by rw [HE.out]; omega) (by rw [HE.out]; omega)
  rintro e w3 ⟨rfl, rfl⟩
  go_wp2
  go_ret
  exact ⟨rfl, hb.drew⟩

/-- The shared way behind the five arms. -/
theorem hk_size (s : ByteArray) (h : Plain.hk s.data.toList = true) : 3 ≤ s.size := by
  rcases Nat.lt_or_ge s.size 3 with h3 | h3
  · rw [hk_short s (by omega)] at h; cases h
  · exact h3

theorem key_is (s : ByteArray) (hs : s.size ≤ 1048576) (h3 : 3 ≤ s.size) : ((⟨#[107, 95]⟩ : ByteArray) ++ s.extract 3 s.size).size ≤ maxLen ∧ Plain.vp ((⟨#[107, 95]⟩ : ByteArray) ++ s.extract 3 s.size).data.toList = Plain.vp ([107, 95] ++ s.data.toList.drop 3) := by
  refine ⟨?_, ?_⟩
  · rw [ByteArray.size_append, ByteArray.size_extract]
    have : (⟨#[107, 95]⟩ : ByteArray).size = 2 := rfl
    unfold maxLen
    omega
  · rw [Joins.data_append, Lib.extract_data, List.take_of_length_le (by simp)]

set_option maxHeartbeats 400000 in
theorem harm_else (s : ByteArray) (k : Nat) (hk0 : 0 < k) (hk : k ≤ s.size) (h2 : 2 ≤ s.size) (h16 : s.size + 3 ≤ 16) (hh : k < 3 → Plain.hk s.data.toList = false) (w : World) :
    Calls Try.prog 4 #[.string s, .int .i64 (k : Int)] w fun e w' => e = .returned (.bool true) ∧ Below w.heap.size w w' := by
  have hd : decide (s.size ≤ 1048576) = true := by simp; omega
  have HML : Hid (s.size ≤ maxLen) := by show _ ≤ _; unfold maxLen; omega
  have HE : Hid (s.data.toList.length = s.size) := by show _ = _; simp
  have HL : Hid (s.data.toList.length ≤ 1048576) := by show _ ≤ _; rw [HE.out]; omega
  have hs : s.size ≤ 1048576 := by omega
  have hd16 : decide ((s.size : Int) + 3 ≤ 16) = true := by simp; omega
  have hne : ((s.size : Int) == 1) = false := by simp; omega
  have HP : Hid (Plain.vp (Plain.put s.data.toList k) = Plain.vp s.data.toList) := Plain.put_else _ _ (by omega) (by rw [HE.out]; omega) (by rw [HE.out]; omega) (by rw [HE.out]; omega) hh
  by_cases hk3 : k < 3
  · have HH : Hid (Plain.hk s.data.toList = false) := hh hk3
    clear hh
    go_enter Try.func4, Try.ntmps4
    go_wp2_with (go_at_call 10; refine (zb10_any _ _ HML.out _).mono ?_; rintro e w' ⟨rfl, rfl⟩)
    go_region
    go_wp2_with fail
    refine (hask_is false _ ⟨HML.out, HH.out⟩ w' _ ?_).mono ?_
    · exact (Below.refl _ _).drew
    rintro e w1 ⟨rfl, hb0⟩
    go_wp2_with fail
    refine (vp_is (Plain.vp s.data.toList) _ (put_is (put_str s k) HL.out HP.out) _).mono ?_
    rintro e w1 ⟨rfl, rfl⟩
    go_wp2_with fail
    refine (vp_is (Plain.vp s.data.toList) _ ⟨HML.out, rfl⟩ _).mono ?_
    rintro e w1 ⟨rfl, rfl⟩
    go_wp2_with fail
    refine (digs_is s hs w' _ ?_).mono ?_
    · exact hb0
    rintro e w2 ⟨d, rfl, hdd, hd1, hd2, hb⟩
    have HD : Hid (d.data.toList = s.data.toList.map Plain.dg) := hdd
    have hkd : k ≤ d.size := by omega
    clear hdd
    go_wp2
    go_region
    go_wp2_with fail
    refine (vp_is true _ (put_is (put_str d k) ?_ ?_) _).mono ?_
    · rw [HD.out, List.length_map]; exact HL.out
    · rw [HD.out]; exact Plain.digs_put _ _ (by omega) (by rw [HE.out]; omega) (by rw [HE.out]; omega)
    rintro e w3 ⟨rfl, rfl⟩
    go_wp2
    go_ret
    exact ⟨rfl, hb.drew⟩
  · clear hh
    go_enter Try.func4, Try.ntmps4
    go_wp2_with (go_at_call 10; refine (zb10_any _ _ HML.out _).mono ?_; rintro e w' ⟨rfl, rfl⟩)
    go_region
    go_wp2_with fail
    refine (vp_is (Plain.vp s.data.toList) _ (put_is (put_str s k) HL.out HP.out) _).mono ?_
    rintro e w1 ⟨rfl, rfl⟩
    go_wp2_with fail
    refine (vp_is (Plain.vp s.data.toList) _ ⟨HML.out, rfl⟩ _).mono ?_
    rintro e w1 ⟨rfl, rfl⟩
    go_wp2_with fail
    refine (digs_is s hs w' _ ?_).mono ?_
    · exact (Below.refl _ _).drew
    rintro e w2 ⟨d, rfl, hdd, hd1, hd2, hb⟩
    have HD : Hid (d.data.toList = s.data.toList.map Plain.dg) := hdd
    have hkd : k ≤ d.size := by omega
    clear hdd
    go_wp2
    go_region
    go_wp2_with fail
    refine (vp_is true _ (put_is (put_str d k) ?_ ?_) _).mono ?_
    · rw [HD.out, List.length_map]; exact HL.out
    · rw [HD.out]; exact Plain.digs_put _ _ (by omega) (by rw [HE.out]; omega) (by rw [HE.out]; omega)
    rintro e w3 ⟨rfl, rfl⟩
    go_wp2
    go_ret
    exact ⟨rfl, hb.drew⟩

end Go.Proofs.Qxb6627863a
