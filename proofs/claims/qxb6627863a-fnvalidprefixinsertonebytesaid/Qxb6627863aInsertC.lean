/-
  DERIVED. The walk of FnValidPrefixInsertOneByte, its further cases: sixteen bytes and more.
-/
import Derived.Test.Qxb6627863aInsert
namespace Go.Proofs.Qxb6627863a
open Go.RowKit

set_option maxHeartbeats 800000 in
theorem inl_top_ff (s : ByteArray) (i : Nat) (c : UInt8) (hc : s.size ≤ 1048576) (hi : i ≤ s.size) (h1 : 16 ≤ s.size) (h2 : s.size ≤ 16) (hvt : vpS (insS s i c) = false) (hks : hkS s = false) (hkt : hkS (insS s i c) = false) (hvd : vpS (digS s) = true) (w : World) :
    Calls Try.prog 3 #[.string s, .int .i64 (i : Int), .int .u8 (c.toNat : Int)] w fun e w' => e = .returned (.bool true) ∧ Below w.heap.size w w' := by
  have hcv := two_conv c
  have HS : Hid (s.size ≤ 4194304) := by show _ ≤ _; omega
  have HT : Hid ((insS s i c).size ≤ 4194304) := by show _ ≤ _; rw [insS_size s i c hi]; omega
  have HSS : Hid ((s ++ s).size ≤ 4194304) := by show _ ≤ _; rw [ByteArray.size_append]; omega
  have HC : Hid ((twoS c).size ≤ 4194304) := by show 2 ≤ _; omega
  have HD : Hid ((digS s).size ≤ 4194304) := by show _ ≤ _; rw [digS_size]; omega
  have f1 : ((s.size : Int) == 1) = false := by simp; omega
  have f2 : decide ((2 : Int) ≤ (s.size : Int)) = true := by simp; omega
  have f3 : decide ((s.size : Int) + 1 ≤ 16) = false := by simp; omega
  have f4 : decide ((s.size : Int) ≤ 16) = true := by simp; omega
  go_enter Try.func3, Try.ntmps3
  go_wp2_with (first | (go_at_call 5; refine (zb_c _ _ _ hc _).mono ?_; rintro e w' ⟨rfl, rfl⟩) | (go_at_call 6; refine (ins_c _ _ _ hc hi w _ (Below.refl _ _)).mono ?_; rintro e w1 ⟨rfl, hb1⟩) | (go_at_call_of 7 (Value.string s); refine (vpS_c _ HS.out _).mono ?_; rintro e w' ⟨rfl, rfl⟩) | (go_at_call_of 7 (Value.string (insS s i c)); refine (vpS_c _ HT.out _).mono ?_; rintro e w' ⟨rfl, rfl⟩) | (go_at_call_of 7 (Value.string (s ++ s)); refine (vpS_c _ HSS.out _).mono ?_; rintro e w' ⟨rfl, rfl⟩) | (go_at_call_of 7 (Value.string (twoS c)); refine (vpS_c _ HC.out _).mono ?_; rintro e w' ⟨rfl, rfl⟩) | (go_at_call_of 7 (Value.string (digS s)); refine (vpS_c _ HD.out _).mono ?_; rintro e w' ⟨rfl, rfl⟩) | (go_at_call_of 8 (Value.string s); refine (hkS_c _ HS.out w _ ?_).mono ?_; (first | assumption | exact hb1.alloc hb1.size _); rintro e w2 ⟨rfl, hb2⟩) | (go_at_call_of 8 (Value.string (insS s i c)); refine (hkS_c _ HT.out w _ ?_).mono ?_; (first | assumption | exact hb1.alloc hb1.size _); rintro e w2 ⟨rfl, hb2⟩) | (go_at_call 9; refine (digs_c _ hc w _ ?_).mono ?_; (first | assumption | exact hb1.alloc hb1.size _); rintro e w2 ⟨rfl, hb2⟩))
  all_goals
    go_ret
    exact ⟨rfl, by assumption⟩

set_option maxHeartbeats 800000 in
theorem inl_over_ff (s : ByteArray) (i : Nat) (c : UInt8) (hc : s.size ≤ 1048576) (hi : i ≤ s.size) (h1 : 16 < s.size) (hvs : vpS s = false) (hvt : vpS (insS s i c) = false) (hks : hkS s = false) (hkt : hkS (insS s i c) = false) (hvd : vpS (digS s) = false) (w : World) :
    Calls Try.prog 3 #[.string s, .int .i64 (i : Int), .int .u8 (c.toNat : Int)] w fun e w' => e = .returned (.bool true) ∧ Below w.heap.size w w' := by
  have hcv := two_conv c
  have HS : Hid (s.size ≤ 4194304) := by show _ ≤ _; omega
  have HT : Hid ((insS s i c).size ≤ 4194304) := by show _ ≤ _; rw [insS_size s i c hi]; omega
  have HSS : Hid ((s ++ s).size ≤ 4194304) := by show _ ≤ _; rw [ByteArray.size_append]; omega
  have HC : Hid ((twoS c).size ≤ 4194304) := by show 2 ≤ _; omega
  have HD : Hid ((digS s).size ≤ 4194304) := by show _ ≤ _; rw [digS_size]; omega
  have f1 : ((s.size : Int) == 1) = false := by simp; omega
  have f2 : decide ((2 : Int) ≤ (s.size : Int)) = true := by simp; omega
  have f3 : decide ((s.size : Int) + 1 ≤ 16) = false := by simp; omega
  have f4 : decide ((s.size : Int) ≤ 16) = false := by simp; omega
  go_enter Try.func3, Try.ntmps3
  go_wp2_with (first | (go_at_call 5; refine (zb_c _ _ _ hc _).mono ?_; rintro e w' ⟨rfl, rfl⟩) | (go_at_call 6; refine (ins_c _ _ _ hc hi w _ (Below.refl _ _)).mono ?_; rintro e w1 ⟨rfl, hb1⟩) | (go_at_call_of 7 (Value.string s); refine (vpS_c _ HS.out _).mono ?_; rintro e w' ⟨rfl, rfl⟩) | (go_at_call_of 7 (Value.string (insS s i c)); refine (vpS_c _ HT.out _).mono ?_; rintro e w' ⟨rfl, rfl⟩) | (go_at_call_of 7 (Value.string (s ++ s)); refine (vpS_c _ HSS.out _).mono ?_; rintro e w' ⟨rfl, rfl⟩) | (go_at_call_of 7 (Value.string (twoS c)); refine (vpS_c _ HC.out _).mono ?_; rintro e w' ⟨rfl, rfl⟩) | (go_at_call_of 7 (Value.string (digS s)); refine (vpS_c _ HD.out _).mono ?_; rintro e w' ⟨rfl, rfl⟩) | (go_at_call_of 8 (Value.string s); refine (hkS_c _ HS.out w _ ?_).mono ?_; (first | assumption | exact hb1.alloc hb1.size _); rintro e w2 ⟨rfl, hb2⟩) | (go_at_call_of 8 (Value.string (insS s i c)); refine (hkS_c _ HT.out w _ ?_).mono ?_; (first | assumption | exact hb1.alloc hb1.size _); rintro e w2 ⟨rfl, hb2⟩) | (go_at_call 9; refine (digs_c _ hc w _ ?_).mono ?_; (first | assumption | exact hb1.alloc hb1.size _); rintro e w2 ⟨rfl, hb2⟩))
  all_goals
    go_ret
    exact ⟨rfl, by assumption⟩

set_option maxHeartbeats 800000 in
theorem inl_top_ft (s : ByteArray) (i : Nat) (c : UInt8) (hc : s.size ≤ 1048576) (hi : i ≤ s.size) (h1 : 16 ≤ s.size) (h2 : s.size ≤ 16) (hvt : vpS (insS s i c) = false) (hks : hkS s = false) (hkt : hkS (insS s i c) = true) (hvd : vpS (digS s) = true) (w : World) :
    Calls Try.prog 3 #[.string s, .int .i64 (i : Int), .int .u8 (c.toNat : Int)] w fun e w' => e = .returned (.bool true) ∧ Below w.heap.size w w' := by
  have hcv := two_conv c
  have HS : Hid (s.size ≤ 4194304) := by show _ ≤ _; omega
  have HT : Hid ((insS s i c).size ≤ 4194304) := by show _ ≤ _; rw [insS_size s i c hi]; omega
  have HSS : Hid ((s ++ s).size ≤ 4194304) := by show _ ≤ _; rw [ByteArray.size_append]; omega
  have HC : Hid ((twoS c).size ≤ 4194304) := by show 2 ≤ _; omega
  have HD : Hid ((digS s).size ≤ 4194304) := by show _ ≤ _; rw [digS_size]; omega
  have f1 : ((s.size : Int) == 1) = false := by simp; omega
  have f2 : decide ((2 : Int) ≤ (s.size : Int)) = true := by simp; omega
  have f3 : decide ((s.size : Int) + 1 ≤ 16) = false := by simp; omega
  have f4 : decide ((s.size : Int) ≤ 16) = true := by simp; omega
  go_enter Try.func3, Try.ntmps3
  go_wp2_with (first | (go_at_call 5; refine (zb_c _ _ _ hc _).mono ?_; rintro e w' ⟨rfl, rfl⟩) | (go_at_call 6; refine (ins_c _ _ _ hc hi w _ (Below.refl _ _)).mono ?_; rintro e w1 ⟨rfl, hb1⟩) | (go_at_call_of 7 (Value.string s); refine (vpS_c _ HS.out _).mono ?_; rintro e w' ⟨rfl, rfl⟩) | (go_at_call_of 7 (Value.string (insS s i c)); refine (vpS_c _ HT.out _).mono ?_; rintro e w' ⟨rfl, rfl⟩) | (go_at_call_of 7 (Value.string (s ++ s)); refine (vpS_c _ HSS.out _).mono ?_; rintro e w' ⟨rfl, rfl⟩) | (go_at_call_of 7 (Value.string (twoS c)); refine (vpS_c _ HC.out _).mono ?_; rintro e w' ⟨rfl, rfl⟩) | (go_at_call_of 7 (Value.string (digS s)); refine (vpS_c _ HD.out _).mono ?_; rintro e w' ⟨rfl, rfl⟩) | (go_at_call_of 8 (Value.string s); refine (hkS_c _ HS.out w _ ?_).mono ?_; (first | assumption | exact hb1.alloc hb1.size _); rintro e w2 ⟨rfl, hb2⟩) | (go_at_call_of 8 (Value.string (insS s i c)); refine (hkS_c _ HT.out w _ ?_).mono ?_; (first | assumption | exact hb1.alloc hb1.size _); rintro e w2 ⟨rfl, hb2⟩) | (go_at_call 9; refine (digs_c _ hc w _ ?_).mono ?_; (first | assumption | exact hb1.alloc hb1.size _); rintro e w2 ⟨rfl, hb2⟩))
  all_goals
    go_ret
    exact ⟨rfl, by assumption⟩

set_option maxHeartbeats 800000 in
theorem inl_over_ft (s : ByteArray) (i : Nat) (c : UInt8) (hc : s.size ≤ 1048576) (hi : i ≤ s.size) (h1 : 16 < s.size) (hvs : vpS s = false) (hvt : vpS (insS s i c) = false) (hks : hkS s = false) (hkt : hkS (insS s i c) = true) (hvd : vpS (digS s) = false) (w : World) :
    Calls Try.prog 3 #[.string s, .int .i64 (i : Int), .int .u8 (c.toNat : Int)] w fun e w' => e = .returned (.bool true) ∧ Below w.heap.size w w' := by
  have hcv := two_conv c
  have HS : Hid (s.size ≤ 4194304) := by show _ ≤ _; omega
  have HT : Hid ((insS s i c).size ≤ 4194304) := by show _ ≤ _; rw [insS_size s i c hi]; omega
  have HSS : Hid ((s ++ s).size ≤ 4194304) := by show _ ≤ _; rw [ByteArray.size_append]; omega
  have HC : Hid ((twoS c).size ≤ 4194304) := by show 2 ≤ _; omega
  have HD : Hid ((digS s).size ≤ 4194304) := by show _ ≤ _; rw [digS_size]; omega
  have f1 : ((s.size : Int) == 1) = false := by simp; omega
  have f2 : decide ((2 : Int) ≤ (s.size : Int)) = true := by simp; omega
  have f3 : decide ((s.size : Int) + 1 ≤ 16) = false := by simp; omega
  have f4 : decide ((s.size : Int) ≤ 16) = false := by simp; omega
  go_enter Try.func3, Try.ntmps3
  go_wp2_with (first | (go_at_call 5; refine (zb_c _ _ _ hc _).mono ?_; rintro e w' ⟨rfl, rfl⟩) | (go_at_call 6; refine (ins_c _ _ _ hc hi w _ (Below.refl _ _)).mono ?_; rintro e w1 ⟨rfl, hb1⟩) | (go_at_call_of 7 (Value.string s); refine (vpS_c _ HS.out _).mono ?_; rintro e w' ⟨rfl, rfl⟩) | (go_at_call_of 7 (Value.string (insS s i c)); refine (vpS_c _ HT.out _).mono ?_; rintro e w' ⟨rfl, rfl⟩) | (go_at_call_of 7 (Value.string (s ++ s)); refine (vpS_c _ HSS.out _).mono ?_; rintro e w' ⟨rfl, rfl⟩) | (go_at_call_of 7 (Value.string (twoS c)); refine (vpS_c _ HC.out _).mono ?_; rintro e w' ⟨rfl, rfl⟩) | (go_at_call_of 7 (Value.string (digS s)); refine (vpS_c _ HD.out _).mono ?_; rintro e w' ⟨rfl, rfl⟩) | (go_at_call_of 8 (Value.string s); refine (hkS_c _ HS.out w _ ?_).mono ?_; (first | assumption | exact hb1.alloc hb1.size _); rintro e w2 ⟨rfl, hb2⟩) | (go_at_call_of 8 (Value.string (insS s i c)); refine (hkS_c _ HT.out w _ ?_).mono ?_; (first | assumption | exact hb1.alloc hb1.size _); rintro e w2 ⟨rfl, hb2⟩) | (go_at_call 9; refine (digs_c _ hc w _ ?_).mono ?_; (first | assumption | exact hb1.alloc hb1.size _); rintro e w2 ⟨rfl, hb2⟩))
  all_goals
    go_ret
    exact ⟨rfl, by assumption⟩

set_option maxHeartbeats 800000 in
theorem inl_top_tf (s : ByteArray) (i : Nat) (c : UInt8) (hc : s.size ≤ 1048576) (hi : i ≤ s.size) (h1 : 16 ≤ s.size) (h2 : s.size ≤ 16) (hvs : vpS s = false) (hvt : vpS (insS s i c) = false) (hks : hkS s = true) (hkt : hkS (insS s i c) = false) (hvd : vpS (digS s) = true) (w : World) :
    Calls Try.prog 3 #[.string s, .int .i64 (i : Int), .int .u8 (c.toNat : Int)] w fun e w' => e = .returned (.bool true) ∧ Below w.heap.size w w' := by
  have hcv := two_conv c
  have HS : Hid (s.size ≤ 4194304) := by show _ ≤ _; omega
  have HT : Hid ((insS s i c).size ≤ 4194304) := by show _ ≤ _; rw [insS_size s i c hi]; omega
  have HSS : Hid ((s ++ s).size ≤ 4194304) := by show _ ≤ _; rw [ByteArray.size_append]; omega
  have HC : Hid ((twoS c).size ≤ 4194304) := by show 2 ≤ _; omega
  have HD : Hid ((digS s).size ≤ 4194304) := by show _ ≤ _; rw [digS_size]; omega
  have f1 : ((s.size : Int) == 1) = false := by simp; omega
  have f2 : decide ((2 : Int) ≤ (s.size : Int)) = true := by simp; omega
  have f3 : decide ((s.size : Int) + 1 ≤ 16) = false := by simp; omega
  have f4 : decide ((s.size : Int) ≤ 16) = true := by simp; omega
  go_enter Try.func3, Try.ntmps3
  go_wp2_with (first | (go_at_call 5; refine (zb_c _ _ _ hc _).mono ?_; rintro e w' ⟨rfl, rfl⟩) | (go_at_call 6; refine (ins_c _ _ _ hc hi w _ (Below.refl _ _)).mono ?_; rintro e w1 ⟨rfl, hb1⟩) | (go_at_call_of 7 (Value.string s); refine (vpS_c _ HS.out _).mono ?_; rintro e w' ⟨rfl, rfl⟩) | (go_at_call_of 7 (Value.string (insS s i c)); refine (vpS_c _ HT.out _).mono ?_; rintro e w' ⟨rfl, rfl⟩) | (go_at_call_of 7 (Value.string (s ++ s)); refine (vpS_c _ HSS.out _).mono ?_; rintro e w' ⟨rfl, rfl⟩) | (go_at_call_of 7 (Value.string (twoS c)); refine (vpS_c _ HC.out _).mono ?_; rintro e w' ⟨rfl, rfl⟩) | (go_at_call_of 7 (Value.string (digS s)); refine (vpS_c _ HD.out _).mono ?_; rintro e w' ⟨rfl, rfl⟩) | (go_at_call_of 8 (Value.string s); refine (hkS_c _ HS.out w _ ?_).mono ?_; (first | assumption | exact hb1.alloc hb1.size _); rintro e w2 ⟨rfl, hb2⟩) | (go_at_call_of 8 (Value.string (insS s i c)); refine (hkS_c _ HT.out w _ ?_).mono ?_; (first | assumption | exact hb1.alloc hb1.size _); rintro e w2 ⟨rfl, hb2⟩) | (go_at_call 9; refine (digs_c _ hc w _ ?_).mono ?_; (first | assumption | exact hb1.alloc hb1.size _); rintro e w2 ⟨rfl, hb2⟩))
  all_goals
    go_ret
    exact ⟨rfl, by assumption⟩

set_option maxHeartbeats 800000 in
theorem inl_over_tf (s : ByteArray) (i : Nat) (c : UInt8) (hc : s.size ≤ 1048576) (hi : i ≤ s.size) (h1 : 16 < s.size) (hvs : vpS s = false) (hvt : vpS (insS s i c) = false) (hks : hkS s = true) (hkt : hkS (insS s i c) = false) (hvd : vpS (digS s) = false) (w : World) :
    Calls Try.prog 3 #[.string s, .int .i64 (i : Int), .int .u8 (c.toNat : Int)] w fun e w' => e = .returned (.bool true) ∧ Below w.heap.size w w' := by
  have hcv := two_conv c
  have HS : Hid (s.size ≤ 4194304) := by show _ ≤ _; omega
  have HT : Hid ((insS s i c).size ≤ 4194304) := by show _ ≤ _; rw [insS_size s i c hi]; omega
  have HSS : Hid ((s ++ s).size ≤ 4194304) := by show _ ≤ _; rw [ByteArray.size_append]; omega
  have HC : Hid ((twoS c).size ≤ 4194304) := by show 2 ≤ _; omega
  have HD : Hid ((digS s).size ≤ 4194304) := by show _ ≤ _; rw [digS_size]; omega
  have f1 : ((s.size : Int) == 1) = false := by simp; omega
  have f2 : decide ((2 : Int) ≤ (s.size : Int)) = true := by simp; omega
  have f3 : decide ((s.size : Int) + 1 ≤ 16) = false := by simp; omega
  have f4 : decide ((s.size : Int) ≤ 16) = false := by simp; omega
  go_enter Try.func3, Try.ntmps3
  go_wp2_with (first | (go_at_call 5; refine (zb_c _ _ _ hc _).mono ?_; rintro e w' ⟨rfl, rfl⟩) | (go_at_call 6; refine (ins_c _ _ _ hc hi w _ (Below.refl _ _)).mono ?_; rintro e w1 ⟨rfl, hb1⟩) | (go_at_call_of 7 (Value.string s); refine (vpS_c _ HS.out _).mono ?_; rintro e w' ⟨rfl, rfl⟩) | (go_at_call_of 7 (Value.string (insS s i c)); refine (vpS_c _ HT.out _).mono ?_; rintro e w' ⟨rfl, rfl⟩) | (go_at_call_of 7 (Value.string (s ++ s)); refine (vpS_c _ HSS.out _).mono ?_; rintro e w' ⟨rfl, rfl⟩) | (go_at_call_of 7 (Value.string (twoS c)); refine (vpS_c _ HC.out _).mono ?_; rintro e w' ⟨rfl, rfl⟩) | (go_at_call_of 7 (Value.string (digS s)); refine (vpS_c _ HD.out _).mono ?_; rintro e w' ⟨rfl, rfl⟩) | (go_at_call_of 8 (Value.string s); refine (hkS_c _ HS.out w _ ?_).mono ?_; (first | assumption | exact hb1.alloc hb1.size _); rintro e w2 ⟨rfl, hb2⟩) | (go_at_call_of 8 (Value.string (insS s i c)); refine (hkS_c _ HT.out w _ ?_).mono ?_; (first | assumption | exact hb1.alloc hb1.size _); rintro e w2 ⟨rfl, hb2⟩) | (go_at_call 9; refine (digs_c _ hc w _ ?_).mono ?_; (first | assumption | exact hb1.alloc hb1.size _); rintro e w2 ⟨rfl, hb2⟩))
  all_goals
    go_ret
    exact ⟨rfl, by assumption⟩

set_option maxHeartbeats 800000 in
theorem inl_top_tt (s : ByteArray) (i : Nat) (c : UInt8) (hc : s.size ≤ 1048576) (hi : i ≤ s.size) (h1 : 16 ≤ s.size) (h2 : s.size ≤ 16) (hvs : vpS s = false) (hvt : vpS (insS s i c) = false) (hks : hkS s = true) (hkt : hkS (insS s i c) = true) (hvd : vpS (digS s) = true) (w : World) :
    Calls Try.prog 3 #[.string s, .int .i64 (i : Int), .int .u8 (c.toNat : Int)] w fun e w' => e = .returned (.bool true) ∧ Below w.heap.size w w' := by
  have hcv := two_conv c
  have HS : Hid (s.size ≤ 4194304) := by show _ ≤ _; omega
  have HT : Hid ((insS s i c).size ≤ 4194304) := by show _ ≤ _; rw [insS_size s i c hi]; omega
  have HSS : Hid ((s ++ s).size ≤ 4194304) := by show _ ≤ _; rw [ByteArray.size_append]; omega
  have HC : Hid ((twoS c).size ≤ 4194304) := by show 2 ≤ _; omega
  have HD : Hid ((digS s).size ≤ 4194304) := by show _ ≤ _; rw [digS_size]; omega
  have f1 : ((s.size : Int) == 1) = false := by simp; omega
  have f2 : decide ((2 : Int) ≤ (s.size : Int)) = true := by simp; omega
  have f3 : decide ((s.size : Int) + 1 ≤ 16) = false := by simp; omega
  have f4 : decide ((s.size : Int) ≤ 16) = true := by simp; omega
  go_enter Try.func3, Try.ntmps3
  go_wp2_with (first | (go_at_call 5; refine (zb_c _ _ _ hc _).mono ?_; rintro e w' ⟨rfl, rfl⟩) | (go_at_call 6; refine (ins_c _ _ _ hc hi w _ (Below.refl _ _)).mono ?_; rintro e w1 ⟨rfl, hb1⟩) | (go_at_call_of 7 (Value.string s); refine (vpS_c _ HS.out _).mono ?_; rintro e w' ⟨rfl, rfl⟩) | (go_at_call_of 7 (Value.string (insS s i c)); refine (vpS_c _ HT.out _).mono ?_; rintro e w' ⟨rfl, rfl⟩) | (go_at_call_of 7 (Value.string (s ++ s)); refine (vpS_c _ HSS.out _).mono ?_; rintro e w' ⟨rfl, rfl⟩) | (go_at_call_of 7 (Value.string (twoS c)); refine (vpS_c _ HC.out _).mono ?_; rintro e w' ⟨rfl, rfl⟩) | (go_at_call_of 7 (Value.string (digS s)); refine (vpS_c _ HD.out _).mono ?_; rintro e w' ⟨rfl, rfl⟩) | (go_at_call_of 8 (Value.string s); refine (hkS_c _ HS.out w _ ?_).mono ?_; (first | assumption | exact hb1.alloc hb1.size _); rintro e w2 ⟨rfl, hb2⟩) | (go_at_call_of 8 (Value.string (insS s i c)); refine (hkS_c _ HT.out w _ ?_).mono ?_; (first | assumption | exact hb1.alloc hb1.size _); rintro e w2 ⟨rfl, hb2⟩) | (go_at_call 9; refine (digs_c _ hc w _ ?_).mono ?_; (first | assumption | exact hb1.alloc hb1.size _); rintro e w2 ⟨rfl, hb2⟩))
  all_goals
    go_ret
    exact ⟨rfl, by assumption⟩

set_option maxHeartbeats 800000 in
theorem inl_over_tt (s : ByteArray) (i : Nat) (c : UInt8) (hc : s.size ≤ 1048576) (hi : i ≤ s.size) (h1 : 16 < s.size) (hvs : vpS s = false) (hvt : vpS (insS s i c) = false) (hks : hkS s = true) (hkt : hkS (insS s i c) = true) (hvd : vpS (digS s) = false) (w : World) :
    Calls Try.prog 3 #[.string s, .int .i64 (i : Int), .int .u8 (c.toNat : Int)] w fun e w' => e = .returned (.bool true) ∧ Below w.heap.size w w' := by
  have hcv := two_conv c
  have HS : Hid (s.size ≤ 4194304) := by show _ ≤ _; omega
  have HT : Hid ((insS s i c).size ≤ 4194304) := by show _ ≤ _; rw [insS_size s i c hi]; omega
  have HSS : Hid ((s ++ s).size ≤ 4194304) := by show _ ≤ _; rw [ByteArray.size_append]; omega
  have HC : Hid ((twoS c).size ≤ 4194304) := by show 2 ≤ _; omega
  have HD : Hid ((digS s).size ≤ 4194304) := by show _ ≤ _; rw [digS_size]; omega
  have f1 : ((s.size : Int) == 1) = false := by simp; omega
  have f2 : decide ((2 : Int) ≤ (s.size : Int)) = true := by simp; omega
  have f3 : decide ((s.size : Int) + 1 ≤ 16) = false := by simp; omega
  have f4 : decide ((s.size : Int) ≤ 16) = false := by simp; omega
  go_enter Try.func3, Try.ntmps3
  go_wp2_with (first | (go_at_call 5; refine (zb_c _ _ _ hc _).mono ?_; rintro e w' ⟨rfl, rfl⟩) | (go_at_call 6; refine (ins_c _ _ _ hc hi w _ (Below.refl _ _)).mono ?_; rintro e w1 ⟨rfl, hb1⟩) | (go_at_call_of 7 (Value.string s); refine (vpS_c _ HS.out _).mono ?_; rintro e w' ⟨rfl, rfl⟩) | (go_at_call_of 7 (Value.string (insS s i c)); refine (vpS_c _ HT.out _).mono ?_; rintro e w' ⟨rfl, rfl⟩) | (go_at_call_of 7 (Value.string (s ++ s)); refine (vpS_c _ HSS.out _).mono ?_; rintro e w' ⟨rfl, rfl⟩) | (go_at_call_of 7 (Value.string (twoS c)); refine (vpS_c _ HC.out _).mono ?_; rintro e w' ⟨rfl, rfl⟩) | (go_at_call_of 7 (Value.string (digS s)); refine (vpS_c _ HD.out _).mono ?_; rintro e w' ⟨rfl, rfl⟩) | (go_at_call_of 8 (Value.string s); refine (hkS_c _ HS.out w _ ?_).mono ?_; (first | assumption | exact hb1.alloc hb1.size _); rintro e w2 ⟨rfl, hb2⟩) | (go_at_call_of 8 (Value.string (insS s i c)); refine (hkS_c _ HT.out w _ ?_).mono ?_; (first | assumption | exact hb1.alloc hb1.size _); rintro e w2 ⟨rfl, hb2⟩) | (go_at_call 9; refine (digs_c _ hc w _ ?_).mono ?_; (first | assumption | exact hb1.alloc hb1.size _); rintro e w2 ⟨rfl, hb2⟩))
  all_goals
    go_ret
    exact ⟨rfl, by assumption⟩

end Go.Proofs.Qxb6627863a
