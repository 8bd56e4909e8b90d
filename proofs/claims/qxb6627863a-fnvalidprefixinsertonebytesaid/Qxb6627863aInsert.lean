/-
  DERIVED. The walk of FnValidPrefixInsertOneByte, a case a theorem.
-/
import Derived.Test.Qxb6627863aKey
namespace Go.Proofs.Qxb6627863a
open Go.RowKit

def hkS (s : ByteArray) : Bool := Plain.hk s.data.toList
def insS (s : ByteArray) (i : Nat) (c : UInt8) : ByteArray := ⟨(ins s.data.toList i c).toArray⟩
def digS (s : ByteArray) : ByteArray := ⟨(s.data.toList.map Plain.dg).toArray⟩
def twoS (c : UInt8) : ByteArray := ⟨#[c, c]⟩

theorem zb_c (s : ByteArray) (k c : Int) (hs : s.size ≤ 1048576) (w : World) :
    Calls Try.prog 5 #[.string s, .int .i64 k, .int .u8 c] w fun e w' => e = .returned (.bool true) ∧ w = w' := by
  refine (zb5_any s k c (by unfold maxLen; omega) w).mono ?_
  rintro e w' ⟨rfl, rfl⟩
  exact ⟨ret_bool (by simpa using hs), rfl⟩
theorem vpS_c (s : ByteArray) (hs : s.size ≤ 4194304) (w : World) :
    Calls Try.prog 7 #[.string s] w fun e w' => e = .returned (.bool (vpS s)) ∧ w = w' := by
  refine (vpS_any s (by unfold maxLen; omega) w).mono ?_
  rintro e w' ⟨rfl, rfl⟩
  exact ⟨rfl, rfl⟩
theorem hkS_c (s : ByteArray) (hs : s.size ≤ 4194304) (w0 w : World) (hb : Below w0.heap.size w0 w) :
    Calls Try.prog 8 #[.string s] w fun e w' => e = .returned (.bool (hkS s)) ∧ Below w0.heap.size w0 w' := by
  refine (hask_any s (by unfold maxLen; omega) w).mono ?_
  rintro e w' ⟨rfl, n, rfl⟩
  exact ⟨rfl, below_drewN hb n⟩
theorem ins_c (s : ByteArray) (i : Nat) (c : UInt8) (hs : s.size ≤ 1048576) (hi : i ≤ s.size) (w0 w : World) (hb : Below w0.heap.size w0 w) :
    Calls Try.prog 6 #[.string s, .int .i64 (i : Int), .int .u8 (c.toNat : Int)] w fun e w' => e = .returned (.string (insS s i c)) ∧ Below w0.heap.size w0 w' := by
  refine (ins_any s i c hs hi w).mono ?_
  rintro e w' ⟨rfl, h⟩
  exact ⟨rfl, hb.trans (h.mono hb.size)⟩
theorem digs_c (s : ByteArray) (hs : s.size ≤ 1048576) (w0 w : World) (hb : Below w0.heap.size w0 w) :
    Calls Try.prog 9 #[.string s] w fun e w' => e = .returned (.string (digS s)) ∧ Below w0.heap.size w0 w' := by
  refine (digs_any s hs w).mono ?_
  rintro e w' ⟨rfl, h⟩
  exact ⟨rfl, hb.trans (h.mono hb.size)⟩
theorem two_conv (c : UInt8) (w : World) :
    (convert 24 9 (.slice (some ⟨w.heap.size, 0, none⟩) 2 2)).run Try.prog (w.alloc (.cells #[.int .u8 (c.toNat : Int), .int .u8 (c.toNat : Int)] 5)) = .ok (.string (twoS c)) (w.alloc (.cells #[.int .u8 (c.toNat : Int), .int .u8 (c.toNat : Int)] 5)) := by
  refine conv_row [c, c] _ w.heap.size 2 rfl ?_
  refine (World.rowIs_alloc w #[.int .u8 (c.toNat : Int), .int .u8 (c.toNat : Int)] 5 _ (fun i hi => ?_))
  match i, hi with
  | 0, _ => rfl
  | 1, _ => rfl

theorem insS_size (s : ByteArray) (i : Nat) (c : UInt8) (hi : i ≤ s.size) : (insS s i c).size = s.size + 1 := by
  show (ins s.data.toList i c).toArray.size = _
  rw [List.size_toArray, ins_length _ _ _ (by simpa using hi)]
  rfl
theorem digS_size (s : ByteArray) : (digS s).size = s.size := by
  show (s.data.toList.map Plain.dg).toArray.size = s.size
  rw [List.size_toArray, List.length_map]
  rfl

set_option maxHeartbeats 400000 in
theorem inl_long (s : ByteArray) (k c : Int) (h : 1048576 < s.size) (hm : s.size ≤ maxLen) (w : World) :
    Calls Try.prog 3 #[.string s, .int .i64 k, .int .u8 c] w fun e w' => e = .returned (.bool true) ∧ Below w.heap.size w w' := by
  have hd : decide (s.size ≤ 1048576) = false := by simp; omega
  have HML : Hid (s.size ≤ maxLen) := hm
  clear hm
  go_enter Try.func3, Try.ntmps3
  go_wp2_with (go_at_call 5; refine (zb5_any _ _ _ HML.out _).mono ?_; rintro e w' ⟨rfl, rfl⟩)
  go_ret
  exact ⟨rfl, Below.refl _ _⟩

set_option maxHeartbeats 400000 in
theorem inl_out (s : ByteArray) (k c : Int) (hs : s.size ≤ 1048576) (h : k < 0 ∨ (s.size : Int) < k) (w : World) :
    Calls Try.prog 3 #[.string s, .int .i64 k, .int .u8 c] w fun e w' => e = .returned (.bool true) ∧ Below w.heap.size w w' := by
  rcases h with h | h
  · go_enter Try.func3, Try.ntmps3
    go_wp2_with (go_at_call 5; refine (zb_c _ _ _ hs _).mono ?_; rintro e w' ⟨rfl, rfl⟩)
    go_ret
    exact ⟨rfl, Below.refl _ _⟩
  · have h' : ¬ k < 0 := by omega
    go_enter Try.func3, Try.ntmps3
    go_wp2_with (go_at_call 5; refine (zb_c _ _ _ hs _).mono ?_; rintro e w' ⟨rfl, rfl⟩)
    go_ret
    exact ⟨rfl, Below.refl _ _⟩

set_option maxHeartbeats 800000 in
theorem inl_zero (s : ByteArray) (i : Nat) (c : UInt8) (hc : s.size ≤ 1048576) (hi : i ≤ s.size) (h : s.size < 1) (hvs : vpS s = false) (hvt : vpS (insS s i c) = false) (hks : hkS s = false) (hkt : hkS (insS s i c) = false) (hvd : vpS (digS s) = false) (w : World) :
    Calls Try.prog 3 #[.string s, .int .i64 (i : Int), .int .u8 (c.toNat : Int)] w fun e w' => e = .returned (.bool true) ∧ Below w.heap.size w w' := by
  have hcv := two_conv c
  have HS : Hid (s.size ≤ 4194304) := by show _ ≤ _; omega
  have HT : Hid ((insS s i c).size ≤ 4194304) := by show _ ≤ _; rw [insS_size s i c hi]; omega
  have HSS : Hid ((s ++ s).size ≤ 4194304) := by show _ ≤ _; rw [ByteArray.size_append]; omega
  have HC : Hid ((twoS c).size ≤ 4194304) := by show 2 ≤ _; omega
  have HD : Hid ((digS s).size ≤ 4194304) := by show _ ≤ _; rw [digS_size]; omega
  have f1 : ((s.size : Int) == 1) = false := by simp; omega
  have f2 : decide ((2 : Int) ≤ (s.size : Int)) = false := by simp; omega
  go_enter Try.func3, Try.ntmps3
  go_wp2_with (first | (go_at_call 5; refine (zb_c _ _ _ hc _).mono ?_; rintro e w' ⟨rfl, rfl⟩) | (go_at_call 6; refine (ins_c _ _ _ hc hi w _ (Below.refl _ _)).mono ?_; rintro e w1 ⟨rfl, hb1⟩) | (go_at_call_of 7 (Value.string s); refine (vpS_c _ HS.out _).mono ?_; rintro e w' ⟨rfl, rfl⟩) | (go_at_call_of 7 (Value.string (insS s i c)); refine (vpS_c _ HT.out _).mono ?_; rintro e w' ⟨rfl, rfl⟩) | (go_at_call_of 7 (Value.string (s ++ s)); refine (vpS_c _ HSS.out _).mono ?_; rintro e w' ⟨rfl, rfl⟩) | (go_at_call_of 7 (Value.string (twoS c)); refine (vpS_c _ HC.out _).mono ?_; rintro e w' ⟨rfl, rfl⟩) | (go_at_call_of 7 (Value.string (digS s)); refine (vpS_c _ HD.out _).mono ?_; rintro e w' ⟨rfl, rfl⟩) | (go_at_call_of 8 (Value.string s); refine (hkS_c _ HS.out w _ ?_).mono ?_; (first | assumption | exact hb1.alloc hb1.size _); rintro e w2 ⟨rfl, hb2⟩) | (go_at_call_of 8 (Value.string (insS s i c)); refine (hkS_c _ HT.out w _ ?_).mono ?_; (first | assumption | exact hb1.alloc hb1.size _); rintro e w2 ⟨rfl, hb2⟩) | (go_at_call 9; refine (digs_c _ hc w _ ?_).mono ?_; (first | assumption | exact hb1.alloc hb1.size _); rintro e w2 ⟨rfl, hb2⟩))
  all_goals
    go_ret
    exact ⟨rfl, by assumption⟩

end Go.Proofs.Qxb6627863a
