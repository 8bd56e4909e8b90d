/-
  DERIVED. The walk of FnCheckLabelCutAtAnyPlace.
-/
import Derived.Test.Qxb6628172aFmtWalkA
import Derived.Lib.SmallJoins
import Derived.Deep.RegionWith
namespace Go.Proofs.Qxb6628172aFmt
open Go.RowKit Go.Extern.Stop Go.Stop Go.Extern

/-- CheckLabel, whole: from the call first world on nothing old turns. -/
theorem chk_any (F : Interp) (s : ByteArray) (w0 w : World) (hb : Below w0.heap.size w0 w) (hF : F.answers w0.tape) (hm : s.size ≤ 4194304) :
    Calls Tryf.prog 5 #[.string s] w fun e w' => (e = .returned .nilIface ∧ clS s = true ∨ (∃ a, e = .returned (.iface 30 (.pointer (some a)))) ∧ clS s = false) ∧ Below w0.heap.size w0 w' := by
  have hF1 : F.answers w.tape := by rw [hb.tape]; exact hF
  have hl : s.data.toList.length = s.size := by simp
  by_cases h0 : s.size = 0
  · exact (chk_empty F s w hF1 h0).mono fun e w' ⟨ha, h⟩ => ⟨Or.inr ⟨ha, Plain.cl_empty _ (by omega)⟩, hb.trans (h.mono hb.size)⟩
  by_cases h1 : 63 < s.size
  · exact (chk_long F s w hF1 hm h1).mono fun e w' ⟨ha, h⟩ => ⟨Or.inr ⟨ha, Plain.cl_long _ (by omega)⟩, hb.trans (h.mono hb.size)⟩
  cases hd : ((s[0].toNat : Int) == 45)
  · exact (chk_body F s w hF1 (by omega) (by omega) hd).mono fun e w' ⟨ha, h⟩ => ⟨ha, hb.trans (h.mono hb.size)⟩
  · exact (chk_dash F s w hF1 (by omega) (by omega) hd).mono fun e w' ⟨ha, h⟩ => ⟨Or.inr ⟨ha, Plain.cl_dash _ (head_yes s (by omega) hd)⟩, hb.trans (h.mono hb.size)⟩
theorem chk_t (F : Interp) (s : ByteArray) (w0 w : World) (hb : Below w0.heap.size w0 w) (hF : F.answers w0.tape) (hm : s.size ≤ 4194304) (h : clS s = true) :
    Calls Tryf.prog 5 #[.string s] w fun e w' => e = .returned .nilIface ∧ Below w0.heap.size w0 w' := by
  refine (chk_any F s w0 w hb hF hm).mono fun e w' ⟨ha, hb'⟩ => ?_
  rcases ha with ⟨he, _⟩ | ⟨_, hf⟩
  · exact ⟨he, hb'⟩
  · rw [h] at hf; cases hf
theorem chk_f (F : Interp) (s : ByteArray) (w0 w : World) (hb : Below w0.heap.size w0 w) (hF : F.answers w0.tape) (hm : s.size ≤ 4194304) (h : clS s = false) :
    Calls Tryf.prog 5 #[.string s] w fun e w' => ∃ a, e = .returned (.iface 30 (.pointer (some a))) ∧ Below w0.heap.size w0 w' := by
  refine (chk_any F s w0 w hb hF hm).mono fun e w' ⟨ha, hb'⟩ => ?_
  rcases ha with ⟨_, hf⟩ | ⟨⟨a, he⟩, _⟩
  · rw [h] at hf; cases hf
  · exact ⟨a, he, hb'⟩

set_option maxHeartbeats 400000 in
theorem zb_t (s : ByteArray) (k : Int) (hs : s.size ≤ 1048576) (w : World) :
    Calls Tryf.prog 4 #[.string s, .int .i64 k] w fun e w' => e = .returned (.bool true) ∧ w = w' := by
  go_enter Tryf.func4, Tryf.ntmps4
  go_wp2
  go_ret
  exact ⟨rfl, rfl⟩
set_option maxHeartbeats 400000 in
theorem zb_f (s : ByteArray) (k : Int) (hs : 1048576 < s.size) (hm : s.size ≤ maxLen) (w : World) :
    Calls Tryf.prog 4 #[.string s, .int .i64 k] w fun e w' => e = .returned (.bool false) ∧ w = w' := by
  unfold maxLen at hm
  go_enter Tryf.func4, Tryf.ntmps4
  go_wp2
  go_ret
  exact ⟨rfl, rfl⟩

set_option maxHeartbeats 400000 in
theorem lab_long (s : ByteArray) (k : Int) (h : 65536 < s.size) (hm : s.size ≤ maxLen) (w : World) :
    Calls Tryf.prog 3 #[.string s, .int .i64 k] w fun e w' => e = .returned (.bool true) ∧ Below w.heap.size w w' := by
  by_cases h1 : s.size ≤ 1048576
  · clear hm
    go_enter Tryf.func3, Tryf.ntmps3
    go_wp2_with (go_at_call 4; refine (zb_t _ _ h1 _).mono ?_; rintro e w' ⟨rfl, rfl⟩)
    go_ret
    exact ⟨rfl, Below.refl _ _⟩
  · have h2 : 1048576 < s.size := by omega
    have HM : Hid (s.size ≤ maxLen) := hm
    clear hm
    go_enter Tryf.func3, Tryf.ntmps3
    go_wp2_with (go_at_call 4; refine (zb_f _ _ h2 HM.out _).mono ?_; rintro e w' ⟨rfl, rfl⟩)
    go_ret
    exact ⟨rfl, Below.refl _ _⟩

set_option maxHeartbeats 400000 in
theorem lab_out (s : ByteArray) (k : Int) (h1 : 1 ≤ s.size) (h : s.size ≤ 65536) (ho : k < 1 ∨ (s.size : Int) < k) (w : World) :
    Calls Tryf.prog 3 #[.string s, .int .i64 k] w fun e w' => e = .returned (.bool true) ∧ Below w.heap.size w w' := by
  have h1 : s.size ≤ 1048576 := by omega
  have h0 : ((s.size : Int) == 0) = false := beq_eq_false_iff_ne.2 (by omega)
  rcases ho with ho | ho
  · go_enter Tryf.func3, Tryf.ntmps3
    go_wp2_with (go_at_call 4; refine (zb_t _ _ h1 _).mono ?_; rintro e w' ⟨rfl, rfl⟩)
    go_ret
    exact ⟨rfl, Below.refl _ _⟩
  · have ho' : ¬ k < 1 := by omega
    go_enter Tryf.func3, Tryf.ntmps3
    go_wp2_with (go_at_call 4; refine (zb_t _ _ h1 _).mono ?_; rintro e w' ⟨rfl, rfl⟩)
    go_ret
    exact ⟨rfl, Below.refl _ _⟩

set_option maxHeartbeats 400000 in
theorem lab_empty (F : Interp) (s : ByteArray) (k : Int) (h : s.size = 0) (w : World) (hF : F.answers w.tape) :
    Calls Tryf.prog 3 #[.string s, .int .i64 k] w fun e w' => e = .returned (.bool true) ∧ Below w.heap.size w w' := by
  have h1 : s.size ≤ 1048576 := by omega
  have HF : Hid (F.answers w.tape) := hF
  have hm : s.size ≤ 4194304 := by omega
  have HC : Hid (clS s = false) := Plain.cl_empty _ (by simpa using h)
  have HD : Hid (clS ⟨#[45]⟩ = false) := Plain.cl_dash _ rfl
  clear hF
  go_enter Tryf.func3, Tryf.ntmps3
  go_wp2_with (go_at_call 4; refine (zb_t _ _ h1 _).mono ?_; rintro e w' ⟨rfl, rfl⟩)
  refine (chk_f F _ w _ (Below.refl _ _) HF.out hm HC.out).mono ?_
  rintro e w1 ⟨a, rfl, hb1⟩
  go_wp2_with fail
  refine (chk_f F _ w _ hb1 HF.out (by decide) HD.out).mono ?_
  rintro e w2 ⟨a, rfl, hb2⟩
  go_wp2
  go_ret
  exact ⟨rfl, hb2⟩
theorem head_data (s : ByteArray) (k : Nat) : clS (s.extract 0 k) = Plain.cl (s.data.toList.take k) := by
  unfold clS
  rw [Lib.extract_data]
  rfl
theorem tail_data (c : UInt8) (s : ByteArray) (k : Nat) : clS (⟨#[c]⟩ ++ s.extract k s.size) = Plain.cl (c :: s.data.toList.drop k) := by
  unfold clS
  rw [Joins.data_append, Lib.extract_data, List.take_of_length_le (by simp)]
  rfl
theorem tail_size (c : UInt8) (s : ByteArray) (k : Nat) (h : s.size ≤ 65536) : (⟨#[c]⟩ ++ s.extract k s.size : ByteArray).size ≤ 4194304 := by
  rw [ByteArray.size_append, ByteArray.size_extract]
  have : (⟨#[c]⟩ : ByteArray).size = 1 := rfl
  omega
set_option maxHeartbeats 400000 in
theorem lab_over_tt (F : Interp) (s : ByteArray) (k : Nat) (h1 : 1 ≤ k) (hk : k ≤ s.size) (h : s.size ≤ 65536) (h63 : 63 < s.size) (hw : clS s = false) (hh : clS (s.extract 0 k) = true) (ht : clS (⟨#[48]⟩ ++ s.extract k s.size) = true) (hd : clS (⟨#[45]⟩ ++ s.extract k s.size) = false) (w : World) (hF : F.answers w.tape) :
    Calls Tryf.prog 3 #[.string s, .int .i64 (k : Int)] w fun e w' => e = .returned (.bool true) ∧ Below w.heap.size w w' := by
  have hz : s.size ≤ 1048576 := by omega
  have HF : Hid (F.answers w.tape) := hF
  have HW : Hid (clS s = false) := hw
  have HH : Hid (clS (s.extract 0 k) = true) := hh
  have HT : Hid (clS (⟨#[48]⟩ ++ s.extract k s.size) = true) := ht
  have HD : Hid (clS (⟨#[45]⟩ ++ s.extract k s.size) = false) := hd
  have Z0 : Hid (s.size ≤ 4194304) := by show _ ≤ _; omega
  have Z1 : Hid ((s.extract 0 k).size ≤ 4194304) := by show _ ≤ _; rw [ByteArray.size_extract]; omega
  have Z2 : Hid ((⟨#[48]⟩ ++ s.extract k s.size : ByteArray).size ≤ 4194304) := tail_size 48 s k h
  have Z3 : Hid ((⟨#[45]⟩ ++ s.extract k s.size : ByteArray).size ≤ 4194304) := tail_size 45 s k h
  have h0 : ((s.size : Int) == 0) = false := beq_eq_false_iff_ne.2 (by omega)
  have f63 : decide ((s.size : Int) ≤ 63) = false := by simp; omega
  have hb0 := Below.refl w.heap.size w
  clear hF hw hh ht hd
  go_enter Tryf.func3, Tryf.ntmps3
  go_wp2_with (go_at_call 4; refine (zb_t _ _ hz _).mono ?_; rintro e w' ⟨rfl, rfl⟩)
  refine (chk_f F _ w _ hb0 HF.out Z0.out HW.out).mono ?_
  rintro e w1 ⟨a1, rfl, hb1⟩
  go_wp2_with fail
  refine (chk_t F _ w _ hb1 HF.out Z1.out HH.out).mono ?_
  rintro e w2 ⟨rfl, hb2⟩
  go_wp2_with fail
  refine (chk_t F _ w _ hb2 HF.out Z2.out HT.out).mono ?_
  rintro e w3 ⟨rfl, hb3⟩
  go_wp2_with fail
  refine (chk_f F _ w _ hb3 HF.out Z3.out HD.out).mono ?_
  rintro e w4 ⟨a4, rfl, hb4⟩
  go_wp2
  go_ret
  exact ⟨rfl, hb4⟩
set_option maxHeartbeats 400000 in
theorem lab_in_tt (F : Interp) (s : ByteArray) (k : Nat) (h1 : 1 ≤ k) (hk : k ≤ s.size) (h : s.size ≤ 65536) (h63 : s.size ≤ 63) (hw : clS s = true) (hh : clS (s.extract 0 k) = true) (ht : clS (⟨#[48]⟩ ++ s.extract k s.size) = true) (hd : clS (⟨#[45]⟩ ++ s.extract k s.size) = false) (w : World) (hF : F.answers w.tape) :
    Calls Tryf.prog 3 #[.string s, .int .i64 (k : Int)] w fun e w' => e = .returned (.bool true) ∧ Below w.heap.size w w' := by
  have hz : s.size ≤ 1048576 := by omega
  have HF : Hid (F.answers w.tape) := hF
  have HW : Hid (clS s = true) := hw
  have HH : Hid (clS (s.extract 0 k) = true) := hh
  have HT : Hid (clS (⟨#[48]⟩ ++ s.extract k s.size) = true) := ht
  have HD : Hid (clS (⟨#[45]⟩ ++ s.extract k s.size) = false) := hd
  have Z0 : Hid (s.size ≤ 4194304) := by show _ ≤ _; omega
  have Z1 : Hid ((s.extract 0 k).size ≤ 4194304) := by show _ ≤ _; rw [ByteArray.size_extract]; omega
  have Z2 : Hid ((⟨#[48]⟩ ++ s.extract k s.size : ByteArray).size ≤ 4194304) := tail_size 48 s k h
  have Z3 : Hid ((⟨#[45]⟩ ++ s.extract k s.size : ByteArray).size ≤ 4194304) := tail_size 45 s k h
  have h0 : ((s.size : Int) == 0) = false := beq_eq_false_iff_ne.2 (by omega)
  have f63 : decide ((s.size : Int) ≤ 63) = true := by simp; omega
  have hb0 := Below.refl w.heap.size w
  clear hF hw hh ht hd
  go_enter Tryf.func3, Tryf.ntmps3
  go_wp2_with (go_at_call 4; refine (zb_t _ _ hz _).mono ?_; rintro e w' ⟨rfl, rfl⟩)
  refine (chk_t F _ w _ hb0 HF.out Z0.out HW.out).mono ?_
  rintro e w1 ⟨rfl, hb1⟩
  go_wp2_with fail
  refine (chk_t F _ w _ hb1 HF.out Z1.out HH.out).mono ?_
  rintro e w2 ⟨rfl, hb2⟩
  go_wp2_with fail
  refine (chk_t F _ w _ hb2 HF.out Z2.out HT.out).mono ?_
  rintro e w3 ⟨rfl, hb3⟩
  go_wp2_with fail
  refine (chk_f F _ w _ hb3 HF.out Z3.out HD.out).mono ?_
  rintro e w4 ⟨a4, rfl, hb4⟩
  go_wp2
  go_ret
  exact ⟨rfl, hb4⟩
set_option maxHeartbeats 400000 in
theorem lab_over_tf (F : Interp) (s : ByteArray) (k : Nat) (h1 : 1 ≤ k) (hk : k ≤ s.size) (h : s.size ≤ 65536) (h63 : 63 < s.size) (hw : clS s = false) (hh : clS (s.extract 0 k) = true) (ht : clS (⟨#[48]⟩ ++ s.extract k s.size) = false) (hd : clS (⟨#[45]⟩ ++ s.extract k s.size) = false) (w : World) (hF : F.answers w.tape) :
    Calls Tryf.prog 3 #[.string s, .int .i64 (k : Int)] w fun e w' => e = .returned (.bool true) ∧ Below w.heap.size w w' := by
  have hz : s.size ≤ 1048576 := by omega
  have HF : Hid (F.answers w.tape) := hF
  have HW : Hid (clS s = false) := hw
  have HH : Hid (clS (s.extract 0 k) = true) := hh
  have HT : Hid (clS (⟨#[48]⟩ ++ s.extract k s.size) = false) := ht
  have HD : Hid (clS (⟨#[45]⟩ ++ s.extract k s.size) = false) := hd
  have Z0 : Hid (s.size ≤ 4194304) := by show _ ≤ _; omega
  have Z1 : Hid ((s.extract 0 k).size ≤ 4194304) := by show _ ≤ _; rw [ByteArray.size_extract]; omega
  have Z2 : Hid ((⟨#[48]⟩ ++ s.extract k s.size : ByteArray).size ≤ 4194304) := tail_size 48 s k h
  have Z3 : Hid ((⟨#[45]⟩ ++ s.extract k s.size : ByteArray).size ≤ 4194304) := tail_size 45 s k h
  have h0 : ((s.size : Int) == 0) = false := beq_eq_false_iff_ne.2 (by omega)
  have f63 : decide ((s.size : Int) ≤ 63) = false := by simp; omega
  have hb0 := Below.refl w.heap.size w
  clear hF hw hh ht hd
  go_enter Tryf.func3, Tryf.ntmps3
  go_wp2_with (go_at_call 4; refine (zb_t _ _ hz _).mono ?_; rintro e w' ⟨rfl, rfl⟩)
  refine (chk_f F _ w _ hb0 HF.out Z0.out HW.out).mono ?_
  rintro e w1 ⟨a1, rfl, hb1⟩
  go_wp2_with fail
  refine (chk_t F _ w _ hb1 HF.out Z1.out HH.out).mono ?_
  rintro e w2 ⟨rfl, hb2⟩
  go_wp2_with fail
  refine (chk_f F _ w _ hb2 HF.out Z2.out HT.out).mono ?_
  rintro e w3 ⟨a3, rfl, hb3⟩
  go_wp2_with fail
  refine (chk_f F _ w _ hb3 HF.out Z3.out HD.out).mono ?_
  rintro e w4 ⟨a4, rfl, hb4⟩
  go_wp2
  go_ret
  exact ⟨rfl, hb4⟩
set_option maxHeartbeats 400000 in
theorem lab_in_tf (F : Interp) (s : ByteArray) (k : Nat) (h1 : 1 ≤ k) (hk : k ≤ s.size) (h : s.size ≤ 65536) (h63 : s.size ≤ 63) (hw : clS s = false) (hh : clS (s.extract 0 k) = true) (ht : clS (⟨#[48]⟩ ++ s.extract k s.size) = false) (hd : clS (⟨#[45]⟩ ++ s.extract k s.size) = false) (w : World) (hF : F.answers w.tape) :
    Calls Tryf.prog 3 #[.string s, .int .i64 (k : Int)] w fun e w' => e = .returned (.bool true) ∧ Below w.heap.size w w' := by
  have hz : s.size ≤ 1048576 := by omega
  have HF : Hid (F.answers w.tape) := hF
  have HW : Hid (clS s = false) := hw
  have HH : Hid (clS (s.extract 0 k) = true) := hh
  have HT : Hid (clS (⟨#[48]⟩ ++ s.extract k s.size) = false) := ht
  have HD : Hid (clS (⟨#[45]⟩ ++ s.extract k s.size) = false) := hd
  have Z0 : Hid (s.size ≤ 4194304) := by show _ ≤ _; omega
  have Z1 : Hid ((s.extract 0 k).size ≤ 4194304) := by show _ ≤ _; rw [ByteArray.size_extract]; omega
  have Z2 : Hid ((⟨#[48]⟩ ++ s.extract k s.size : ByteArray).size ≤ 4194304) := tail_size 48 s k h
  have Z3 : Hid ((⟨#[45]⟩ ++ s.extract k s.size : ByteArray).size ≤ 4194304) := tail_size 45 s k h
  have h0 : ((s.size : Int) == 0) = false := beq_eq_false_iff_ne.2 (by omega)
  have f63 : decide ((s.size : Int) ≤ 63) = true := by simp; omega
  have hb0 := Below.refl w.heap.size w
  clear hF hw hh ht hd
  go_enter Tryf.func3, Tryf.ntmps3
  go_wp2_with (go_at_call 4; refine (zb_t _ _ hz _).mono ?_; rintro e w' ⟨rfl, rfl⟩)
  refine (chk_f F _ w _ hb0 HF.out Z0.out HW.out).mono ?_
  rintro e w1 ⟨a1, rfl, hb1⟩
  go_wp2_with fail
  refine (chk_t F _ w _ hb1 HF.out Z1.out HH.out).mono ?_
  rintro e w2 ⟨rfl, hb2⟩
  go_wp2_with fail
  refine (chk_f F _ w _ hb2 HF.out Z2.out HT.out).mono ?_
  rintro e w3 ⟨a3, rfl, hb3⟩
  go_wp2_with fail
  refine (chk_f F _ w _ hb3 HF.out Z3.out HD.out).mono ?_
  rintro e w4 ⟨a4, rfl, hb4⟩
  go_wp2
  go_ret
  exact ⟨rfl, hb4⟩
set_option maxHeartbeats 400000 in
theorem lab_over_ft (F : Interp) (s : ByteArray) (k : Nat) (h1 : 1 ≤ k) (hk : k ≤ s.size) (h : s.size ≤ 65536) (h63 : 63 < s.size) (hw : clS s = false) (hh : clS (s.extract 0 k) = false) (ht : clS (⟨#[48]⟩ ++ s.extract k s.size) = true) (hd : clS (⟨#[45]⟩ ++ s.extract k s.size) = false) (w : World) (hF : F.answers w.tape) :
    Calls Tryf.prog 3 #[.string s, .int .i64 (k : Int)] w fun e w' => e = .returned (.bool true) ∧ Below w.heap.size w w' := by
  have hz : s.size ≤ 1048576 := by omega
  have HF : Hid (F.answers w.tape) := hF
  have HW : Hid (clS s = false) := hw
  have HH : Hid (clS (s.extract 0 k) = false) := hh
  have HT : Hid (clS (⟨#[48]⟩ ++ s.extract k s.size) = true) := ht
  have HD : Hid (clS (⟨#[45]⟩ ++ s.extract k s.size) = false) := hd
  have Z0 : Hid (s.size ≤ 4194304) := by show _ ≤ _; omega
  have Z1 : Hid ((s.extract 0 k).size ≤ 4194304) := by show _ ≤ _; rw [ByteArray.size_extract]; omega
  have Z2 : Hid ((⟨#[48]⟩ ++ s.extract k s.size : ByteArray).size ≤ 4194304) := tail_size 48 s k h
  have Z3 : Hid ((⟨#[45]⟩ ++ s.extract k s.size : ByteArray).size ≤ 4194304) := tail_size 45 s k h
  have h0 : ((s.size : Int) == 0) = false := beq_eq_false_iff_ne.2 (by omega)
  have f63 : decide ((s.size : Int) ≤ 63) = false := by simp; omega
  have hb0 := Below.refl w.heap.size w
  clear hF hw hh ht hd
  go_enter Tryf.func3, Tryf.ntmps3
  go_wp2_with (go_at_call 4; refine (zb_t _ _ hz _).mono ?_; rintro e w' ⟨rfl, rfl⟩)
  refine (chk_f F _ w _ hb0 HF.out Z0.out HW.out).mono ?_
  rintro e w1 ⟨a1, rfl, hb1⟩
  go_wp2_with fail
  refine (chk_f F _ w _ hb1 HF.out Z1.out HH.out).mono ?_
  rintro e w2 ⟨a2, rfl, hb2⟩
  go_wp2_with fail
  refine (chk_t F _ w _ hb2 HF.out Z2.out HT.out).mono ?_
  rintro e w3 ⟨rfl, hb3⟩
  go_wp2_with fail
  refine (chk_f F _ w _ hb3 HF.out Z3.out HD.out).mono ?_
  rintro e w4 ⟨a4, rfl, hb4⟩
  go_wp2
  go_ret
  exact ⟨rfl, hb4⟩
set_option maxHeartbeats 400000 in
theorem lab_in_ft (F : Interp) (s : ByteArray) (k : Nat) (h1 : 1 ≤ k) (hk : k ≤ s.size) (h : s.size ≤ 65536) (h63 : s.size ≤ 63) (hw : clS s = false) (hh : clS (s.extract 0 k) = false) (ht : clS (⟨#[48]⟩ ++ s.extract k s.size) = true) (hd : clS (⟨#[45]⟩ ++ s.extract k s.size) = false) (w : World) (hF : F.answers w.tape) :
    Calls Tryf.prog 3 #[.string s, .int .i64 (k : Int)] w fun e w' => e = .returned (.bool true) ∧ Below w.heap.size w w' := by
  have hz : s.size ≤ 1048576 := by omega
  have HF : Hid (F.answers w.tape) := hF
  have HW : Hid (clS s = false) := hw
  have HH : Hid (clS (s.extract 0 k) = false) := hh
  have HT : Hid (clS (⟨#[48]⟩ ++ s.extract k s.size) = true) := ht
  have HD : Hid (clS (⟨#[45]⟩ ++ s.extract k s.size) = false) := hd
  have Z0 : Hid (s.size ≤ 4194304) := by show _ ≤ _; omega
  have Z1 : Hid ((s.extract 0 k).size ≤ 4194304) := by show _ ≤ _; rw [ByteArray.size_extract]; omega
  have Z2 : Hid ((⟨#[48]⟩ ++ s.extract k s.size : ByteArray).size ≤ 4194304) := tail_size 48 s k h
  have Z3 : Hid ((⟨#[45]⟩ ++ s.extract k s.size : ByteArray).size ≤ 4194304) := tail_size 45 s k h
  have h0 : ((s.size : Int) == 0) = false := beq_eq_false_iff_ne.2 (by omega)
  have f63 : decide ((s.size : Int) ≤ 63) = true := by simp; omega
  have hb0 := Below.refl w.heap.size w
  clear hF hw hh ht hd
  go_enter Tryf.func3, Tryf.ntmps3
  go_wp2_with (go_at_call 4; refine (zb_t _ _ hz _).mono ?_; rintro e w' ⟨rfl, rfl⟩)
  refine (chk_f F _ w _ hb0 HF.out Z0.out HW.out).mono ?_
  rintro e w1 ⟨a1, rfl, hb1⟩
  go_wp2_with fail
  refine (chk_f F _ w _ hb1 HF.out Z1.out HH.out).mono ?_
  rintro e w2 ⟨a2, rfl, hb2⟩
  go_wp2_with fail
  refine (chk_t F _ w _ hb2 HF.out Z2.out HT.out).mono ?_
  rintro e w3 ⟨rfl, hb3⟩
  go_wp2_with fail
  refine (chk_f F _ w _ hb3 HF.out Z3.out HD.out).mono ?_
  rintro e w4 ⟨a4, rfl, hb4⟩
  go_wp2
  go_ret
  exact ⟨rfl, hb4⟩
set_option maxHeartbeats 400000 in
theorem lab_over_ff (F : Interp) (s : ByteArray) (k : Nat) (h1 : 1 ≤ k) (hk : k ≤ s.size) (h : s.size ≤ 65536) (h63 : 63 < s.size) (hw : clS s = false) (hh : clS (s.extract 0 k) = false) (ht : clS (⟨#[48]⟩ ++ s.extract k s.size) = false) (hd : clS (⟨#[45]⟩ ++ s.extract k s.size) = false) (w : World) (hF : F.answers w.tape) :
    Calls Tryf.prog 3 #[.string s, .int .i64 (k : Int)] w fun e w' => e = .returned (.bool true) ∧ Below w.heap.size w w' := by
  have hz : s.size ≤ 1048576 := by omega
  have HF : Hid (F.answers w.tape) := hF
  have HW : Hid (clS s = false) := hw
  have HH : Hid (clS (s.extract 0 k) = false) := hh
  have HT : Hid (clS (⟨#[48]⟩ ++ s.extract k s.size) = false) := ht
  have HD : Hid (clS (⟨#[45]⟩ ++ s.extract k s.size) = false) := hd
  have Z0 : Hid (s.size ≤ 4194304) := by show _ ≤ _; omega
  have Z1 : Hid ((s.extract 0 k).size ≤ 4194304) := by show _ ≤ _; rw [ByteArray.size_extract]; omega
  have Z2 : Hid ((⟨#[48]⟩ ++ s.extract k s.size : ByteArray).size ≤ 4194304) := tail_size 48 s k h
  have Z3 : Hid ((⟨#[45]⟩ ++ s.extract k s.size : ByteArray).size ≤ 4194304) := tail_size 45 s k h
  have h0 : ((s.size : Int) == 0) = false := beq_eq_false_iff_ne.2 (by omega)
  have f63 : decide ((s.size : Int) ≤ 63) = false := by simp; omega
  have hb0 := Below.refl w.heap.size w
  clear hF hw hh ht hd
  go_enter Tryf.func3, Tryf.ntmps3
  go_wp2_with (go_at_call 4; refine (zb_t _ _ hz _).mono ?_; rintro e w' ⟨rfl, rfl⟩)
  refine (chk_f F _ w _ hb0 HF.out Z0.out HW.out).mono ?_
  rintro e w1 ⟨a1, rfl, hb1⟩
  go_wp2_with fail
  refine (chk_f F _ w _ hb1 HF.out Z1.out HH.out).mono ?_
  rintro e w2 ⟨a2, rfl, hb2⟩
  go_wp2_with fail
  refine (chk_f F _ w _ hb2 HF.out Z2.out HT.out).mono ?_
  rintro e w3 ⟨a3, rfl, hb3⟩
  go_wp2_with fail
  refine (chk_f F _ w _ hb3 HF.out Z3.out HD.out).mono ?_
  rintro e w4 ⟨a4, rfl, hb4⟩
  go_wp2
  go_ret
  exact ⟨rfl, hb4⟩
set_option maxHeartbeats 400000 in
theorem lab_in_ff (F : Interp) (s : ByteArray) (k : Nat) (h1 : 1 ≤ k) (hk : k ≤ s.size) (h : s.size ≤ 65536) (h63 : s.size ≤ 63) (hw : clS s = false) (hh : clS (s.extract 0 k) = false) (ht : clS (⟨#[48]⟩ ++ s.extract k s.size) = false) (hd : clS (⟨#[45]⟩ ++ s.extract k s.size) = false) (w : World) (hF : F.answers w.tape) :
    Calls Tryf.prog 3 #[.string s, .int .i64 (k : Int)] w fun e w' => e = .returned (.bool true) ∧ Below w.heap.size w w' := by
  have hz : s.size ≤ 1048576 := by omega
  have HF : Hid (F.answers w.tape) := hF
  have HW : Hid (clS s = false) := hw
  have HH : Hid (clS (s.extract 0 k) = false) := hh
  have HT : Hid (clS (⟨#[48]⟩ ++ s.extract k s.size) = false) := ht
  have HD : Hid (clS (⟨#[45]⟩ ++ s.extract k s.size) = false) := hd
  have Z0 : Hid (s.size ≤ 4194304) := by show _ ≤ _; omega
  have Z1 : Hid ((s.extract 0 k).size ≤ 4194304) := by show _ ≤ _; rw [ByteArray.size_extract]; omega
  have Z2 : Hid ((⟨#[48]⟩ ++ s.extract k s.size : ByteArray).size ≤ 4194304) := tail_size 48 s k h
  have Z3 : Hid ((⟨#[45]⟩ ++ s.extract k s.size : ByteArray).size ≤ 4194304) := tail_size 45 s k h
  have h0 : ((s.size : Int) == 0) = false := beq_eq_false_iff_ne.2 (by omega)
  have f63 : decide ((s.size : Int) ≤ 63) = true := by simp; omega
  have hb0 := Below.refl w.heap.size w
  clear hF hw hh ht hd
  go_enter Tryf.func3, Tryf.ntmps3
  go_wp2_with (go_at_call 4; refine (zb_t _ _ hz _).mono ?_; rintro e w' ⟨rfl, rfl⟩)
  refine (chk_f F _ w _ hb0 HF.out Z0.out HW.out).mono ?_
  rintro e w1 ⟨a1, rfl, hb1⟩
  go_wp2_with fail
  refine (chk_f F _ w _ hb1 HF.out Z1.out HH.out).mono ?_
  rintro e w2 ⟨a2, rfl, hb2⟩
  go_wp2_with fail
  refine (chk_f F _ w _ hb2 HF.out Z2.out HT.out).mono ?_
  rintro e w3 ⟨a3, rfl, hb3⟩
  go_wp2_with fail
  refine (chk_f F _ w _ hb3 HF.out Z3.out HD.out).mono ?_
  rintro e w4 ⟨a4, rfl, hb4⟩
  go_wp2
  go_ret
  exact ⟨rfl, hb4⟩

theorem lab_any (F : Interp) (s : ByteArray) (k : Int) (hm : s.size ≤ maxLen) (w : World) (hF : F.answers w.tape) :
    Calls Tryf.prog 3 #[.string s, .int .i64 k] w fun e w' => e = .returned (.bool true) ∧ Below w.heap.size w w' := by
  by_cases c1 : 65536 < s.size
  · exact lab_long s k c1 hm w
  by_cases c2 : s.size = 0
  · exact lab_empty F s k c2 w hF
  by_cases c3 : k < 1 ∨ (s.size : Int) < k
  · exact lab_out s k (by omega) (by omega) c3 w
  obtain ⟨k, rfl⟩ := Int.eq_ofNat_of_zero_le (show 0 ≤ k by omega)
  have hl : s.data.toList.length = s.size := by simp
  have hd : clS (⟨#[45]⟩ ++ s.extract k s.size) = false := by rw [tail_data]; exact Plain.cl_dash _ rfl
  by_cases c4 : 63 < s.size
  · have hw : clS s = false := Plain.cl_long _ (by omega)
    cases hh : clS (s.extract 0 k) <;> cases ht : clS (⟨#[48]⟩ ++ s.extract k s.size)
    · exact lab_over_ff F s k (by omega) (by omega) (by omega) c4 hw hh ht hd w hF
    · exact lab_over_ft F s k (by omega) (by omega) (by omega) c4 hw hh ht hd w hF
    · exact lab_over_tf F s k (by omega) (by omega) (by omega) c4 hw hh ht hd w hF
    · exact lab_over_tt F s k (by omega) (by omega) (by omega) c4 hw hh ht hd w hF
  · have hw : clS s = (clS (s.extract 0 k) && clS (⟨#[48]⟩ ++ s.extract k s.size)) := by
      rw [head_data, tail_data]
      exact Plain.cut s.data.toList k (by omega) (by omega) (by omega)
    cases hh : clS (s.extract 0 k) <;> cases ht : clS (⟨#[48]⟩ ++ s.extract k s.size) <;> rw [hh, ht] at hw
    · exact lab_in_ff F s k (by omega) (by omega) (by omega) (by omega) hw hh ht hd w hF
    · exact lab_in_ft F s k (by omega) (by omega) (by omega) (by omega) hw hh ht hd w hF
    · exact lab_in_tf F s k (by omega) (by omega) (by omega) (by omega) hw hh ht hd w hF
    · exact lab_in_tt F s k (by omega) (by omega) (by omega) (by omega) hw hh ht hd w hF
end Go.Proofs.Qxb6628172aFmt
