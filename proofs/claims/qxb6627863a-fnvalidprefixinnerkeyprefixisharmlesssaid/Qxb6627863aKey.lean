/-
  DERIVED. The walk of FnValidPrefixInnerKeyPrefixIsHarmless where the text begins with the key mark and the place is the second or the third.
-/
import Derived.Test.Qxb6627863aHarmless
import Derived.Deep.RegionWith
namespace Go.Proofs.Qxb6627863a
open Go.RowKit

theorem ext13 : (⟨#[102, 107, 95]⟩ : ByteArray).extract 1 3 = ⟨#[107, 95]⟩ := by decide +kernel
/-- What ValidPrefix answers, of a string. -/
def vpS (s : ByteArray) : Bool := Plain.vp s.data.toList
theorem vpS_any (s : ByteArray) (hs : s.size ≤ maxLen) (w : World) :
    Calls Try.prog 7 #[.string s] w fun e w' => e = .returned (.bool (vpS s)) ∧ w' = w := vp_any s hs w

set_option maxHeartbeats 400000 in
theorem harm_key (s : ByteArray) (k : Nat) (hk0 : 0 < k) (hk : k ≤ s.size) (h3 : 3 ≤ s.size) (h16 : s.size + 3 ≤ 16) (hk3 : k < 3) (hh : Plain.hk s.data.toList = true) (w : World) :
    Calls Try.prog 4 #[.string s, .int .i64 (k : Int)] w fun e w' => e = .returned (.bool true) ∧ Below w.heap.size w w' := by
  have hd : decide (s.size ≤ 1048576) = true := by simp; omega
  have HML : Hid (s.size ≤ maxLen) := by show _ ≤ _; unfold maxLen; omega
  have HE : Hid (s.data.toList.length = s.size) := by show _ = _; simp
  have HL : Hid (s.data.toList.length ≤ 1048576) := by show _ ≤ _; rw [HE.out]; omega
  have hs : s.size ≤ 1048576 := by omega
  have hd16 : decide ((s.size : Int) + 3 ≤ 16) = true := by simp; omega
  have hne : ((s.size : Int) == 1) = false := by simp; omega
  have hlt : decide ((k : Int) < 3) = true := by simp; omega
  have HP : Hid (Plain.vp (Plain.put s.data.toList k) = Plain.vp ([107, 95] ++ s.data.toList.drop 3)) := Plain.put_key _ _ (by omega) hk3 hh (by rw [HE.out]; omega)
  have HV : Hid (Plain.vp s.data.toList = false) := Plain.vp_hk _ hh
  have HH : Hid (Plain.hk s.data.toList = true) := hh
  clear hh
  obtain ⟨b, hbb⟩ : ∃ b, Plain.vp ([107, 95] ++ s.data.toList.drop 3) = b := ⟨_, rfl⟩
  have HB : Hid (Plain.vp ([107, 95] ++ s.data.toList.drop 3) = b) := hbb
  clear hbb
  go_enter Try.func4, Try.ntmps4
  go_wp2_with (go_at_call 10; refine (zb10_any _ _ HML.out _).mono ?_; rintro e w' ⟨rfl, rfl⟩)
  go_region
  go_wp2_with fail
  refine (hask_is true _ ⟨HML.out, HH.out⟩ w' _ ?_).mono ?_
  · exact (Below.refl _ _).drew
  rintro e w1 ⟨rfl, hb0⟩
  go_wp2_with fail
  have hv : vpS s = false := HV.out
  have hvt : vpS (s.extract 0 k ++ ⟨#[102, 107, 95]⟩ ++ s.extract k s.size) = b := by
    show Plain.vp _ = b
    rw [put_str]
    exact HP.out.trans HB.out
  have hvk : vpS ((⟨#[102, 107, 95]⟩ : ByteArray).extract 1 3 ++ s.extract 3 s.size) = b := by
    rw [ext13]
    exact (key_is s hs h3).2.trans HB.out
  go_quiet ((go_at_call 7; refine Calls.quiet_of_same (vpS_any _ ?_ _); (try simp only [ByteArray.size_append, ByteArray.size_extract]); unfold maxLen; first | omega | (show _ + 3 + _ ≤ _; omega) | (show 2 + _ ≤ _; omega)))
  go_wp2_with fail
  refine (digs_is s hs w' _ ?_).mono ?_
  · exact below_drewN hb0 _
  clear hv hvt hvk
  rintro e w2 ⟨d, rfl, hdd, hd1, hd2, hb⟩
  have HD : Hid (d.data.toList = s.data.toList.map Plain.dg) := hdd
  have hkd : k ≤ d.size := by omega
  clear hdd
  go_wp2
  go_region
  go_wp2_with fail
  refine (vp_is true _ (put_is (put_str d k) ?_ ?_) _).mono ?_
  · rw [HD.out, List.length_map]; exact HL.out
  · rw [HD.out]; exact Plain.digs_put _ _ (by omega) (by rw [HE.out]; omega) (by rw [HE.out]; omega)
  rintro e w3 ⟨rfl, rfl⟩
  go_wp2
  go_ret
  exact ⟨rfl, hb.drew⟩

/-- THE WHOLE WALK. -/
theorem harm_any (s : ByteArray) (k : Int) (hs : s.size ≤ maxLen) (w : World) :
    Calls Try.prog 4 #[.string s, .int .i64 k] w fun e w' => e = .returned (.bool true) ∧ Below w.heap.size w w' := by
  by_cases h1 : 1048576 < s.size
  · exact harm_long s k h1 hs w
  by_cases h2 : k < 0 ∨ (s.size : Int) < k
  · exact harm_out s k (by omega) h2 w
  obtain ⟨k, rfl⟩ := Int.eq_ofNat_of_zero_le (show 0 ≤ k by omega)
  by_cases h3 : k = 0
  · subst h3
    exact harm_zero s (by omega) w
  by_cases h4 : 16 < s.size + 3
  · exact harm_over s k (by omega) (by omega) (by omega) h4 w
  by_cases h5 : s.size = 1
  · have hk : k = 1 := by omega
    subst hk
    exact harm_one s h5 w
  by_cases h6 : k < 3 ∧ Plain.hk s.data.toList = true
  · exact harm_key s k (by omega) (by omega) (hk_size s h6.2) (by omega) h6.1 h6.2 w
  · exact harm_else s k (by omega) (by omega) (by omega) (by omega) (fun h => by simpa [h] using h6) w
end Go.Proofs.Qxb6627863a
