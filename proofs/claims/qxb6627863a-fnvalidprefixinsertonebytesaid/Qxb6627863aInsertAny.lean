/-
  DERIVED. FnValidPrefixInsertOneByte, the cases joined.
-/
import Derived.Test.Qxb6627863aInsertB
import Derived.Test.Qxb6627863aInsertC
namespace Go.Proofs.Qxb6627863a
open Go.RowKit

theorem hk_len (l : List UInt8) (h : l.length < 3) : Plain.hk l = false := by
  match l, h with
  | [], _ => rfl
  | [_], _ => rfl
  | [_, _], _ => rfl
  | _ :: _ :: _ :: _, h => simp at h; omega
theorem ins_all (l : List UInt8) (i : Nat) (c : UInt8) : (ins l i c).all Plain.pc = (l.all Plain.pc && Plain.pc c) := by
  unfold ins
  rw [List.all_append, List.all_cons]
  conv => rhs; rw [← List.take_append_drop i l, List.all_append]
  cases Plain.pc c <;> simp
theorem two_vp (c : UInt8) : vpS (twoS c) = Plain.pc c := by
  show Plain.vp [c, c] = _
  rw [Plain.vp_mid [c, c] (by simp) (by simp) rfl]
  simp
theorem dbl_vp (s : ByteArray) (h : s.size = 1) : vpS (s ++ s) = s.data.toList.all Plain.pc := by
  show Plain.vp (s ++ s).data.toList = _
  rw [Joins.data_append]
  have hl : s.data.toList.length = s.size := by simp
  rw [Plain.vp_mid _ (by rw [List.length_append]; omega) (by rw [List.length_append]; omega) (hk_len _ (by rw [List.length_append]; omega)), List.all_append]
  simp
theorem insS_data (s : ByteArray) (i : Nat) (c : UInt8) : (insS s i c).data.toList = ins s.data.toList i c := rfl
theorem dig_vp (s : ByteArray) : vpS (digS s) = (decide (2 ≤ s.size) && decide (s.size ≤ 16)) := by
  have h := Plain.digs_vp s.data.toList
  have hl : s.data.toList.length = s.size := by simp
  rw [hl] at h
  exact h

theorem inl_in (s : ByteArray) (i : Nat) (c : UInt8) (hc : s.size ≤ 1048576) (hi : i ≤ s.size) (w : World) :
    Calls Try.prog 3 #[.string s, .int .i64 (i : Int), .int .u8 (c.toNat : Int)] w fun e w' => e = .returned (.bool true) ∧ Below w.heap.size w w' := by
  have hl : s.data.toList.length = s.size := by simp
  have hil : (ins s.data.toList i c).length = s.size + 1 := by rw [ins_length _ _ _ (by omega), hl]
  have vshort : s.size < 2 → vpS s = false := fun h => Plain.vp_short _ (by omega)
  have vlong : 16 < s.size → vpS s = false := fun h => Plain.vp_long _ (by omega)
  have vtlong : 15 < s.size → vpS (insS s i c) = false := fun h => Plain.vp_long _ (by rw [insS_data]; omega)
  have kshort : s.size < 3 → hkS s = false := fun h => hk_len _ (by omega)
  have ktshort : s.size < 2 → hkS (insS s i c) = false := fun h => hk_len _ (by rw [insS_data]; omega)
  have vk : hkS s = true → vpS s = false := fun h => Plain.vp_hk _ h
  have vtk : hkS (insS s i c) = true → vpS (insS s i c) = false := fun h => Plain.vp_hk _ h
  have vtmid : 1 ≤ s.size → s.size ≤ 15 → hkS (insS s i c) = false → vpS (insS s i c) = (s.data.toList.all Plain.pc && Plain.pc c) := fun h1 h2 h => by
    rw [← ins_all s.data.toList i c]
    exact Plain.vp_mid _ (by rw [insS_data]; omega) (by rw [insS_data]; omega) h
  have vmid : 2 ≤ s.size → s.size ≤ 16 → hkS s = false → vpS s = s.data.toList.all Plain.pc := fun h1 h2 h => Plain.vp_mid _ (by omega) (by omega) h
  have vd := dig_vp s
  by_cases c0 : s.size < 1
  · exact inl_zero s i c hc hi c0 (vshort (by omega)) (Plain.vp_short _ (by rw [insS_data]; omega)) (kshort (by omega)) (ktshort (by omega)) (by rw [vd]; simp; omega) w
  by_cases c1 : s.size ≤ 1
  · have e1 := dbl_vp s (by omega)
    have e2 := vtmid (by omega) (by omega) (ktshort (by omega))
    have e3 := two_vp c
    have e4 : vpS (digS s) = false := by rw [vd]; simp; omega
    cases hb : s.data.toList.all Plain.pc
    · exact inl_one_f s i c hc hi (by omega) c1 (vshort (by omega)) (e1.trans hb) (by rw [e2, hb]; rfl) (kshort (by omega)) (ktshort (by omega)) e4 w
    · exact inl_one_t s i c hc hi (by omega) c1 (vshort (by omega)) (e1.trans hb) (by rw [e2, hb, e3]; rfl) (kshort (by omega)) (ktshort (by omega)) e4 w
  by_cases c2 : s.size ≤ 15
  · have e4 : vpS (digS s) = true := by rw [vd]; simp; omega
    cases hk : hkS s <;> cases hkt : hkS (insS s i c)
    · have e1 := vmid (by omega) (by omega) hk
      have e2 := vtmid (by omega) c2 hkt
      have e3 := two_vp c
      cases hb : s.data.toList.all Plain.pc
      · exact inl_mid_f s i c hc hi (by omega) c2 (e1.trans hb) (by rw [e2, hb]; rfl) hk hkt e4 w
      · exact inl_mid_t s i c hc hi (by omega) c2 (e1.trans hb) (by rw [e2, hb, e3]; rfl) hk hkt e4 w
    · exact inl_mid_ft s i c hc hi (by omega) c2 (vtk hkt) hk hkt e4 w
    · exact inl_mid_tf s i c hc hi (by omega) c2 (vk hk) hk hkt e4 w
    · exact inl_mid_tt s i c hc hi (by omega) c2 (vk hk) (vtk hkt) hk hkt e4 w
  by_cases c3 : s.size ≤ 16
  · have e4 : vpS (digS s) = true := by rw [vd]; simp; omega
    have e5 := vtlong (by omega)
    cases hk : hkS s <;> cases hkt : hkS (insS s i c)
    · exact inl_top_ff s i c hc hi (by omega) c3 e5 hk hkt e4 w
    · exact inl_top_ft s i c hc hi (by omega) c3 e5 hk hkt e4 w
    · exact inl_top_tf s i c hc hi (by omega) c3 (vk hk) e5 hk hkt e4 w
    · exact inl_top_tt s i c hc hi (by omega) c3 (vk hk) e5 hk hkt e4 w
  · have e4 : vpS (digS s) = false := by rw [vd]; simp; omega
    have e5 := vtlong (by omega)
    have e6 := vlong (by omega)
    cases hk : hkS s <;> cases hkt : hkS (insS s i c)
    · exact inl_over_ff s i c hc hi (by omega) e6 e5 hk hkt e4 w
    · exact inl_over_ft s i c hc hi (by omega) e6 e5 hk hkt e4 w
    · exact inl_over_tf s i c hc hi (by omega) e6 e5 hk hkt e4 w
    · exact inl_over_tt s i c hc hi (by omega) e6 e5 hk hkt e4 w

theorem inl_any (s : ByteArray) (k c : Int) (hs : s.size ≤ maxLen) (hc : 0 ≤ c ∧ c < 256) (w : World) :
    Calls Try.prog 3 #[.string s, .int .i64 k, .int .u8 c] w fun e w' => e = .returned (.bool true) ∧ Below w.heap.size w w' := by
  by_cases h1 : 1048576 < s.size
  · exact inl_long s k c h1 hs w
  by_cases h2 : k < 0 ∨ (s.size : Int) < k
  · exact inl_out s k c (by omega) h2 w
  obtain ⟨k, rfl⟩ := Int.eq_ofNat_of_zero_le (show 0 ≤ k by omega)
  obtain ⟨u, rfl⟩ : ∃ u : UInt8, c = (u.toNat : Int) := by
    refine ⟨UInt8.ofNat c.toNat, ?_⟩
    rw [UInt8.toNat_ofNat']
    have : c.toNat < 256 := by omega
    rw [Nat.mod_eq_of_lt this]
    omega
  exact inl_in s k u (by omega) (by omega) w
end Go.Proofs.Qxb6627863a
