/-
  DERIVED. The contracts of ValidPrefix and hasKeyPrefix.
-/
import Derived.Test.Qxb6627863aSmall
namespace Go.Proofs.Qxb6627863a
open Go.RowKit

theorem take_snoc (s : ByteArray) (k : Nat) (h : k < s.size) : s.data.toList.take (k + 1) = s.data.toList.take k ++ [s[k]] := by
  rw [List.take_succ_eq_append_getElem (by simpa using h)]; rfl

theorem all_step (s : ByteArray) (k : Nat) (h : k < s.size) (ha : (s.data.toList.take k).all Plain.pc = true) (hp : Plain.pcI (s[k].toNat : Int) = true) :
    (s.data.toList.take (k + 1)).all Plain.pc = true := by
  rw [take_snoc s k h, List.all_append, ha]
  simp [Plain.pc, hp]
theorem all_stop (s : ByteArray) (k : Nat) (h : k < s.size) (hp : Plain.pcI (s[k].toNat : Int) = false) : Plain.vp s.data.toList = false := by
  have : s.data.toList.all Plain.pc = false := by
    rw [List.all_eq_false]
    refine ⟨s[k], ?_, by simp [Plain.pc, hp]⟩
    have := Go.Proofs.byte_at s k h
    exact List.mem_of_getElem? this
  simp [Plain.vp, this]
theorem all_end (s : ByteArray) (h2 : 2 ≤ s.size) (h16 : s.size ≤ 16) (hk : Plain.hk s.data.toList = false) (k : Nat) (h : s.size ≤ k) (ha : (s.data.toList.take k).all Plain.pc = true) : Plain.vp s.data.toList = true := by
  rw [List.take_of_length_le (by simpa using h)] at ha
  simp [Plain.vp, hk, ha]
  exact ⟨h2, h16⟩

set_option maxHeartbeats 400000 in
theorem vp_any (s : ByteArray) (hs : s.size ≤ maxLen) (w : World) :
    Calls Try.prog 7 #[.string s] w fun e w' => e = .returned (.bool (Plain.vp s.data.toList)) ∧ w' = w := by
  have hs' := hs
  unfold maxLen at hs
  by_cases h2 : s.size < 2
  · have HE : Hid (Plain.vp s.data.toList = false) := by
      show _ = _
      simp [Plain.vp]; omega
    go_enter Try.func7, Try.ntmps7
    go_wp2
    go_ret
    exact ⟨ret_bool HE.out.symm, rfl⟩
  by_cases h16 : 16 < s.size
  · have HE : Hid (Plain.vp s.data.toList = false) := by
      show _ = _
      simp [Plain.vp]; omega
    go_enter Try.func7, Try.ntmps7
    go_wp2
    go_ret
    exact ⟨ret_bool HE.out.symm, rfl⟩
  cases hk : Plain.hk s.data.toList
  · have HS : Hid (s.size ≤ maxLen) := hs'
    have HK : Hid (Plain.hk s.data.toList = false) := hk
    clear hs'
    go_enter Try.func7, Try.ntmps7
    go_wp2_with (go_at_call 11; refine (hp11_any _ HS.out _).mono ?_; rintro e w' ⟨rfl, rfl⟩)
    go_loop [18] (fun i => ∃ k : Nat, k ≤ s.size ∧ i = .int .i64 k ∧ (s.data.toList.take k).all Plain.pc = true) (fun i => s.size - (intOf i).toNat)
    case atStart => exact ⟨0, Nat.zero_le _, rfl, by simp⟩
    case round =>
      obtain ⟨k, hk, rfl, hall⟩ := hrel
      have HA : Hid ((s.data.toList.take k).all Plain.pc = true) := hall
      clear hall
      by_cases hlt : k < s.size
      · cases hp : Plain.pcI (s[k].toNat : Int)
        · have HE : Hid (Plain.vp s.data.toList = false) := all_stop s k hlt hp
          go_wp2_with (go_at_call 12; refine (pchar_any _ _).mono ?_; rintro e w' ⟨rfl, rfl⟩)
          go_ret
          exact ⟨ret_bool HE.out.symm, rfl⟩
        · have HE : Hid ((s.data.toList.take (k + 1)).all Plain.pc = true) := all_step s k hlt HA.out hp
          go_wp2_with (go_at_call 12; refine (pchar_any _ _).mono ?_; rintro e w' ⟨rfl, rfl⟩)
          go_round
          case rel => exact ⟨k + 1, by omega, by go_num, HE.out⟩
          case measure => simp [intOf]; omega
      · have HE : Hid (Plain.vp s.data.toList = true) := all_end s (by omega) (by omega) HK.out k (by omega) HA.out
        go_wp2
        go_ret
        exact ⟨ret_bool HE.out.symm, rfl⟩
  · have HE : Hid (Plain.vp s.data.toList = false) := by
      show _ = _
      simp [Plain.vp, hk]
    go_enter Try.func7, Try.ntmps7
    go_wp2_with (go_at_call 11; refine (hp11_any _ hs' _).mono ?_; rintro e w' ⟨rfl, rfl⟩)
    go_ret
    exact ⟨ret_bool HE.out.symm, rfl⟩

theorem hk_at (s : ByteArray) (h : 3 ≤ s.size) : Plain.hk s.data.toList = (s[0] == 102 && s[1] == 107 && s[2] == 95) := by
  have b0 := Go.Proofs.byte_at s 0 (by omega)
  have b1 := Go.Proofs.byte_at s 1 (by omega)
  have b2 := Go.Proofs.byte_at s 2 (by omega)
  generalize s[0] = x0 at *
  generalize s[1] = x1 at *
  generalize s[2] = x2 at *
  generalize s.data.toList = l at *
  match l, b0, b1, b2 with
  | a :: b :: c :: r, b0, b1, b2 => simp at b0 b1 b2; subst b0 b1 b2; rfl
  | [], b0, _, _ => simp at b0
  | [_], _, b1, _ => simp at b1
  | [_, _], _, _, b2 => simp at b2

theorem bne_no {x y : UInt8} (h : ((x.toNat : Int) != (y.toNat : Int)) = false) : x = y := by
  apply UInt8.toNat_inj.1
  have h' : (x.toNat : Int) = (y.toNat : Int) := by simpa using h
  omega
theorem bne_yes {x y : UInt8} (h : ((x.toNat : Int) != (y.toNat : Int)) = true) : x ≠ y := by
  rintro rfl
  simp at h

set_option maxHeartbeats 400000 in
theorem hask_any (s : ByteArray) (hs : s.size ≤ maxLen) (w : World) :
    Calls Try.prog 8 #[.string s] w fun e w' => e = .returned (.bool (Plain.hk s.data.toList)) ∧ ∃ n, w' = w.drewN n := by
  unfold maxLen at hs
  by_cases h3 : 3 ≤ s.size
  · have hd : decide ((s.size : Int) < 3) = false := by simp; omega
    have HK : Hid (Plain.hk s.data.toList = (s[0] == 102 && s[1] == 107 && s[2] == 95)) := hk_at s h3
    go_enter Try.func8, Try.ntmps8
    go_wp2
    go_loopw [4] (fun i wr => ∃ k : Nat, k ≤ 3 ∧ i = .int .i64 k ∧ (1 ≤ k → s[0] = 102) ∧ (2 ≤ k → s[1] = 107) ∧ (3 ≤ k → s[2] = 95) ∧ ∃ n, wr = w.drewN n) (fun i _ => 3 - (intOf i).toNat)
    case atStart => exact ⟨0, by omega, rfl, by omega, by omega, by omega, 0, rfl⟩
    case round =>
      obtain ⟨k, hk, rfl, e0, e1, e2, n, rfl⟩ := hrel
      match k, hk with
      | 0, _ =>
        clear e0 e1 e2
        have p0 : (0 : Int) < (s.size : Int) := by omega
        have q0 : 0 < s.size := by omega
        go_wp2
        go_region
        go_wp2
        · have hh : ((s[0].toNat : Int) != (((⟨#[102, 107, 95]⟩ : ByteArray)[0]).toNat : Int)) = true := by assumption
          have hx := bne_yes hh
          go_ret
          refine ⟨ret_bool ?_, n + 1, rfl⟩
          rw [HK.out]
          have hy : (s[0] == 102) = false := beq_eq_false_iff_ne.2 hx
          simp [hy]
        · have hh : ((s[0].toNat : Int) != (((⟨#[102, 107, 95]⟩ : ByteArray)[0]).toNat : Int)) = false := by assumption
          have hx : s[0] = 102 := bne_no hh
          go_roundw
          case rel => exact ⟨1, by omega, rfl, fun _ => hx, by omega, by omega, n + 1, rfl⟩
          case measure => simp [intOf]
      | 1, _ =>
        have E0 : Hid (s[0] = 102) := e0 (by omega)
        clear e0 e1 e2
        have p0 : (1 : Int) < (s.size : Int) := by omega
        have q0 : 1 < s.size := by omega
        go_wp2
        go_region
        go_wp2
        · have hh : ((s[1].toNat : Int) != (((⟨#[102, 107, 95]⟩ : ByteArray)[1]).toNat : Int)) = true := by assumption
          have hx := bne_yes hh
          go_ret
          refine ⟨ret_bool ?_, n + 1, rfl⟩
          rw [HK.out]
          have hy : (s[1] == 107) = false := beq_eq_false_iff_ne.2 hx
          simp [hy]
        · have hh : ((s[1].toNat : Int) != (((⟨#[102, 107, 95]⟩ : ByteArray)[1]).toNat : Int)) = false := by assumption
          have hx : s[1] = 107 := bne_no hh
          go_roundw
          case rel => exact ⟨2, by omega, rfl, fun _ => E0.out, fun _ => hx, by omega, n + 1, rfl⟩
          case measure => simp [intOf]
      | 2, _ =>
        have E0 : Hid (s[0] = 102) := e0 (by omega)
        have E1 : Hid (s[1] = 107) := e1 (by omega)
        clear e0 e1 e2
        have p0 : (2 : Int) < (s.size : Int) := by omega
        have q0 : 2 < s.size := by omega
        go_wp2
        go_region
        go_wp2
        · have hh : ((s[2].toNat : Int) != (((⟨#[102, 107, 95]⟩ : ByteArray)[2]).toNat : Int)) = true := by assumption
          have hx := bne_yes hh
          go_ret
          refine ⟨ret_bool ?_, n + 1, rfl⟩
          rw [HK.out]
          have hy : (s[2] == 95) = false := beq_eq_false_iff_ne.2 hx
          simp [hy]
        · have hh : ((s[2].toNat : Int) != (((⟨#[102, 107, 95]⟩ : ByteArray)[2]).toNat : Int)) = false := by assumption
          have hx : s[2] = 95 := bne_no hh
          go_roundw
          case rel => exact ⟨3, by omega, rfl, fun _ => E0.out, fun _ => E1.out, fun _ => hx, n + 1, rfl⟩
          case measure => simp [intOf]
      | 3, _ =>
        have E0 : Hid (s[0] = 102) := e0 (by omega)
        have E1 : Hid (s[1] = 107) := e1 (by omega)
        have E2 : Hid (s[2] = 95) := e2 (by omega)
        clear e0 e1 e2
        go_wp2
        go_ret
        refine ⟨ret_bool ?_, n, rfl⟩
        rw [HK.out, E0.out, E1.out, E2.out]
        rfl
  · have HE : Hid (Plain.hk s.data.toList = false) := hk_short s h3
    have h3' : (s.size : Int) < 3 := by omega
    go_enter Try.func8, Try.ntmps8
    go_wp2
    go_ret
    exact ⟨ret_bool HE.out.symm, 0, rfl⟩

end Go.Proofs.Qxb6627863a
