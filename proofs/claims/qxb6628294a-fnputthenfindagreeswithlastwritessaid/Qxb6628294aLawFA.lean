/-
  DERIVED. The walk of FnPutThenFindAgreesWithLastWrites where both slices hold something.
-/
import Derived.Test.Qxb6628294aLawF
namespace Go.Proofs.Qxb6628294a
open Go.RowKit Go.Deep

set_option maxRecDepth 100000 in
set_option maxHeartbeats 1000000 in
theorem lawF_lt (bk ok lk ck bv ov lv cv : Nat) (q : Int) (zk zv : List Int) (w : World) (hk : ∀ i, i < lk → w.cell? ⟨bk, ok + i, none⟩ = some (.int .u32 (zk.getD i 0))) (hv : ∀ i, i < lv → w.cell? ⟨bv, ov + i, none⟩ = some (.int .i32 (zv.getD i 0)))
    (kr : ∀ i, 0 ≤ zk.getD i 0 ∧ zk.getD i 0 ≤ 4294967295) (hbk : bk < w.heap.size) (hbv : bv < w.heap.size) (h0 : 1 ≤ lk) (h1 : 1 ≤ lv) (b0 : lk ≤ 4096) (b1 : lv ≤ 4096) (q0 : 0 ≤ q) (q1 : q ≤ 4294967295) (hcmp : lv < lk) :
    Calls Try.prog 4 #[.slice (some ⟨bk, ok, none⟩) lk ck, .slice (some ⟨bv, ov, none⟩) lv cv, .int .u32 q] w fun e w' => e = .returned (.bool true) ∧ Below w.heap.size w w' := by
  have HZ := zb15_any (some ⟨bk, ok, none⟩) (some ⟨bv, ov, none⟩) lk ck lv cv q (by unfold maxLen; omega) (by unfold maxLen; omega) w
  have d0 : decide ((4096 : Int) < (lk : Int)) = false := by simp; omega
  have d1 : decide ((4096 : Int) < (lv : Int)) = false := by simp; omega
  have HK : Hid (∀ i, i < lv → w.cell? ⟨bk, ok + i, none⟩ = some (.int .u32 (zk.getD i 0))) := fun i hi => hk i (by omega)
  have HV : Hid (∀ i, i < lv → w.cell? ⟨bv, ov + i, none⟩ = some (.int .i32 (zv.getD i 0))) := fun i hi => hv i (by omega)
  have HKR : Hid (∀ i, 0 ≤ zk.getD i 0 ∧ zk.getD i 0 ≤ 4294967295) := kr
  have hnk : lv ≤ lk := by omega
  have hnv : lv ≤ lv := by omega
  clear hk hv kr
  go_enter Try.func4, Try.ntmps4
  go_wp2_with fail
  refine HZ.mono ?_
  rintro e w' ⟨⟨b, rfl, hb⟩, rfl⟩
  clear HZ
  obtain rfl := hb (by omega) (by omega)
  clear hb
  go_wp2
  go_loop [8] (fun t => ∃ x : Nat, x ≤ lv ∧ t = .int .i64 (x : Int) ∧ Hid (∀ y, y < x → 0 ≤ zv.getD y 0 ∧ zv.getD y 0 ≤ 2147483646)) (fun t => lv - (intOf t).toNat)
  case atStart => exact ⟨0, by omega, rfl, fun y hy => by omega⟩
  case round =>
    obtain ⟨x, hx, rfl, HA⟩ := hrel
    by_cases hlt : x < lv
    · have hcv := HV.out x hlt
      have HA2 : Hid ((0 ≤ zv.getD x 0 ∧ zv.getD x 0 ≤ 2147483646) → ∀ y, y < x + 1 → 0 ≤ zv.getD y 0 ∧ zv.getD y 0 ≤ 2147483646) := fun e y hy => by
        by_cases ey : y = x
        · subst ey; exact e
        · exact HA.out y (by omega)
      generalize zv.getD x 0 = v at *
      by_cases v0 : v < 0
      · clear HA2
        go_wp2
        go_ret
        exact ⟨rfl, Below.refl _ _⟩
      · by_cases v1 : 2147483646 < v
        · clear HA2
          go_wp2
          go_ret
          exact ⟨rfl, Below.refl _ _⟩
        · have HN : Hid (∀ y, y < x + 1 → 0 ≤ zv.getD y 0 ∧ zv.getD y 0 ≤ 2147483646) := HA2.out ⟨by omega, by omega⟩
          clear HA2
          go_wp2
          go_round
          case rel => exact ⟨x + 1, by omega, by go_num, HN.out⟩
          case measure => simp [intOf]; omega
    · obtain rfl : lv = x := by omega
      have HVR : Hid (∀ y, y < lv → 0 ≤ zv.getD y 0 ∧ zv.getD y 0 ≤ 2147483646) := HA.out
      clear HA hlt hx
      go_wp2
      go_loopw [10] (fun t wr => ∃ x : Nat, x ≤ lv ∧ t = .int .i64 (x : Int) ∧ Tbl wr w.heap.size (Plain.lw zk zv x) ∧ Below w.heap.size w wr) (fun t _ => lv - (intOf t).toNat)
      case atStart => exact ⟨0, by omega, rfl, Or.inl ⟨rfl, head_start w⟩, (Below.refl _ _).alloc (Nat.le_refl _) _⟩
      case round =>
        obtain ⟨x, hx, rfl, hT, hB⟩ := hrel
        by_cases hlt : x < lv
        · have hck : wr.cell? ⟨bk, ok + x, none⟩ = some (.int .u32 (zk.getD x 0)) := (hB.cell hbk).trans (HK.out x hlt)
          have hcv : wr.cell? ⟨bv, ov + x, none⟩ = some (.int .i32 (zv.getD x 0)) := (hB.cell hbv).trans (HV.out x hlt)
          have HP := put_any hT.drew (zk.getD x 0) (zv.getD x 0) (HKR.out x).1 (HKR.out x).2 (HVR.out x hlt).1 (HVR.out x hlt).2 (by have := Plain.lw_le zk zv x; omega) (Plain.lw_keys zk zv _ HKR.out x)
          have HS : Hid (Plain.lw zk zv (x + 1) = Plain.wr (Plain.lw zk zv x) (zk.getD x 0) (zv.getD x 0)) := rfl
          generalize zk.getD x 0 = k at *
          generalize zv.getD x 0 = v at *
          clear hT
          go_wp2
          go_region_with (go_at_call 6; refine HP.mono ?_; rintro e w2 ⟨rfl, hT2, hB2⟩)
          all_goals
            go_wp2
            go_roundw
            case rel => exact ⟨x + 1, by omega, by go_num, by rw [HS.out]; exact hT2, (hB.drew).trans hB2⟩
            case measure => simp [intOf]; omega
        · obtain rfl : lv = x := by omega
          clear hlt hx
          have HL := last_any wr bk ok lk ck bv ov lv cv lv zk zv (fun i hi => (hB.cell hbk).trans (HK.out i hi)) (fun i hi => (hB.cell hbv).trans (HV.out i hi)) (Nat.lt_of_lt_of_le hbk hB.size) (Nat.lt_of_lt_of_le hbv hB.size) hnk hnv (by omega)
          have hM1 := lw_pos zk zv lv (by omega)
          have hM2 := Plain.lw_le zk zv lv
          have HKM : Hid (∀ y ∈ (Plain.lw zk zv lv).1, 0 ≤ y ∧ y ≤ 4294967295) := Plain.lw_keys zk zv _ HKR.out lv
          have HVM : Hid (∀ y ∈ (Plain.lw zk zv lv).2, 0 ≤ y ∧ y ≤ 2147483646) := Plain.lw_vals zk zv _ lv HVR.out lv (Nat.le_refl _)
          generalize Plain.lw zk zv lv = m at *
          go_wp2_with fail
          refine HL.mono ?_
          clear HL
          rintro e w2 ⟨rfl, hTwo⟩
          obtain ⟨C, cap, B, S, K, V, hF⟩ := (hT.below hTwo.below).full hM1
          have hB2 : Below w.heap.size w w2 := hB.trans (hTwo.below.mono hB.size)
          have htab := hF.tab
          have HREP : Hid (Plain.Rep (home S) S K V m) := hF.rep
          have hS16 := hF.h16
          have hSl := hF.load
          have hSs := hF.hs
          have HLEN : Hid (m.2.length = m.1.length) := hF.rep.len
          clear hF hT hB
          have HDK : Hid (w2.rowIs wr.heap.size 29 lv (fun x => .int .u32 (m.1.getD x 0))) := hTwo.dk
          have HDV : Hid (w2.rowIs (wr.heap.size + 1) 21 lv (fun x => .int .i32 (m.2.getD x 0))) := hTwo.dv
          clear hTwo
          obtain ⟨M, hM⟩ : ∃ M, M = m.1.length := ⟨_, rfl⟩
          have HM : Hid (M = m.1.length) := hM
          rw [← hM] at htab hM1 hM2 hSl ⊢
          clear hM
          have HFREE : Hid (∃ i, i < S ∧ V i = 0) := Plain.rep_free HREP.out (by rw [← HM.out]; omega)
          generalize wr.heap.size = D at *
          have c1 := htab.c1
          have e0 : ((M : Int) == 0) = false := beq_eq_false_iff_ne.2 (by omega)
          have e1 : decide ((S : Int) ≤ 0) = false := by simp; omega
          have e2 : decide ((3 : Int) * (S : Int) < 4 * (M : Int)) = false := by simp; omega
          go_wp2_with fail
          refine (size_any _ _ S c1).mono ?_
          rintro e w3 ⟨rfl, rfl⟩
          clear c1
          go_wp2
          go_loopw [14] (fun t wr => ∃ x : Nat, x ≤ M ∧ t = .int .i64 (x : Int) ∧ TabAt wr w.heap.size C cap B S M K V ∧ Hid (wr.rowIs D 29 lv (fun x => .int .u32 (m.1.getD x 0))) ∧ Hid (wr.rowIs (D + 1) 21 lv (fun x => .int .i32 (m.2.getD x 0))) ∧ Below w.heap.size w wr) (fun t _ => M - (intOf t).toNat)
          case atStart => exact ⟨0, by omega, rfl, htab, HDK.out, HDV.out, hB2⟩
          case round =>
            clear htab HDK HDV hB2
            obtain ⟨x, hx, rfl, htab, HDK, HDV, hB2⟩ := hrel
            by_cases hlt : x < M
            · have hxm : x < m.1.length := by rw [← HM.out]; exact hlt
              have hck := HDK.out.cell (i := x) (by omega)
              have hcv := HDV.out.cell (i := x) (by omega)
              have hkk := HKM.out _ (Plain.getD_mem hxm)
              have hvv := HVM.out _ (Plain.getD_mem (l := m.2) (x := x) (by rw [HLEN.out]; exact hxm))
              have HC := fun nq => (check_yes (htab.drewN nq) HREP.out (m.1.getD x 0) (m.2.getD x 0) hkk.1 hkk.2 (by omega) (by omega) HFREE.out x hxm rfl rfl hvv.1 hvv.2).mono (fun e w' ⟨he, hw⟩ => (⟨he, hw.symm⟩ : e = Ending.returned (Value.bool true) ∧ w' = wr.drewN nq))
              generalize m.1.getD x 0 = k at *
              generalize m.2.getD x 0 = v at *
              go_wp2
              go_quiet ((go_at_call 16; exact Calls.quiet_of_same (HC _)))
              go_wp2
              go_roundw
              case rel => exact ⟨x + 1, by omega, by go_num, htab.drewN nq, HDK.out, HDV.out, below_drewN hB2 nq⟩
              case measure => simp [intOf]; omega
            · obtain rfl : M = x := by omega
              have HI := index_any wr D lv m.1 q (by rw [← HM.out]; omega) (fun y hy => HDK.out.cell (by rw [← HM.out] at hy; omega))
              rw [← HM.out] at HI
              rcases Plain.idx_cases m.1 q with ⟨hidx, hnot⟩ | ⟨x0, hidx, hx0, hxe, _⟩
              · rw [hidx] at HI
                have HCN := check_no htab HREP.out q 0 q0 q1 (by omega) (by omega) HFREE.out hnot
                clear hidx hnot
                go_wp2_with fail
                refine HI.mono ?_
                rintro e w3 ⟨rfl, rfl⟩
                clear HI
                go_wp2_with fail
                refine HCN.mono ?_
                rintro e w3 ⟨rfl, rfl⟩
                clear HCN
                go_wp2
                go_ret
                exact ⟨rfl, hB2⟩
              · rw [hidx] at HI
                have hx0M : x0 < M := by rw [HM.out]; exact hx0
                have hvv := HVM.out _ (Plain.getD_mem (l := m.2) (x := x0) (by rw [HLEN.out]; exact hx0))
                have hcv := HDV.out.cell (i := x0) (by omega)
                have HCY := check_yes htab HREP.out q (m.2.getD x0 0) q0 q1 (by omega) (by omega) HFREE.out x0 hx0 hxe rfl hvv.1 hvv.2
                generalize m.2.getD x0 0 = v at *
                clear hidx hxe
                go_wp2_with fail
                refine HI.mono ?_
                rintro e w3 ⟨rfl, rfl⟩
                clear HI
                go_wp2_with fail
                refine HCY.mono ?_
                rintro e w3 ⟨rfl, rfl⟩
                clear HCY
                go_wp2
                go_ret
                exact ⟨rfl, hB2⟩
end Go.Proofs.Qxb6628294a
