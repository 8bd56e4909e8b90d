/-
  DERIVED. The walk of FnPutKeepsExactlyTheLastValueOfEachKey where both slices hold something.
-/
import Derived.Test.Qxb6628294aLawK
namespace Go.Proofs.Qxb6628294a
open Go.RowKit Go.Deep

set_option maxRecDepth 100000 in
set_option maxHeartbeats 2000000 in
theorem lawK_lt (bk ok lk ck bv ov lv cv : Nat) (zk zv : List Int) (w : World) (hk : ∀ i, i < lk → w.cell? ⟨bk, ok + i, none⟩ = some (.int .u32 (zk.getD i 0))) (hv : ∀ i, i < lv → w.cell? ⟨bv, ov + i, none⟩ = some (.int .i32 (zv.getD i 0)))
    (kr : ∀ i, 0 ≤ zk.getD i 0 ∧ zk.getD i 0 ≤ 4294967295) (hbk : bk < w.heap.size) (hbv : bv < w.heap.size) (h0 : 1 ≤ lk) (h1 : 1 ≤ lv) (b0 : lk ≤ 4096) (b1 : lv ≤ 4096) (hcmp : lv < lk) :
    Calls Try.prog 3 #[.slice (some ⟨bk, ok, none⟩) lk ck, .slice (some ⟨bv, ov, none⟩) lv cv] w fun e w' => e = .returned (.bool true) ∧ Below w.heap.size w w' := by
  have HZ := zb5_any (some ⟨bk, ok, none⟩) (some ⟨bv, ov, none⟩) lk ck lv cv (by unfold maxLen; omega) (by unfold maxLen; omega) w
  have d0 : decide ((4096 : Int) < (lk : Int)) = false := by simp; omega
  have d1 : decide ((4096 : Int) < (lv : Int)) = false := by simp; omega
  have HK : Hid (∀ i, i < lv → w.cell? ⟨bk, ok + i, none⟩ = some (.int .u32 (zk.getD i 0))) := fun i hi => hk i (by omega)
  have HV : Hid (∀ i, i < lv → w.cell? ⟨bv, ov + i, none⟩ = some (.int .i32 (zv.getD i 0))) := fun i hi => hv i (by omega)
  have HKR : Hid (∀ i, 0 ≤ zk.getD i 0 ∧ zk.getD i 0 ≤ 4294967295) := kr
  have hnk : lv ≤ lk := by omega
  have hnv : lv ≤ lv := by omega
  clear hk hv kr
  go_enter Try.func3, Try.ntmps3
  go_wp2_with fail
  refine HZ.mono ?_
  rintro e w' ⟨⟨b, rfl, hb⟩, rfl⟩
  clear HZ
  obtain rfl := hb (by omega) (by omega)
  clear hb
  go_wp2
  go_loop [6] (fun t => ∃ x : Nat, x ≤ lv ∧ t = .int .i64 (x : Int) ∧ Hid (∀ y, y < x → 0 ≤ zv.getD y 0 ∧ zv.getD y 0 ≤ 2147483646)) (fun t => lv - (intOf t).toNat)
  case atStart => exact ⟨0, by omega, rfl, fun y hy => by omega⟩
  case round =>
    obtain ⟨x, hx, rfl, HA⟩ := hrel
    by_cases hlt : x < lv
    · have hcv := HV.out x hlt
      have HA2 : Hid ((0 ≤ zv.getD x 0 ∧ zv.getD x 0 ≤ 2147483646) → ∀ y, y < x + 1 → 0 ≤ zv.getD y 0 ∧ zv.getD y 0 ≤ 2147483646) := fun e y hy => by
        by_cases ey : y = x
        · subst ey; exact e
        · exact HA.out y (by omega)
      generalize zv.getD x 0 = v at *
      by_cases v0 : v < 0
      · clear HA2
        go_wp2
        go_ret
        exact ⟨rfl, Below.refl _ _⟩
      · by_cases v1 : 2147483646 < v
        · clear HA2
          go_wp2
          go_ret
          exact ⟨rfl, Below.refl _ _⟩
        · have HN : Hid (∀ y, y < x + 1 → 0 ≤ zv.getD y 0 ∧ zv.getD y 0 ≤ 2147483646) := HA2.out ⟨by omega, by omega⟩
          clear HA2
          go_wp2
          go_round
          case rel => exact ⟨x + 1, by omega, by go_num, HN.out⟩
          case measure => simp [intOf]; omega
    · obtain rfl : lv = x := by omega
      have HVR : Hid (∀ y, y < lv → 0 ≤ zv.getD y 0 ∧ zv.getD y 0 ≤ 2147483646) := HA.out
      clear HA hlt hx
      go_wp2
      go_loopw [8] (fun t wr => ∃ x : Nat, x ≤ lv ∧ t = .int .i64 (x : Int) ∧ Tbl wr w.heap.size (Plain.lw zk zv x) ∧ Below w.heap.size w wr) (fun t _ => lv - (intOf t).toNat)
      case atStart => exact ⟨0, by omega, rfl, Or.inl ⟨rfl, head_start w⟩, (Below.refl _ _).alloc (Nat.le_refl _) _⟩
      case round =>
        obtain ⟨x, hx, rfl, hT, hB⟩ := hrel
        by_cases hlt : x < lv
        · have hck : wr.cell? ⟨bk, ok + x, none⟩ = some (.int .u32 (zk.getD x 0)) := (hB.cell hbk).trans (HK.out x hlt)
          have hcv : wr.cell? ⟨bv, ov + x, none⟩ = some (.int .i32 (zv.getD x 0)) := (hB.cell hbv).trans (HV.out x hlt)
          have HP := put_any hT.drew (zk.getD x 0) (zv.getD x 0) (HKR.out x).1 (HKR.out x).2 (HVR.out x hlt).1 (HVR.out x hlt).2 (by have := Plain.lw_le zk zv x; omega) (Plain.lw_keys zk zv _ HKR.out x)
          have HS : Hid (Plain.lw zk zv (x + 1) = Plain.wr (Plain.lw zk zv x) (zk.getD x 0) (zv.getD x 0)) := rfl
          generalize zk.getD x 0 = k at *
          generalize zv.getD x 0 = v at *
          clear hT
          go_wp2
          go_region_with (go_at_call 6; refine HP.mono ?_; rintro e w2 ⟨rfl, hT2, hB2⟩)
          all_goals
            go_wp2
            go_roundw
            case rel => exact ⟨x + 1, by omega, by go_num, by rw [HS.out]; exact hT2, (hB.drew).trans hB2⟩
            case measure => simp [intOf]; omega
        · obtain rfl : lv = x := by omega
          clear hlt hx
          have HL := last_any wr bk ok lk ck bv ov lv cv lv zk zv (fun i hi => (hB.cell hbk).trans (HK.out i hi)) (fun i hi => (hB.cell hbv).trans (HV.out i hi)) (Nat.lt_of_lt_of_le hbk hB.size) (Nat.lt_of_lt_of_le hbv hB.size) hnk hnv (by omega)
          have hM1 := lw_pos zk zv lv (by omega)
          have hM2 := Plain.lw_le zk zv lv
          have HVM : Hid (∀ y ∈ (Plain.lw zk zv lv).2, 0 ≤ y ∧ y ≤ 2147483646) := Plain.lw_vals zk zv _ lv HVR.out lv (Nat.le_refl _)
          generalize Plain.lw zk zv lv = m at *
          go_wp2_with fail
          refine HL.mono ?_
          clear HL
          rintro e w2 ⟨rfl, hTwo⟩
          obtain ⟨C, cap, B, S, K, V, hF⟩ := (hT.below hTwo.below).full hM1
          have hB2 : Below w.heap.size w w2 := hB.trans (hTwo.below.mono hB.size)
          have htab := hF.tab
          have HREP : Hid (Plain.Rep (home S) S K V m) := hF.rep
          have hS16 := hF.h16
          have hSl := hF.load
          have hSs := hF.hs
          have HLEN : Hid (m.2.length = m.1.length) := hF.rep.len
          clear hF hT hB
          have HDK : Hid (w2.rowIs wr.heap.size 29 lv (fun x => .int .u32 (m.1.getD x 0))) := hTwo.dk
          have HDV : Hid (w2.rowIs (wr.heap.size + 1) 21 lv (fun x => .int .i32 (m.2.getD x 0))) := hTwo.dv
          clear hTwo
          obtain ⟨M, hM⟩ : ∃ M, M = m.1.length := ⟨_, rfl⟩
          have HM : Hid (M = m.1.length) := hM
          rw [← hM] at htab hM1 hM2 hSl ⊢
          clear hM
          generalize wr.heap.size = D at *
          have c1 := htab.c1
          have c2 := htab.c2
          have hTG : w.heap.size < w2.heap.size := htab.head.lt
          have hCG := htab.Clt
          have HBG : Hid (∀ c, c < nch S → B c < w2.heap.size) := fun c hc => (htab.rows c hc).lt
          have hDG : D + 1 < w2.heap.size := HDV.out.lt
          have mb := make_bool M (by omega)
          have HSN : Hid (∀ W : World, (W.alloc (.cells (madeCells #[.bool false] M) 4)).rowIs W.heap.size 4 M (fun x => .bool (sn K V m.1 0 x))) := fun W => World.rowIs_made W (.bool false) M 4
          generalize (madeCells #[.bool false] M) = MB at *
          have e1 : decide ((S : Int) < 0) = false := by simp
          have e2 : decide ((3 : Int) * (S : Int) < 4 * (M : Int)) = false := by simp; omega
          have htab3 := htab.below ((Below.refl _ _).alloc (Nat.le_refl _) (.cells MB 4))
          go_wp2_with fail
          refine (size_any _ _ S c1).mono ?_
          rintro e w3 ⟨rfl, rfl⟩
          go_wp2_with fail
          refine (taken_any _ _ M c2).mono ?_
          rintro e w3 ⟨rfl, rfl⟩
          go_wp2_with fail
          refine (count_any _ _ (nch S) cap _ htab3.c0).mono ?_
          rintro e w3 ⟨rfl, rfl⟩
          have HSN0 : Hid ((w2.alloc (.cells MB 4)).rowIs w2.heap.size 4 M (fun x => .bool (sn K V m.1 0 x))) := HSN.out w2
          have HDK3 : Hid ((w2.alloc (.cells MB 4)).rowIs D 29 lv (fun x => .int .u32 (m.1.getD x 0))) := HDK.out.alloc _
          have HDV3 : Hid ((w2.alloc (.cells MB 4)).rowIs (D + 1) 21 lv (fun x => .int .i32 (m.2.getD x 0))) := HDV.out.alloc _
          have hB3 : Below w.heap.size w (w2.alloc (.cells MB 4)) := hB2.alloc hB2.size _
          clear c1 c2 mb HSN HDK HDV hB2 htab
          generalize w2.heap.size = G at *
          go_wp2
          go_loopw [14, 15, 17] (fun s t i wr => ∃ c tot oc : Nat, c ≤ nch S ∧ Hid (tot = if 1024 * c ≤ S then 1024 * c else S) ∧ Hid (oc = Plain.occ V (if 1024 * c ≤ S then 1024 * c else S)) ∧ tot ≤ 10000 ∧ oc ≤ 10000 ∧ s = .int .i64 (tot : Int) ∧ t = .int .i64 (oc : Int) ∧ i = .int .i64 (c : Int) ∧ TabAt wr w.heap.size C cap B S M K V ∧ Hid (wr.rowIs D 29 lv (fun x => .int .u32 (m.1.getD x 0))) ∧ Hid (wr.rowIs (D + 1) 21 lv (fun x => .int .i32 (m.2.getD x 0))) ∧ Hid (wr.rowIs G 4 M (fun x => .bool (sn K V m.1 (if 1024 * c ≤ S then 1024 * c else S) x))) ∧ Below w.heap.size w wr) (fun _ _ i _ => nch S - (intOf i).toNat)
          case atStart => exact ⟨0, 0, 0, by omega, by show _ = _; simp, by show _ = _; simp [Plain.occ], by omega, by omega, rfl, rfl, rfl, htab3, HDK3.out, HDV3.out, by show World.rowIs _ _ _ _ _; rw [if_pos (show 1024 * 0 ≤ S by omega)]; exact HSN0.out, hB3⟩
          case round =>
            clear htab3 HSN0 HDK3 HDV3 hB3
            obtain ⟨c, tot, oc, hc, HTOT, HOC, htot, hoc, rfl, rfl, rfl, htab, HDK, HDV, HSE, hB2⟩ := hrel
            by_cases hcn : c < nch S
            · have hcs : 1024 * c < S := by unfold nch at hcn; omega
              have HTOT2 : Hid (tot = 1024 * c) := by have := HTOT.out; rw [if_pos (by omega)] at this; exact this
              have HOC2 : Hid (oc = Plain.occ V (1024 * c)) := by have := HOC.out; rw [if_pos (by omega)] at this; exact this
              have HSE2 : Hid (wr.rowIs G 4 M (fun x => .bool (sn K V m.1 (1024 * c) x))) := by have := HSE.out; rw [if_pos (show 1024 * c ≤ S by omega)] at this; exact this
              clear HTOT HOC HSE
              have hcl := clen_any htab c hcn (by omega)
              have hle := clen_le S c
              go_wp2_with fail
              refine hcl.mono ?_
              rintro e w3 ⟨rfl, rfl⟩
              clear hcl
              go_wp2
              go_loopw [15, 19] (fun t i wr => ∃ j oc : Nat, j ≤ clen S c ∧ Hid (oc = Plain.occ V (1024 * c + j)) ∧ oc ≤ 10000 ∧ t = .int .i64 (oc : Int) ∧ i = .int .i64 (j : Int) ∧ TabAt wr w.heap.size C cap B S M K V ∧ Hid (wr.rowIs D 29 lv (fun x => .int .u32 (m.1.getD x 0))) ∧ Hid (wr.rowIs (D + 1) 21 lv (fun x => .int .i32 (m.2.getD x 0))) ∧ Hid (wr.rowIs G 4 M (fun x => .bool (sn K V m.1 (1024 * c + j) x))) ∧ Below w.heap.size w wr) (fun _ i _ => clen S c - (intOf i).toNat)
              case atStart => exact ⟨0, oc, by omega, HOC2.out, hoc, rfl, rfl, htab, HDK.out, HDV.out, HSE2.out, hB2⟩
              case round =>
                clear htab HDK HDV HSE2 hB2 HOC2
                clear hoc
                obtain ⟨j, oc, hj, HOC, hoc, rfl, rfl, htab, HDK, HDV, HSE, hB2⟩ := hrel
                by_cases hjn : j < clen S c
                · have hiS := (in_chunk hjn).1
                  have hsV := slotV_any htab c j hcn hjn (by omega)
                  have HOL : Hid (Plain.occ V (1024 * c + j) ≤ 1024 * c + j) := Plain.occ_le _ _
                  by_cases e0 : V (1024 * c + j) = 0
                  · have HO2 : Hid (oc = Plain.occ V (1024 * c + (j + 1))) := by
                      show oc = Plain.occ V (1024 * c + j + 1)
                      rw [Plain.occ, if_pos e0, HOC.out]
                      omega
                    have HS2 : Hid (wr.rowIs G 4 M (fun x => .bool (sn K V m.1 (1024 * c + (j + 1)) x))) := HSE.out.congr (fun x _ => by
                      show Value.bool _ = Value.bool (sn K V m.1 (1024 * c + j + 1) x)
                      rw [sn_skip x e0])
                    rw [e0] at hsV
                    clear e0
                    go_wp2_with fail
                    refine hsV.mono ?_
                    rintro e w3 ⟨rfl, rfl⟩
                    clear hsV
                    go_wp2
                    go_roundw
                    case rel => exact ⟨j + 1, oc, by omega, HO2.out, hoc, rfl, by go_num, htab, HDK.out, HDV.out, HS2.out, hB2⟩
                    case measure => simp [intOf]; omega
                  · obtain ⟨x, hx, ek, ev, eidx⟩ := slot_model HREP.out hiS e0
                    have hvv := HVM.out _ (Plain.getD_mem (l := m.2) (x := x) (by rw [HLEN.out]; exact hx))
                    have hxM : x < M := by rw [HM.out]; exact hx
                    have hsK := slotK_any htab c j hcn hjn (by omega)
                    have HI := index_any wr D lv m.1 (K (1024 * c + j)) (by rw [← HM.out]; omega) (fun y hy => HDK.out.cell (by rw [← HM.out] at hy; omega))
                    rw [← HM.out, eidx] at HI
                    rw [← ev] at hsV
                    have hcv := HDV.out.cell (i := x) (by omega)
                    have hse : wr.cell? ⟨G, x, none⟩ = some (.bool false) := by rw [HSE.out.cell hxM, sn_new HREP.out hiS e0 ek]
                    have hsf := HSE.out.frozen x
                    have HO2 : Hid (oc + 1 = Plain.occ V (1024 * c + (j + 1))) := by
                      show oc + 1 = Plain.occ V (1024 * c + j + 1)
                      rw [Plain.occ, if_neg e0, HOC.out]
                    have hoc2 : oc + 1 ≤ 10000 := by have := HOL.out; rw [← HOC.out] at this; omega
                    have HS2 : Hid ((wr.setCell ⟨G, x, none⟩ (.bool true)).rowIs G 4 M (fun x => .bool (sn K V m.1 (1024 * c + (j + 1)) x))) := (HSE.out.set x (.bool true)).congr (fun y hy => by
                      show (if y = x then Value.bool true else Value.bool _) = Value.bool (sn K V m.1 (1024 * c + j + 1) y)
                      rw [← sn_put HREP.out.nodup hx e0 ek y (by rw [← HM.out]; exact hy)]
                      split <;> rfl)
                    have htab2 := htab.far ⟨G, x, none⟩ (.bool true) hTG hCG HBG.out
                    have HDK2 : Hid ((wr.setCell ⟨G, x, none⟩ (.bool true)).rowIs D 29 lv (fun x => .int .u32 (m.1.getD x 0))) := HDK.out.setOther (a := ⟨G, x, none⟩) (by show D ≠ G; omega) _
                    have HDV2 : Hid ((wr.setCell ⟨G, x, none⟩ (.bool true)).rowIs (D + 1) 21 lv (fun x => .int .i32 (m.2.getD x 0))) := HDV.out.setOther (a := ⟨G, x, none⟩) (by show D + 1 ≠ G; omega) _
                    have hB4 : Below w.heap.size w (wr.setCell ⟨G, x, none⟩ (.bool true)) := hB2.setCell (p := ⟨G, x, none⟩) (by show w.heap.size ≤ G; omega) _
                    generalize m.2.getD x 0 = v at *
                    generalize K (1024 * c + j) = kk at *
                    have q0 : (v + 1 == 0) = false := beq_eq_false_iff_ne.2 (by omega)
                    have q1 : decide (v + 1 < 0) = false := by simp; omega
                    have q2 : decide ((x : Int) < 0) = false := by simp
                    clear ev ek eidx e0 HSE HDK HDV hB2 htab
                    go_wp2_with fail
                    refine hsV.mono ?_
                    rintro e w3 ⟨rfl, rfl⟩
                    clear hsV
                    go_wp2_with fail
                    refine hsK.mono ?_
                    rintro e w3 ⟨rfl, rfl⟩
                    clear hsK
                    go_wp2_with fail
                    refine HI.mono ?_
                    rintro e w3 ⟨rfl, rfl⟩
                    clear HI
                    go_wp2
                    go_roundw
                    case rel => exact ⟨j + 1, oc + 1, by omega, HO2.out, hoc2, by go_num, by go_num, htab2, HDK2.out, HDV2.out, HS2.out, hB4⟩
                    case measure => simp [intOf]; omega
                · have hje : (if 1024 * (c + 1) ≤ S then 1024 * (c + 1) else S) = 1024 * c + j := by
                    have hj' : j = clen S c := by omega
                    subst hj'
                    unfold clen
                    split <;> split <;> omega
                  have HTE : Hid (tot + clen S c = if 1024 * (c + 1) ≤ S then 1024 * (c + 1) else S) := by
                    show _ = _
                    rw [hje, HTOT2.out]
                    omega
                  have HOE : Hid (oc = Plain.occ V (if 1024 * (c + 1) ≤ S then 1024 * (c + 1) else S)) := by
                    show _ = _
                    rw [hje]; exact HOC.out
                  have HSE3 : Hid (wr.rowIs G 4 M (fun x => .bool (sn K V m.1 (if 1024 * (c + 1) ≤ S then 1024 * (c + 1) else S) x))) := by
                    show World.rowIs _ _ _ _ _
                    rw [hje]; exact HSE.out
                  have hte : tot + clen S c ≤ 10000 := by
                    have := HTE.out
                    rw [hje] at this
                    have hj' : j = clen S c := by omega
                    have : 1024 * c + clen S c ≤ S := by unfold clen; split <;> omega
                    omega
                  clear hje
                  go_wp2
                  go_roundw
                  case rel => exact ⟨c + 1, tot + clen S c, oc, by omega, HTE.out, HOE.out, hte, hoc, by go_num, rfl, by go_num, htab, HDK.out, HDV.out, HSE3.out, hB2⟩
                  case measure => simp [intOf]; omega
            · have hPe : (if 1024 * c ≤ S then 1024 * c else S) = S := by
                have hc' : nch S ≤ c := by omega
                unfold nch at hc'
                split <;> omega
              have hts : tot = S := by rw [HTOT.out]; exact hPe
              have hom : oc = M := by rw [HOC.out, hPe, Plain.rep_occ HREP.out]; exact HM.out.symm
              subst hom
              clear HTOT HOC HSE
              have qt : ((tot : Int) == (S : Int)) = true := beq_iff_eq.2 (by omega)
              clear hts hPe
              go_wp2
              go_ret
              exact ⟨rfl, hB2⟩
end Go.Proofs.Qxb6628294a
