/-
  DERIVED. The contract of resize, the table not empty.
-/
import Derived.Test.Qxb6628294aResize
import Derived.Deep.RegionWith
namespace Go.Proofs.Qxb6628294a
open Go.RowKit Go.Deep

theorem Mv.alloc {w wq : World} {T C S S' n : Nat} {K V : Nat → Int} {p : Nat} (h : Mv w wq T C S S' n K V p) (hTC : T < C) (o : Obj) : Mv w (wq.alloc o) T C S S' n K V p := by
  obtain ⟨⟨K', V', ht, hm⟩, ho, hb, hl⟩ := h
  refine ⟨⟨K', V', ht.below ((Below.refl _ _).alloc (Nat.le_refl _) _), hm⟩, fun b h1 h2 => ?_, hb.alloc (by omega) _, by rw [nblk_alloc]; omega⟩
  rw [blk_alloc_lt _ _ _ (by omega)]
  exact ho b h1 h2
theorem Mv.skip {w wq : World} {T C S S' n : Nat} {K V : Nat → Int} {p : Nat} (h : Mv w wq T C S S' n K V p) (h0 : V p = 0) : Mv w wq T C S S' n K V (p + 1) := by
  obtain ⟨⟨K', V', ht, hm⟩, ho, hb, hl⟩ := h
  exact ⟨⟨K', V', ht, Plain.moved_skip hm h0⟩, ho, hb, hl⟩

theorem TabAt.drew {w : World} {T C cap : Nat} {B : Nat → Nat} {S n : Nat} {K V : Nat → Int} (h : TabAt w T C cap B S n K V) : TabAt w.drew T C cap B S n K V :=
  h.of_blocks (fun _ _ _ => rfl) (Nat.le_refl _)

theorem Mv.put {w wq : World} {T C S S' n : Nat} {K V : Nat → Int} {p : Nat} (h : Mv w wq T C S S' n K V p) (hTC : T < C) {K' V' : Nat → Int} (ht : TabAt wq T C (nch S') (fun x => C + 1 + 2 * x) S' n K' V') (hm : Plain.Moved (home S') S' K V K' V' p)
    (hwf : Plain.WF (home S) S K V) (hp : p < S) (h0 : V p ≠ 0) {fi : Nat} {found : Bool} (hf : Plain.FindIs (home S') S' K' V' (K p) fi found) :
    Mv w (((wq.setCell ⟨C + 1 + 2 * (fi / 1024), 2 * (fi % 1024), none⟩ (.int .u32 (K p))).setCell ⟨C + 1 + 2 * (fi / 1024), 2 * (fi % 1024) + 1, none⟩ (.int .i32 (V p))).drew) T C S S' n K V (p + 1) := by
  refine ⟨⟨_, _, (ht.setSlot hf.1 (K p) (V p)).drew, Plain.moved_put hwf hp hm h0 hf⟩, fun b h1 h2 => ?_, ((h.below.setCell (p := ⟨C + 1 + 2 * (fi / 1024), _, none⟩) (by show T ≤ C + 1 + 2 * (fi / 1024); omega) _).setCell (p := ⟨C + 1 + 2 * (fi / 1024), _, none⟩) (by show T ≤ C + 1 + 2 * (fi / 1024); omega) _).drew, ?_⟩
  · show (World.setCell _ _ _).heap[b]? = _
    rw [blk_setCell_other _ _ _ _ (by show b ≠ C + 1 + 2 * (fi / 1024); omega), blk_setCell_other _ _ _ _ (by show b ≠ C + 1 + 2 * (fi / 1024); omega)]
    exact h.old b h1 h2
  · show C < (World.setCell _ _ _).heap.size
    rw [nblk_setCell, nblk_setCell]
    exact h.lt

set_option maxRecDepth 100000 in
set_option maxHeartbeats 1000000 in
theorem resize_any {w : World} {T C cap : Nat} {B : Nat → Nat} {S n : Nat} {K V : Nat → Int} (h : TabAt w T C cap B S n K V) (hwf : Plain.WF (home S) S K V) (hkr : ∀ i, i < S → V i ≠ 0 → 0 ≤ K i ∧ K i ≤ 4294967295) (S' : Nat) (hSS : S < S') (hs : S' ≤ 100000) :
    Calls Try.prog 21 #[.pointer (some ⟨T, 0, none⟩), .int .i64 (S' : Int)] w fun e w' => e = .returned (.tuple #[]) ∧ ∃ K' V', TabAt w' T w.heap.size (nch S') (fun x => w.heap.size + 1 + 2 * x) S' n K' V' ∧ Plain.WF (home S') S' K' V' ∧ (∀ k v, Plain.Has S' K' V' k v ↔ Plain.Has S K V k v) ∧ Below T w w' := by
  have c0 := h.c0
  have c1 := h.c1
  have f1 := h.head.frozen 1
  have f0 := h.head.frozen 0
  have hlt := h.head.lt
  have hmk := make_dir' S' hs
  obtain ⟨i0, hi, hz0, hz1, hz2⟩ := info_parts Try.info47
  have M0 : Hid _ := mk_start (S' := S') h.head
  have HWF : Hid (Plain.WF (home S) S K V) := hwf
  have HKR : Hid (∀ i, i < S → V i ≠ 0 → 0 ≤ K i ∧ K i ≤ 4294967295) := hkr
  clear hwf hkr
  go_enter Try.func21, Try.ntmps21
  go_wp2
  go_loopw [5] (fun t wr => ∃ c : Nat, c ≤ nch S' ∧ t = .int .i64 ((S' : Int) - 1024 * (c : Int)) ∧ Mk w wr T w.heap.size S' n c) (fun t _ => (intOf t).toNat)
  case atStart => exact ⟨0, by omega, by simp, M0.out⟩
  case round =>
    obtain ⟨c, hc, rfl, hM⟩ := hrel
    clear M0 hmk c0 c1 f1 f0
    by_cases hpos : 0 < (S' : Int) - 1024 * (c : Int)
    · have g0 : wr.cell? ⟨T, 0, none⟩ = some (.slice (some ⟨w.heap.size, 0, none⟩) c (nch S')) := hM.head.cell (i := 0) (by omega)
      have g1 := hM.head.frozen 0
      have hcn : c < nch S' := by unfold nch; omega
      have hT1 : T < wr.heap.size := hM.head.lt
      have hT2 : T < wr.heap.size + 1 := by omega
      have HM : Hid _ := mk_step hM hcn
      have hif : (if (1024 : Int) < (S' : Int) - 1024 * (c : Int) then (1024 : Int) else (S' : Int) - 1024 * (c : Int)) = ((clen S' c : Nat) : Int) := by
        unfold clen
        split <;> split <;> omega
      have hmk2 := make_chunk (clen S' c) (by have := clen_le S' c; omega)
      have HN : Hid (∀ o1 x j u, [x][j]? = some u → (((wr.alloc o1).alloc (.cells #[x] 47)).drew).cell? ((⟨wr.heap.size + 1, 0, none⟩ : Addr).add j) = some u) := fun o1 x j u h => one_new wr o1 x 47 j u h
      have HS : Hid (∀ o1 o2 x j, j < [x].length → ((((wr.alloc o1).alloc o2).drew).cell? ⟨w.heap.size, 0 + c * 1 + j, none⟩).isSome = true ∧ (((wr.alloc o1).alloc o2).drew).frozen? ⟨w.heap.size, 0 + c * 1 + j, none⟩ = false) := fun o1 o2 x j hj => spare_ok (x := x) hM.dir o1 o2 c hcn j hj
      clear hM
      go_wp2
      go_region_law (refine step_append_room rfl (.tmp 43) (.tmp 47) 25 rfl 47 i0 1 Try.underlying25 hi hz1 w.heap.size 0 c (nch S') (by simp [Act.eval]) ⟨wr.heap.size + 1, 0, none⟩ 1 1 [.slice (some ⟨wr.heap.size, 0, none⟩) (clen S' c) (clen S' c)] (by simp [Act.eval]) rfl (by exact HN.out _ _) (by simp [Value.oneCell']) (by omega) (by exact HS.out _ _ _) ?_; rw [setCells_one])
      all_goals
        go_wp2
        go_roundw
        case rel => exact ⟨c + 1, by omega, by go_num, HM.out⟩
        case measure => simp [intOf]; omega
    · have hcn : c = nch S' := by unfold nch at hc ⊢; omega
      subst hcn
      have MV : Hid (Mv w wr T w.heap.size S S' n K V 0) := mv_start hM
      clear hM
      go_wp2
      go_loopw [53] (fun t wq => ∃ c : Nat, c ≤ nch S ∧ t = .int .i64 (c : Int) ∧ Hid (Mv w wq T w.heap.size S S' n K V (if 1024 * c ≤ S then 1024 * c else S))) (fun t _ => nch S - (intOf t).toNat)
      case atStart => exact ⟨0, by omega, rfl, by show Mv _ _ _ _ _ _ _ _ _ _; rw [if_pos (by omega)]; exact MV.out⟩
      case round =>
        clear MV
        obtain ⟨c, hc, rfl, HMV⟩ := hrel
        by_cases hcn : c < nch S
        · have hcs : 1024 * c < S := by unfold nch at hcn; omega
          have hd : wr.cell? ⟨C, c, none⟩ = some (.slice (some ⟨B c, 0, none⟩) (clen S c) (clen S c)) := by
            rw [World.cell?_of_block (w := w) (HMV.out.old C h.Clt (by have := h.TC; omega))]
            exact h.dir c hcn
          have HMV0 : Hid (Mv w wr T w.heap.size S S' n K V (1024 * c)) := by
            have := HMV.out
            rw [if_pos (by omega)] at this
            exact this
          clear HMV
          go_wp2
          go_loopw [59] (fun t wq => ∃ j : Nat, j ≤ clen S c ∧ t = .int .i64 (j : Int) ∧ Hid (Mv w wq T w.heap.size S S' n K V (1024 * c + j))) (fun t _ => clen S c - (intOf t).toNat)
          case atStart => exact ⟨0, by omega, rfl, HMV0.out⟩
          case round =>
            clear HMV0 hd
            obtain ⟨j, hj, rfl, HMV⟩ := hrel
            by_cases hjn : j < clen S c
            · have hiS := (in_chunk hjn).1
              have hold := HMV.out.old (B c) (h.rows c hcn).lt (by have := h.TB c hcn; omega)
              have hck : wr.cell? ⟨B c, j * 2, none⟩ = some (.int .u32 (K (1024 * c + j))) := by
                rw [World.cell?_of_block (w := w) hold, Nat.mul_comm, (h.rows c hcn).cell (by omega), cellF_key]
              have hcv : wr.cell? ⟨B c, j * 2 + 1, none⟩ = some (.int .i32 (V (1024 * c + j))) := by
                rw [World.cell?_of_block (w := w) hold, Nat.mul_comm, (h.rows c hcn).cell (by omega), cellF_val]
              by_cases e0 : V (1024 * c + j) = 0
              · have q0 : (V (1024 * c + j) != 0) = false := by simp [e0]
                go_wp2
                go_roundw
                case rel => exact ⟨j + 1, by omega, by go_num, ((HMV.out.alloc hlt _).skip e0)⟩
                case measure => simp [intOf]; omega
              · have q0 : (V (1024 * c + j) != 0) = true := by simp [e0]
                have hkk := HKR.out _ hiS e0
                obtain ⟨K', V', htab, hmov⟩ := HMV.out.tab
                have htab2 := htab.below ((Below.refl _ _).alloc (Nat.le_refl _) (.cells #[.int .u32 (K (1024 * c + j)), .int .i32 (V (1024 * c + j))] 44))
                have HFR : Hid (∃ i, i < S' ∧ V' i = 0) := Plain.moved_free hmov (by omega)
                go_wp2_with fail
                refine (find_any htab2 _ hkk.1 hkk.2 (by omega) (by omega) HFR.out).mono ?_
                rintro e w2 ⟨fi, found, rfl, hfind, rfl⟩
                have hfi := hfind.1
                have HFI : Hid _ := hfind
                clear hfind
                have hkc : (wr.alloc (.cells #[.int .u32 (K (1024 * c + j)), .int .i32 (V (1024 * c + j))] 44)).cell? ⟨w.heap.size + 1 + 2 * (fi / 1024), 2 * (fi % 1024), none⟩ = some (.int .u32 (K' fi)) := htab2.key hfi
                have hvc : (wr.alloc (.cells #[.int .u32 (K (1024 * c + j)), .int .i32 (V (1024 * c + j))] 44)).cell? ⟨w.heap.size + 1 + 2 * (fi / 1024), 2 * (fi % 1024) + 1, none⟩ = some (.int .i32 (V' fi)) := htab2.val hfi
                have hkf : (wr.alloc (.cells #[.int .u32 (K (1024 * c + j)), .int .i32 (V (1024 * c + j))] 44)).frozen? ⟨w.heap.size + 1 + 2 * (fi / 1024), 2 * (fi % 1024), none⟩ = false := (htab2.rows _ (chunk_of hfi).1).frozen _
                have hvf : (wr.alloc (.cells #[.int .u32 (K (1024 * c + j)), .int .i32 (V (1024 * c + j))] 44)).frozen? ⟨w.heap.size + 1 + 2 * (fi / 1024), 2 * (fi % 1024) + 1, none⟩ = false := (htab2.rows _ (chunk_of hfi).1).frozen _
                go_wp2
                go_region_with (go_at_call 19; refine (slot_any htab2.drew fi hfi (by omega)).mono ?_; rintro e w3 ⟨rfl, rfl⟩)
                all_goals
                  go_wp2
                  go_roundw
                  case rel => exact ⟨j + 1, by omega, by go_num, (HMV.out.alloc hlt _).put hlt htab2 hmov HWF.out hiS e0 HFI.out⟩
                  case measure => simp [intOf]; omega
            · have HE : Hid (Mv w wr T w.heap.size S S' n K V (if 1024 * (c + 1) ≤ S then 1024 * (c + 1) else S)) := by
                have := HMV.out
                have e : (if 1024 * (c + 1) ≤ S then 1024 * (c + 1) else S) = 1024 * c + j := by
                  have hj' : j = clen S c := by omega
                  subst hj'
                  unfold clen
                  split <;> split <;> omega
                show Mv _ _ _ _ _ _ _ _ _ _
                rw [e]
                exact this
              go_wp2
              go_roundw
              case rel => exact ⟨c + 1, by omega, by go_num, HE.out⟩
              case measure => simp [intOf]; omega
        · have HE : Hid (Mv w wr T w.heap.size S S' n K V S) := by
            have := HMV.out
            have e : (if 1024 * c ≤ S then 1024 * c else S) = S := by
              have hc' : nch S ≤ c := by omega
              unfold nch at hc'
              split <;> omega
            rw [e] at this
            exact this
          go_wp2
          go_end0
          obtain ⟨K', V', ht, hm⟩ := HE.out.tab
          exact ⟨rfl, K', V', ht, (Plain.moved_end hm).1, (Plain.moved_end hm).2, HE.out.below⟩
end Go.Proofs.Qxb6628294a
