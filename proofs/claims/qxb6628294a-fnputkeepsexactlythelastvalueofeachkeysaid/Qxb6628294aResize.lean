import Derived.Test.Qxb6628294aFind
import Derived.Deep.RegionLaw
import Derived.BigRegion
namespace Go.Proofs.Qxb6628294a
open Go.RowKit Go.Deep

theorem Try.info47 : (Try.prog.info? 47).map (fun i => (i.zero, i.size, i.bytes)) = some (some (.slice none 0 0), 1, 24) := by kernel_rfl
theorem Try.info44 : (Try.prog.info? 44).map (fun i => (i.zero, i.size, i.bytes)) = some (some (.agg #[.int .u32 0, .int .i32 0]), 2, 8) := by kernel_rfl

/-- 'make([][]tableSlot, 0, n)'. -/
theorem make_dir (n : Nat) (hn : n ≤ 1000000) (w : World) :
    (Instr.makeSlice 25 (.int .i64 0) (.int .i64 (n : Int))).run Try.prog w = .ok (.slice (some ⟨w.heap.size, 0, none⟩) 0 n) (w.alloc (.cells (madeCells #[.slice none 0 0] n) 47)) := by
  obtain ⟨i, hi, hz0, hz1, hz2⟩ := info_parts Try.info47
  have := run_make (P := Try.prog) w 25 47 i (.slice none 0 0) Try.underlying25 hi hz0 .i64 .i64 0 n (by omega) (by omega) (by rw [hz2]; omega) (by omega)
  rw [hz1] at this
  simpa [Value.cells] using this
/-- 'make([]tableSlot, n)'. -/
theorem make_chunk (n : Nat) (hn : n ≤ 1000000) (w : World) :
    (Instr.makeSlice 47 (.int .i64 (n : Int)) (.int .i64 (n : Int))).run Try.prog w = .ok (.slice (some ⟨w.heap.size, 0, none⟩) n n) (w.alloc (.cells (madeCells #[.int .u32 0, .int .i32 0] (2 * n)) 44)) := by
  obtain ⟨i, hi, hz0, hz1, hz2⟩ := info_parts Try.info44
  have := run_make (P := Try.prog) w 47 44 i (.agg #[.int .u32 0, .int .i32 0]) Try.underlying47 hi hz0 .i64 .i64 n n (by omega) (by omega) (by rw [hz2]; omega) (by omega)
  rw [hz1] at this
  simpa [Value.cells, Nat.mul_comm] using this

theorem make_dir' (S' : Nat) (hs : S' ≤ 100000) (w : World) :
    (Instr.makeSlice 25 (.int .i64 0) (.int .i64 (((S' : Int) + 1024 - 1) / 1024))).run Try.prog w = .ok (.slice (some ⟨w.heap.size, 0, none⟩) 0 (nch S')) (w.alloc (.cells (madeCells #[.slice none 0 0] (nch S')) 47)) := by
  have e : ((S' : Int) + 1024 - 1) / 1024 = ((nch S' : Nat) : Int) := by unfold nch; omega
  rw [e]
  exact make_dir (nch S') (by unfold nch; omega) w

/-- While the chunks are made: c of them are there. -/
structure Mk (w wr : World) (T C S' n c : Nat) : Prop where
  head : wr.rowIs T 27 3 (headF (.slice (some ⟨C, 0, none⟩) c (nch S')) S' n)
  dir : wr.rowIs C 47 (nch S') (fun x => if x < c then .slice (some ⟨C + 1 + 2 * x, 0, none⟩) (clen S' x) (clen S' x) else .slice none 0 0)
  rows : ∀ x, x < c → wr.rowIs (C + 1 + 2 * x) 44 (2 * clen S' x) (cellF (fun _ => 0) (fun _ => 0) x)
  size : wr.heap.size = C + 1 + 2 * c
  old : ∀ b, b < C → b ≠ T → wr.heap[b]? = w.heap[b]?
  TC : T < C
  below : Below T w wr

theorem mk_start {w : World} {T S' n : Nat} {v : Value} {S0 : Nat} (hT : w.rowIs T 27 3 (headF v S0 n)) :
    Mk w (((w.setCell ⟨T, 1, none⟩ (.int .i64 (S' : Int))).setCell ⟨T, 0, none⟩ (.slice (some ⟨w.heap.size, 0, none⟩) 0 (nch S'))).alloc (.cells (madeCells #[.slice none 0 0] (nch S')) 47)) T w.heap.size S' n 0 where
  head := (((hT.set 1 _).set 0 _).alloc _).congr (fun j hj => by
    unfold headF
    match j, hj with
    | 0, _ => rfl
    | 1, _ => rfl
    | 2, _ => rfl)
  dir := by
    have h := World.rowIs_made ((w.setCell ⟨T, 1, none⟩ (.int .i64 (S' : Int))).setCell ⟨T, 0, none⟩ (.slice (some ⟨w.heap.size, 0, none⟩) 0 (nch S'))) (.slice none 0 0) (nch S') 47
    rw [nblk_setCell, nblk_setCell] at h
    exact h.congr (fun x _ => by rw [if_neg (Nat.not_lt_zero _)])
  rows := fun x hx => absurd hx (Nat.not_lt_zero _)
  size := by rw [nblk_alloc, nblk_setCell, nblk_setCell]
  old := fun b hb hne => by
    rw [blk_alloc_lt _ _ _ (by rw [nblk_setCell, nblk_setCell]; exact hb), blk_setCell_other _ _ _ _ hne, blk_setCell_other _ _ _ _ hne]
  TC := hT.lt
  below := ((((Below.refl T w).setCell (p := ⟨T, 1, none⟩) (Nat.le_refl _) _).setCell (p := ⟨T, 0, none⟩) (Nat.le_refl _) _).alloc (by rw [nblk_setCell, nblk_setCell]; exact Nat.le_of_lt hT.lt) _)

theorem one_new (wr : World) (o1 : Obj) (x : Value) (t : TypeId) (j : Nat) (u : Value) (h : [x][j]? = some u) : (((wr.alloc o1).alloc (.cells #[x] t)).drew).cell? ((⟨wr.heap.size + 1, 0, none⟩ : Addr).add j) = some u := by
  match j, h with
  | 0, h =>
    have hx : x = u := by simpa using h
    subst hx
    have := World.rowIs_alloc (wr.alloc o1) #[x] t (fun _ => x) (fun i hi => by
      have hi' : i < 1 := hi
      match i, hi' with
      | 0, _ => rfl)
    have hc := this.drew.cell (i := 0) (by show 0 < 1; omega)
    rw [nblk_alloc] at hc
    exact hc
  | j + 1, h => simp at h
theorem spare_ok {x : Value} {wr : World} {C t N : Nat} {f : Nat → Value} (h : wr.rowIs C t N f) (o1 o2 : Obj) (c : Nat) (hc : c < N) (j : Nat) (hj : j < [x].length) :
    ((((wr.alloc o1).alloc o2).drew).cell? ⟨C, 0 + c * 1 + j, none⟩).isSome = true ∧ (((wr.alloc o1).alloc o2).drew).frozen? ⟨C, 0 + c * 1 + j, none⟩ = false := by
  have hr := ((h.alloc o1).alloc o2).drew
  have hj0 : j = 0 := by simp at hj; exact hj
  subst hj0
  rw [show 0 + c * 1 + 0 = c by omega]
  refine ⟨?_, hr.frozen c⟩
  rw [hr.cell hc]
  rfl

theorem made_pair (n q : Nat) (h : q < 2 * n) : (madeCells #[.int .u32 0, .int .i32 0] (2 * n))[q]? = some (if q % 2 = 0 then .int .u32 0 else .int .i32 0) := by
  have e : (#[.int .u32 0, .int .i32 0] : Array Value)[q % 2]! = if q % 2 = 0 then .int .u32 0 else .int .i32 0 := by
    rcases Nat.mod_two_eq_zero_or_one q with e | e <;> rw [e] <;> rfl
  simp only [madeCells, Array.getElem?_map, Array.getElem?_range, h, if_true, Option.map_some]
  rw [← e]
  rfl

/-- One chunk more. -/
theorem mk_step {w wr : World} {T C S' n c : Nat} (h : Mk w wr T C S' n c) (hc : c < nch S') :
    Mk w (((((wr.alloc (.cells (madeCells #[.int .u32 0, .int .i32 0] (2 * clen S' c)) 44)).alloc (.cells #[.slice (some ⟨wr.heap.size, 0, none⟩) (clen S' c) (clen S' c)] 47)).setCell ⟨C, c, none⟩ (.slice (some ⟨wr.heap.size, 0, none⟩) (clen S' c) (clen S' c))).setCell ⟨T, 0, none⟩ (.slice (some ⟨C, 0, none⟩) (c + 1) (nch S'))).drew) T C S' n (c + 1) := by
  have hTC := h.TC
  have hsz := h.size
  have hneTC : T ≠ C := by omega
  refine ⟨?_, ?_, fun x hx => ?_, ?_, fun b hb hne => ?_, hTC, ?_⟩
  · refine ((((h.head.alloc _).alloc _).setOther (a := ⟨C, c, none⟩) hneTC _).set 0 _).drew.congr (fun j hj => ?_)
    unfold headF
    match j, hj with
    | 0, _ => rfl
    | 1, _ => rfl
    | 2, _ => rfl
  · refine ((((h.dir.alloc _).alloc _).set c _).setOther (a := ⟨T, 0, none⟩) (fun e => hneTC e.symm) _).drew.congr (fun x hx => ?_)
    by_cases e : x = c
    · subst e
      rw [if_pos rfl, if_pos (by omega), hsz]
    · rw [if_neg e]
      by_cases e2 : x < c
      · rw [if_pos e2, if_pos (by omega)]
      · rw [if_neg e2, if_neg (by omega)]
  · by_cases e : x = c
    · subst e
      have hr : (wr.alloc (.cells (madeCells #[.int .u32 0, .int .i32 0] (2 * clen S' x)) 44)).rowIs wr.heap.size 44 (2 * clen S' x) (cellF (fun _ => 0) (fun _ => 0) x) :=
        ⟨_, blk_alloc_new _ _, size_madeCells _ _, fun q hq => by rw [made_pair _ _ hq]; rfl⟩
      rw [hsz] at hr
      exact (((hr.alloc _).setOther (a := ⟨C, x, none⟩) (by show C + 1 + 2 * x ≠ C; omega) _).setOther (a := ⟨T, 0, none⟩) (by show C + 1 + 2 * x ≠ T; omega) _).drew
    · have hr := h.rows x (by omega)
      exact ((((hr.alloc _).alloc _).setOther (a := ⟨C, c, none⟩) (by show C + 1 + 2 * x ≠ C; omega) _).setOther (a := ⟨T, 0, none⟩) (by show C + 1 + 2 * x ≠ T; omega) _).drew
  · show (World.setCell _ _ _).heap.size = _
    rw [nblk_setCell, nblk_setCell, nblk_alloc, nblk_alloc, hsz]
    omega
  · show (World.setCell _ _ _).heap[b]? = _
    rw [blk_setCell_other _ _ _ _ hne, blk_setCell_other _ _ _ _ (by show b ≠ C; omega), blk_alloc_lt _ _ _ (by rw [nblk_alloc]; omega), blk_alloc_lt _ _ _ (by omega)]
    exact h.old b hb hne
  · exact ((((h.below.alloc (by omega) _).alloc (by rw [nblk_alloc]; omega) _).setCell (p := ⟨C, c, none⟩) (by show T ≤ C; omega) _).setCell (p := ⟨T, 0, none⟩) (Nat.le_refl _) _).drew

theorem setCells_one (w : World) (b c : Nat) (v : Value) : w.setCells b (0 + c * 1) [v] = w.setCell ⟨b, c, none⟩ v := by
  rw [show 0 + c * 1 = c by omega]
  rfl

/-- All chunks are there: an empty table. -/
theorem mk_end {w wr : World} {T C S' n : Nat} (h : Mk w wr T C S' n (nch S')) : TabAt wr T C (nch S') (fun x => C + 1 + 2 * x) S' n (fun _ => 0) (fun _ => 0) where
  head := h.head
  dir := fun c hc => by
    have := h.dir.cell hc
    rw [if_pos hc] at this
    exact this
  rows := fun c hc => h.rows c hc
  TC := h.TC
  Clt := h.dir.lt
  TB := fun c hc => by have := h.TC; omega
  CB := fun c hc => by omega
  inj := fun c c' _ _ e => by omega

/-- While the old slots are moved. -/
structure Mv (w wq : World) (T C S S' n : Nat) (K V : Nat → Int) (p : Nat) : Prop where
  tab : ∃ K' V', TabAt wq T C (nch S') (fun x => C + 1 + 2 * x) S' n K' V' ∧ Plain.Moved (home S') S' K V K' V' p
  old : ∀ b, b < C → b ≠ T → wq.heap[b]? = w.heap[b]?
  below : Below T w wq
  lt : C < wq.heap.size

theorem mv_start {w wr : World} {T C S S' n : Nat} {K V : Nat → Int} (h : Mk w wr T C S' n (nch S')) : Mv w wr T C S S' n K V 0 :=
  ⟨⟨_, _, mk_end h, Plain.moved_start _ _ _ _ _⟩, h.old, h.below, h.dir.lt⟩

set_option maxRecDepth 100000 in
set_option maxHeartbeats 1000000 in
theorem resize_zero (w : World) (T S' n : Nat) (hs16 : 16 ≤ S') (hs : S' ≤ 100000) (hT : w.rowIs T 27 3 (headF (.slice none 0 0) 0 n)) :
    Calls Try.prog 21 #[.pointer (some ⟨T, 0, none⟩), .int .i64 (S' : Int)] w fun e w' => e = .returned (.tuple #[]) ∧ TabAt w' T w.heap.size (nch S') (fun x => w.heap.size + 1 + 2 * x) S' n (fun _ => 0) (fun _ => 0) ∧ Below T w w' := by
  have c0 : w.cell? ⟨T, 0, none⟩ = some (.slice none 0 0) := hT.cell (i := 0) (by omega)
  have c1 : w.cell? ⟨T, 1, none⟩ = some (.int .i64 0) := hT.cell (i := 1) (by omega)
  have f1 := hT.frozen 1
  have f0 := hT.frozen 0
  have hlt := hT.lt
  have hmk := make_dir' S' hs
  obtain ⟨i0, hi, hz0, hz1, hz2⟩ := info_parts Try.info47
  have M0 : Hid _ := mk_start (S' := S') hT
  go_enter Try.func21, Try.ntmps21
  go_wp2
  go_loopw [5] (fun t wr => ∃ c : Nat, c ≤ nch S' ∧ t = .int .i64 ((S' : Int) - 1024 * (c : Int)) ∧ Mk w wr T w.heap.size S' n c) (fun t _ => (intOf t).toNat)
  case atStart => exact ⟨0, by omega, by simp, M0.out⟩
  case round =>
    obtain ⟨c, hc, rfl, hM⟩ := hrel
    clear M0 hmk c0 c1 f1 f0
    by_cases hpos : 0 < (S' : Int) - 1024 * (c : Int)
    · have g0 : wr.cell? ⟨T, 0, none⟩ = some (.slice (some ⟨w.heap.size, 0, none⟩) c (nch S')) := hM.head.cell (i := 0) (by omega)
      have g1 := hM.head.frozen 0
      have hcn : c < nch S' := by unfold nch; omega
      have hT1 : T < wr.heap.size := hM.head.lt
      have hT2 : T < wr.heap.size + 1 := by omega
      have HM : Hid _ := mk_step hM hcn
      have hif : (if (1024 : Int) < (S' : Int) - 1024 * (c : Int) then (1024 : Int) else (S' : Int) - 1024 * (c : Int)) = ((clen S' c : Nat) : Int) := by
        unfold clen
        split <;> split <;> omega
      have hmk2 := make_chunk (clen S' c) (by have := clen_le S' c; omega)
      have HN : Hid (∀ o1 x j u, [x][j]? = some u → (((wr.alloc o1).alloc (.cells #[x] 47)).drew).cell? ((⟨wr.heap.size + 1, 0, none⟩ : Addr).add j) = some u) := fun o1 x j u h => one_new wr o1 x 47 j u h
      have HS : Hid (∀ o1 o2 x j, j < [x].length → ((((wr.alloc o1).alloc o2).drew).cell? ⟨w.heap.size, 0 + c * 1 + j, none⟩).isSome = true ∧ (((wr.alloc o1).alloc o2).drew).frozen? ⟨w.heap.size, 0 + c * 1 + j, none⟩ = false) := fun o1 o2 x j hj => spare_ok (x := x) hM.dir o1 o2 c hcn j hj
      clear hM
      go_wp2
      go_region_law (refine step_append_room rfl (.tmp 43) (.tmp 47) 25 rfl 47 i0 1 Try.underlying25 hi hz1 w.heap.size 0 c (nch S') (by simp [Act.eval]) ⟨wr.heap.size + 1, 0, none⟩ 1 1 [.slice (some ⟨wr.heap.size, 0, none⟩) (clen S' c) (clen S' c)] (by simp [Act.eval]) rfl (by exact HN.out _ _) (by simp [Value.oneCell']) (by omega) (by exact HS.out _ _ _) ?_; rw [setCells_one])
      all_goals
        go_wp2
        go_roundw
        case rel => exact ⟨c + 1, by omega, by go_num, HM.out⟩
        case measure => simp [intOf]; omega
    · have hcn : c = nch S' := by unfold nch at hc ⊢; omega
      subst hcn
      go_wp2
      go_loopw [53] (fun t wq => t = .int .i64 0 ∧ wq = wr) (fun _ _ => 0)
      case atStart => exact ⟨rfl, rfl⟩
      case round =>
        obtain ⟨rfl, rfl⟩ := hrel
        go_wp2
        go_end0
        exact ⟨rfl, mk_end hM, hM.below⟩
end Go.Proofs.Qxb6628294a
