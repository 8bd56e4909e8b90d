/-
  DERIVED. The contracts of zzlIndexOf and zzlLastWrites.
-/
import Derived.Test.Qxb6628294aRows
import Derived.Test.Qxb6628294aPlain
import Derived.WalkKit
import Derived.WalkSpells
import Derived.WalkLawsBesides
import Derived.Deep.OwnRows
import Derived.Lib.JoinLaws
namespace Go.Proofs.Qxb6628294a
open Go.RowKit Go.Deep

theorem idx_hit {l : List Int} {k : Int} {x : Nat} (hx : x < l.length) (e : l.getD x 0 = k) (hn : ∀ y, y < x → l.getD y 0 ≠ k) : Plain.idx l k = (x : Int) := by
  rcases Plain.idx_cases l k with ⟨_, h2⟩ | ⟨z, h1, h2, h3, h4⟩
  · exact absurd (by rw [← e]; exact Plain.getD_mem hx) h2
  · rcases Nat.lt_trichotomy z x with l | l | l
    · exact absurd h3 (hn z l)
    · rw [h1, l]
    · exact absurd e (h4 x l)
theorem idx_none {l : List Int} {k : Int} (hn : ∀ y, y < l.length → l.getD y 0 ≠ k) : Plain.idx l k = -1 := by
  rcases Plain.idx_cases l k with ⟨h1, _⟩ | ⟨z, h1, h2, h3, _⟩
  · exact h1
  · exact absurd h3 (hn z h2)

theorem ret_int {k : IntKind} {a b : Int} (h : a = b) : Ending.returned (.int k a) = .returned (.int k b) := by rw [h]

set_option maxHeartbeats 400000 in
theorem index_any (w : World) (D cap : Nat) (l : List Int) (k : Int) (hl : l.length ≤ 10000) (hc : ∀ x, x < l.length → w.cell? ⟨D, x, none⟩ = some (.int .u32 (l.getD x 0))) :
    Calls Try.prog 13 #[.slice (some ⟨D, 0, none⟩) l.length cap, .int .u32 k] w fun e w' => e = .returned (.int .i64 (Plain.idx l k)) ∧ w = w' := by
  have HC : Hid (∀ x, x < l.length → w.cell? ⟨D, x, none⟩ = some (.int .u32 (l.getD x 0))) := hc
  clear hc
  go_enter Try.func13, Try.ntmps13
  go_wp2
  go_loop [5] (fun t => ∃ x : Nat, x ≤ l.length ∧ t = .int .i64 (x : Int) ∧ Hid (∀ y, y < x → l.getD y 0 ≠ k)) (fun t => l.length - (intOf t).toNat)
  case atStart => exact ⟨0, by omega, rfl, fun y hy => by omega⟩
  case round =>
    obtain ⟨x, hx, rfl, HA⟩ := hrel
    by_cases hlt : x < l.length
    · have hcx := HC.out x hlt
      have H1 : Hid (l.getD x 0 = k → Plain.idx l k = (x : Int)) := fun e => idx_hit hlt e HA.out
      have H2 : Hid (l.getD x 0 ≠ k → ∀ y, y < x + 1 → l.getD y 0 ≠ k) := fun e y hy => by
        by_cases ey : y = x
        · subst ey; exact e
        · exact HA.out y (by omega)
      generalize l.getD x 0 = z at *
      by_cases e : z = k
      · have q : (z == k) = true := beq_iff_eq.2 e
        have HI : Hid (Plain.idx l k = (x : Int)) := H1.out e
        clear H1 H2 e
        go_wp2
        go_ret
        exact ⟨ret_int HI.out.symm, rfl⟩
      · have q : (z == k) = false := beq_eq_false_iff_ne.2 e
        have HI : Hid (∀ y, y < x + 1 → l.getD y 0 ≠ k) := H2.out e
        clear H1 H2 e
        go_wp2
        go_round
        case rel => exact ⟨x + 1, by omega, by go_num, HI.out⟩
        case measure => simp [intOf]; omega
    · have HI : Hid (Plain.idx l k = -1) := idx_none (fun y hy => HA.out y (by omega))
      go_wp2
      go_ret
      exact ⟨ret_int HI.out.symm, rfl⟩

/-- 'append(s, x)' of one element of one cell, where there is room. -/
theorem wpList_app1 {P : Program} (W : World) {ops : Array Oper} {rest : List Oper} {o : Oper} {a : Act} {Q : Exit → Act → World → Prop}
    (hg : o.guard = none) (s x : Operand) (t : TypeId) (hop : o.op = Op.call { callee := Callee.builtin Builtin.append, args := #[s, x], argTypes := #[t, t] })
    (e : TypeId) (i : TypeInfo) (h1 : P.underlying t = some (.slice e)) (h2 : P.info? e = some i) (h4 : i.size = 1)
    (b n cap : Nat) (hs : a.eval s = .slice (some ⟨b, 0, none⟩) n cap) (ab : Nat) (u : Value) (hx : a.eval x = .slice (some ⟨ab, 0, none⟩) 1 1) (hc : W.cell? ⟨ab, 0, none⟩ = some u) (h1c : u.oneCell' = true)
    (hroom : n + 1 ≤ cap) (hsp : (W.cell? ⟨b, n, none⟩).isSome = true) (hfr : W.frozen? ⟨b, n, none⟩ = false)
    (hK : wpList P ops Q rest (a.put o.dst (.slice (some ⟨b, 0, none⟩) (n + 1) cap)) (W.setCell ⟨b, n, none⟩ u)) :
    wpList P ops Q (o :: rest) a W := by
  refine wpList_plain hg fun K hK' => ?_
  have hrun := run_append_room_cells (P := P) W t o.type e i h1 h2 b 0 n cap ⟨ab, 0, none⟩ 1 1 [u] (by rw [h4]; rfl) (fun j v hj => by
    match j, hj with
    | 0, hj =>
      have hv : u = v := by simpa using hj
      subst hv
      simpa [Addr.add] using hc
    | j + 1, hj => simp at hj) (fun v hv => by have : v = u := by simpa using hv
                                               rw [this]; exact h1c) hroom (fun j hj => by
    have hj0 : j = 0 := by simpa using hj
    subst hj0
    rw [h4, show 0 + n * 1 + 0 = n by omega]; exact hsp) (fun j hj => by
    have hj0 : j = 0 := by simpa using hj
    subst hj0
    rw [h4, show 0 + n * 1 + 0 = n by omega]; exact hfr)
  rw [h4, show 0 + n * 1 = n by omega] at hrun
  unfold Oper.wp
  simp [execOp, hop, resolve, invoke, builtin, hs, hx, hrun, Result.andThen]
  exact hK' _ _ hK

theorem Try.info29 : (Try.prog.info? 29).map (fun i => (i.zero, i.size, i.bytes)) = some (some (.int .u32 0), 1, 4) := by kernel_rfl
theorem Try.info21 : (Try.prog.info? 21).map (fun i => (i.zero, i.size, i.bytes)) = some (some (.int .i32 0), 1, 4) := by kernel_rfl
/-- 'make([]uint32, 0, n)', 'make([]int32, 0, n)'. -/
theorem make_u32 (n : Nat) (hn : n ≤ 1000000) (w : World) :
    (Instr.makeSlice 22 (.int .i64 0) (.int .i64 (n : Int))).run Try.prog w = .ok (.slice (some ⟨w.heap.size, 0, none⟩) 0 n) (w.alloc (.cells (madeCells #[.int .u32 0] n) 29)) := by
  obtain ⟨i, hi, hz0, hz1, hz2⟩ := info_parts Try.info29
  have := run_make (P := Try.prog) w 22 29 i (.int .u32 0) Try.underlying22 hi hz0 .i64 .i64 0 n (by omega) (by omega) (by rw [hz2]; omega) (by omega)
  rw [hz1] at this
  simpa [Value.cells] using this
theorem make_i32 (n : Nat) (hn : n ≤ 1000000) (w : World) :
    (Instr.makeSlice 23 (.int .i64 0) (.int .i64 (n : Int))).run Try.prog w = .ok (.slice (some ⟨w.heap.size, 0, none⟩) 0 n) (w.alloc (.cells (madeCells #[.int .i32 0] n) 21)) := by
  obtain ⟨i, hi, hz0, hz1, hz2⟩ := info_parts Try.info21
  have := run_make (P := Try.prog) w 23 21 i (.int .i32 0) Try.underlying23 hi hz0 .i64 .i64 0 n (by omega) (by omega) (by rw [hz2]; omega) (by omega)
  rw [hz1] at this
  simpa [Value.cells] using this

/-- The two rows of the model, in blocks D and D + 1. -/
structure Two (w0 wr : World) (D N : Nat) (m : List Int × List Int) : Prop where
  dk : wr.rowIs D 29 N (fun x => .int .u32 (m.1.getD x 0))
  dv : wr.rowIs (D + 1) 21 N (fun x => .int .i32 (m.2.getD x 0))
  below : Below D w0 wr

theorem getD_snoc (l : List Int) (k : Int) (x : Nat) : (l ++ [k]).getD x 0 = if x = l.length then k else l.getD x 0 := by
  by_cases h : x < l.length
  · rw [Plain.getD_left _ _ _ _ h, if_neg (by omega)]
  · rw [Plain.getD_right _ _ _ _ (by omega)]
    by_cases e : x = l.length
    · subst e; simp
    · rw [if_neg e]
      have h1 : l.getD x 0 = 0 := by rw [List.getD_eq_getElem?_getD, List.getElem?_eq_none (by omega)]; rfl
      have h2 : ([k] : List Int).getD (x - l.length) 0 = 0 := by rw [List.getD_eq_getElem?_getD, List.getElem?_eq_none (by simp; omega)]; rfl
      rw [h1, h2]
theorem Two.app1 {w0 wr : World} {D N : Nat} {m : List Int × List Int} (h : Two w0 wr D N m) (o : Obj) (k : Int) : Two w0 ((wr.alloc o).setCell ⟨D, m.1.length, none⟩ (.int .u32 k)) D N (m.1 ++ [k], m.2) where
  dk := ((h.dk.alloc o).set m.1.length _).congr (fun x _ => by
    show (if x = m.1.length then _ else _) = Value.int .u32 ((m.1 ++ [k]).getD x 0)
    rw [getD_snoc]
    split <;> rfl)
  dv := (h.dv.alloc o).setOther (a := ⟨D, m.1.length, none⟩) (by show D + 1 ≠ D; omega) _
  below := (h.below.alloc (Nat.le_of_lt h.dk.lt) o).setCell (p := ⟨D, m.1.length, none⟩) (Nat.le_refl _) _
theorem Two.app2 {w0 wr : World} {D N : Nat} {m : List Int × List Int} (h : Two w0 wr D N m) (o : Obj) (v : Int) : Two w0 ((wr.alloc o).setCell ⟨D + 1, m.2.length, none⟩ (.int .i32 v)) D N (m.1, m.2 ++ [v]) where
  dv := ((h.dv.alloc o).set m.2.length _).congr (fun x _ => by
    show (if x = m.2.length then _ else _) = Value.int .i32 ((m.2 ++ [v]).getD x 0)
    rw [getD_snoc]
    split <;> rfl)
  dk := (h.dk.alloc o).setOther (a := ⟨D + 1, m.2.length, none⟩) (by show D ≠ D + 1; omega) _
  below := (h.below.alloc (Nat.le_of_lt h.dk.lt) o).setCell (p := ⟨D + 1, m.2.length, none⟩) (by show D ≤ D + 1; omega) _
theorem Two.set {w0 wr : World} {D N : Nat} {m : List Int × List Int} (h : Two w0 wr D N m) (x0 : Nat) (hx : x0 < m.2.length) (v : Int) : Two w0 (wr.setCell ⟨D + 1, x0, none⟩ (.int .i32 v)) D N (m.1, m.2.set x0 v) where
  dv := (h.dv.set x0 _).congr (fun x _ => by
    show (if x = x0 then _ else _) = Value.int .i32 ((m.2.set x0 v).getD x 0)
    have e1 : (m.2.set x0 v).getD x 0 = if x = x0 then v else m.2.getD x 0 := by
      rw [List.getD_eq_getElem?_getD, List.getElem?_set]
      by_cases e : x = x0
      · subst e; simp [hx]
      · rw [if_neg e, if_neg (fun e' => e e'.symm), List.getD_eq_getElem?_getD]
    rw [e1]
    split <;> rfl)
  dk := h.dk.setOther (a := ⟨D + 1, x0, none⟩) (by show D ≠ D + 1; omega) _
  below := h.below.setCell (p := ⟨D + 1, x0, none⟩) (by show D ≤ D + 1; omega) _

set_option maxRecDepth 100000 in
set_option maxHeartbeats 400000 in
theorem last_any (w : World) (bk ok lk ck bv ov lv cv n : Nat) (zk zv : List Int) (hk : ∀ i, i < n → w.cell? ⟨bk, ok + i, none⟩ = some (.int .u32 (zk.getD i 0))) (hv : ∀ i, i < n → w.cell? ⟨bv, ov + i, none⟩ = some (.int .i32 (zv.getD i 0)))
    (hbk : bk < w.heap.size) (hbv : bv < w.heap.size) (hlk : n ≤ lk) (hlv : n ≤ lv) (hn : n ≤ 4096) :
    Calls Try.prog 7 #[.slice (some ⟨bk, ok, none⟩) lk ck, .slice (some ⟨bv, ov, none⟩) lv cv, .int .i64 (n : Int)] w fun e w' => e = .returned (.tuple #[.slice (some ⟨w.heap.size, 0, none⟩) (Plain.lw zk zv n).1.length n, .slice (some ⟨w.heap.size + 1, 0, none⟩) (Plain.lw zk zv n).1.length n]) ∧ Two w w' w.heap.size n (Plain.lw zk zv n) := by
  have HK : Hid (∀ i, i < n → w.cell? ⟨bk, ok + i, none⟩ = some (.int .u32 (zk.getD i 0))) := hk
  have HV : Hid (∀ i, i < n → w.cell? ⟨bv, ov + i, none⟩ = some (.int .i32 (zv.getD i 0))) := hv
  have m1 := make_u32 n (by omega)
  have m2 := make_i32 n (by omega)
  obtain ⟨ik, hik, hz0, hz1, hz2⟩ := info_parts Try.info29
  obtain ⟨iv, hiv, hy0, hy1, hy2⟩ := info_parts Try.info21
  clear hk hv
  go_enter Try.func7, Try.ntmps7
  go_wp2
  go_loopw [8, 9, 10] (fun s t i wr => ∃ x : Nat, x ≤ n ∧ i = .int .i64 (x : Int) ∧ s = .slice (some ⟨w.heap.size, 0, none⟩) (Plain.lw zk zv x).1.length n ∧ t = .slice (some ⟨w.heap.size + 1, 0, none⟩) (Plain.lw zk zv x).1.length n ∧ Two w wr w.heap.size n (Plain.lw zk zv x)) (fun _ _ i _ => n - (intOf i).toNat)
  case atStart =>
    refine ⟨0, by omega, rfl, rfl, rfl, ?_⟩
    refine ⟨((World.rowIs_made w (.int .u32 0) n 29).alloc _).congr (fun x _ => by simp [Plain.lw]), ?_, ((Below.refl _ _).alloc (Nat.le_refl _) _).alloc (by simp) _⟩
    have := World.rowIs_made (w.alloc (.cells (madeCells #[.int .u32 0] n) 29)) (.int .i32 0) n 21
    rw [nblk_alloc] at this
    exact this.congr (fun x _ => by simp [Plain.lw])
  case round =>
    obtain ⟨x, hx, rfl, rfl, rfl, hT⟩ := hrel
    clear m1 m2
    by_cases hlt : x < n
    · have hck : wr.cell? ⟨bk, ok + x, none⟩ = some (.int .u32 (zk.getD x 0)) := (hT.below.cell hbk).trans (HK.out x hlt)
      have hcv : wr.cell? ⟨bv, ov + x, none⟩ = some (.int .i32 (zv.getD x 0)) := (hT.below.cell hbv).trans (HV.out x hlt)
      have hll := Plain.lw_le zk zv x
      have HLL : Hid ((Plain.lw zk zv x).2.length = (Plain.lw zk zv x).1.length) := Plain.lw_len zk zv x
      have HLS : Hid (Plain.lw zk zv (x + 1) = Plain.wr (Plain.lw zk zv x) (zk.getD x 0) (zv.getD x 0)) := rfl
      generalize zk.getD x 0 = k at *
      generalize zv.getD x 0 = v at *
      obtain ⟨m, hm⟩ : ∃ m, m = Plain.lw zk zv x := ⟨_, rfl⟩
      rw [← hm] at hT hll HLL HLS ⊢
      clear hm
      have HIX : Hid (∀ y, y < m.1.length → wr.cell? ⟨w.heap.size, y, none⟩ = some (.int .u32 (m.1.getD y 0))) := fun y hy => hT.dk.cell (by omega)
      rcases Plain.idx_cases m.1 k with ⟨hidx, hnot⟩ | ⟨x0, hidx, hx0, _, _⟩
      · have HI := index_any wr w.heap.size n m.1 k (by omega) HIX.out
        rw [hidx] at HI
        have HX : Hid (Plain.idx m.1 k = -1) := hidx
        clear hidx hnot
        have HW : Hid (Plain.lw zk zv (x + 1) = (m.1 ++ [k], m.2 ++ [v])) := by
          show _ = _
          rw [HLS.out]
          unfold Plain.wr
          rw [if_pos (by rw [HX.out]; omega)]
        go_wp2_with (first | (go_at_call 13; refine HI.mono ?_; rintro e w' ⟨rfl, rfl⟩) | (at_builtin; refine wpList_app1 _ rfl (.tmp 29) (.tmp 34) 22 rfl 29 ik Try.underlying22 hik hz1 w.heap.size m.1.length n rfl wr.heap.size (.int .u32 k) rfl (by simp) rfl (by omega) (by rw [(hT.dk.alloc _).cell (by omega)]; rfl) ((hT.dk.alloc _).frozen _) ?_; have hT1 := hT.app1 (.cells #[.int .u32 k] 29) k; generalize (wr.alloc (.cells #[.int .u32 k] 29)).setCell ⟨w.heap.size, m.1.length, none⟩ (.int .u32 k) = W1 at hT1 ⊢; have hcv1 : W1.cell? ⟨bv, ov + x, none⟩ = some (.int .i32 v) := (hT1.below.cell hbv).trans ((hT.below.cell hbv).symm.trans hcv)) | (at_builtin; refine wpList_app1 _ rfl (.tmp 36) (.tmp 41) 23 rfl 21 iv Try.underlying23 hiv hy1 (w.heap.size + 1) m.1.length n rfl W1.heap.size (.int .i32 v) rfl (by simp) rfl (by omega) (by rw [(hT1.dv.alloc _).cell (by omega)]; rfl) ((hT1.dv.alloc _).frozen _) ?_))
        go_roundw
        case rel => 
          refine ⟨x + 1, by omega, by go_num, ?_, ?_, ?_⟩
          · rw [HW.out]; simp
          · rw [HW.out]; simp
          · rw [HW.out]
            have := hT1.app2 (.cells #[.int .i32 v] 21) v
            rw [show ((m.1 ++ [k], m.2) : List Int × List Int).2.length = m.1.length from HLL.out] at this
            exact this
        case measure => simp [intOf]; omega
      · have HI := index_any wr w.heap.size n m.1 k (by omega) HIX.out
        rw [hidx] at HI
        have HX : Hid (Plain.idx m.1 k = (x0 : Int)) := hidx
        clear hidx
        have hdc := hT.dv.cell (i := x0) (by omega)
        have hdf := hT.dv.frozen x0
        have HW : Hid (Plain.lw zk zv (x + 1) = (m.1, m.2.set x0 v)) := by
          show _ = _
          rw [HLS.out]
          unfold Plain.wr
          rw [if_neg (by rw [HX.out]; omega), HX.out, Int.toNat_natCast]
        go_wp2_with (go_at_call 13; refine HI.mono ?_; rintro e w' ⟨rfl, rfl⟩)
        go_roundw
        case rel =>
          refine ⟨x + 1, by omega, by go_num, ?_, ?_, ?_⟩
          · rw [HW.out]
          · rw [HW.out]
          · rw [HW.out]
            exact hT.set x0 (by rw [HLL.out]; exact hx0) v
        case measure => simp [intOf]; omega
    · obtain rfl : x = n := by omega
      go_wp2
      go_ret2
      exact ⟨rfl, hT⟩

set_option maxRecDepth 100000 in
set_option maxHeartbeats 400000 in
theorem last_zero (w : World) (a0 a1 : Option Addr) (lk ck lv cv : Nat) (zk zv : List Int) :
    Calls Try.prog 7 #[.slice a0 lk ck, .slice a1 lv cv, .int .i64 0] w fun e w' => e = .returned (.tuple #[.slice (some ⟨w.heap.size, 0, none⟩) 0 0, .slice (some ⟨w.heap.size + 1, 0, none⟩) 0 0]) ∧ Two w w' w.heap.size 0 (Plain.lw zk zv 0) := by
  have m1 : ∀ W : World, (Instr.makeSlice 22 (.int .i64 0) (.int .i64 0)).run Try.prog W = .ok (.slice (some ⟨W.heap.size, 0, none⟩) 0 0) (W.alloc (.cells (madeCells #[.int .u32 0] 0) 29)) := make_u32 0 (by omega)
  have m2 : ∀ W : World, (Instr.makeSlice 23 (.int .i64 0) (.int .i64 0)).run Try.prog W = .ok (.slice (some ⟨W.heap.size, 0, none⟩) 0 0) (W.alloc (.cells (madeCells #[.int .i32 0] 0) 21)) := make_i32 0 (by omega)
  have T0 : Hid (Two w ((w.alloc (.cells (madeCells #[.int .u32 0] 0) 29)).alloc (.cells (madeCells #[.int .i32 0] 0) 21)) w.heap.size 0 (Plain.lw zk zv 0)) := by
    refine ⟨((World.rowIs_made w (.int .u32 0) 0 29).alloc _).congr (fun x _ => by simp [Plain.lw]), ?_, ((Below.refl _ _).alloc (Nat.le_refl _) _).alloc (by simp) _⟩
    have := World.rowIs_made (w.alloc (.cells (madeCells #[.int .u32 0] 0) 29)) (.int .i32 0) 0 21
    rw [nblk_alloc] at this
    exact this.congr (fun x _ => by simp [Plain.lw])
  generalize (madeCells #[.int .u32 0] 0) = M1 at *
  generalize (madeCells #[.int .i32 0] 0) = M2 at *
  go_enter Try.func7, Try.ntmps7
  go_wp2
  clear m1 m2
  go_loopw [8, 9, 10] (fun s t i wr => s = .slice (some ⟨w.heap.size, 0, none⟩) 0 0 ∧ t = .slice (some ⟨w.heap.size + 1, 0, none⟩) 0 0 ∧ i = .int .i64 0 ∧ wr = (w.alloc (.cells M1 29)).alloc (.cells M2 21)) (fun _ _ _ _ => 0)
  case atStart => exact ⟨rfl, rfl, rfl, rfl⟩
  case round =>
    obtain ⟨rfl, rfl, rfl, rfl⟩ := hrel
    go_wp2
    go_ret2
    exact ⟨rfl, T0.out⟩
end Go.Proofs.Qxb6628294a
