/-
  DERIVED. The walk of FnPutKeepsExactlyTheLastValueOfEachKey: its small lemmas, and the cases where nothing is put.
-/
import Derived.Test.Qxb6628294aLawF
namespace Go.Proofs.Qxb6628294a
open Go.RowKit Go.Deep

set_option maxRecDepth 100000 in
set_option maxHeartbeats 400000 in
theorem lawK_long (a0 a1 : Option Addr) (l0 c0 l1 c1 : Nat) (h0 : l0 ≤ maxLen) (h1 : l1 ≤ maxLen) (hbig : 4096 < l0 ∨ 4096 < l1) (w : World) :
    Calls Try.prog 3 #[.slice a0 l0 c0, .slice a1 l1 c1] w fun e w' => e = .returned (.bool true) ∧ Below w.heap.size w w' := by
  have HZ := zb5_any a0 a1 l0 c0 l1 c1 h0 h1 w
  unfold maxLen at h0 h1
  by_cases hb0 : 4096 < l0
  · go_enter Try.func3, Try.ntmps3
    go_wp2_with fail
    refine HZ.mono ?_
    rintro e w' ⟨⟨b, rfl, _⟩, rfl⟩
    clear HZ
    cases b
    all_goals
      go_wp2
      go_ret
      exact ⟨rfl, Below.refl _ _⟩
  · have hb1 : 4096 < l1 := by omega
    have hd : decide ((4096 : Int) < (l0 : Int)) = false := by simp; omega
    go_enter Try.func3, Try.ntmps3
    go_wp2_with fail
    refine HZ.mono ?_
    rintro e w' ⟨⟨b, rfl, _⟩, rfl⟩
    clear HZ
    cases b
    all_goals
      go_wp2
      go_ret
      exact ⟨rfl, Below.refl _ _⟩

theorem Try.info4 : (Try.prog.info? 4).map (fun i => (i.zero, i.size, i.bytes)) = some (some (.bool false), 1, 1) := by kernel_rfl
/-- 'make([]bool, n)'. -/
theorem make_bool (n : Nat) (hn : n ≤ 1000000) (w : World) :
    (Instr.makeSlice 34 (.int .i64 (n : Int)) (.int .i64 (n : Int))).run Try.prog w = .ok (.slice (some ⟨w.heap.size, 0, none⟩) n n) (w.alloc (.cells (madeCells #[.bool false] n) 4)) :=
  run_make_row' (P := Try.prog) 34 4 (.bool false) 1 Try.underlying34 Try.info4 rfl .i64 .i64 n (by omega) (by omega) w

set_option maxRecDepth 100000 in
set_option maxHeartbeats 400000 in
theorem lawK_zero (a0 a1 : Option Addr) (l0 c0 l1 c1 : Nat) (h0 : l0 ≤ 4096) (h1 : l1 ≤ 4096) (hz : l0 = 0 ∨ l1 = 0) (w : World) :
    Calls Try.prog 3 #[.slice a0 l0 c0, .slice a1 l1 c1] w fun e w' => e = .returned (.bool true) ∧ Below w.heap.size w w' := by
  have HZ := zb5_any a0 a1 l0 c0 l1 c1 (by unfold maxLen; omega) (by unfold maxLen; omega) w
  have d0 : decide ((4096 : Int) < (l0 : Int)) = false := by simp; omega
  have d1 : decide ((4096 : Int) < (l1 : Int)) = false := by simp; omega
  have mb : ∀ W : World, (Instr.makeSlice 34 (.int .i64 0) (.int .i64 0)).run Try.prog W = .ok (.slice (some ⟨W.heap.size, 0, none⟩) 0 0) (W.alloc (.cells (madeCells #[.bool false] 0) 4)) := make_bool 0 (by omega)
  generalize (madeCells #[.bool false] 0) = MB at *
  by_cases hz0 : l0 = 0
  · subst hz0
    go_enter Try.func3, Try.ntmps3
    go_wp2_with fail
    refine HZ.mono ?_
    rintro e w' ⟨⟨b, rfl, hb⟩, rfl⟩
    clear HZ
    obtain rfl := hb (by omega) (by omega)
    clear hb
    go_wp2
    go_loop [6] (fun t => t = .int .i64 0) (fun _ => 0)
    case atStart => rfl
    case round =>
      obtain rfl := hrel
      go_wp2
      go_loopw [8] (fun t wr => t = .int .i64 0 ∧ wr = w.alloc (.cells #[.slice none 0 0, .int .i64 0, .int .i64 0] 27)) (fun _ _ => 0)
      case atStart => exact ⟨rfl, rfl⟩
      case round =>
        obtain ⟨rfl, rfl⟩ := hrel
        go_wp2_with fail
        refine (last_zero _ _ _ _ _ _ _ [] []).mono ?_
        rintro e w2 ⟨rfl, hT⟩
        have hrow := (head_start w).of_block (hT.below.block w.heap.size (by simp))
        have e1 : w2.cell? ⟨w.heap.size, 1, none⟩ = some (.int .i64 ((0 : Nat) : Int)) := hrow.cell (i := 1) (by omega)
        have e2 : w2.cell? ⟨w.heap.size, 2, none⟩ = some (.int .i64 ((0 : Nat) : Int)) := hrow.cell (i := 2) (by omega)
        have e0 : ∀ o, (w2.alloc o).cell? ⟨w.heap.size, 0, none⟩ = some (.slice none 0 0) := fun o => (hrow.alloc o).cell (i := 0) (by omega)
        have hb2 : Below w.heap.size w w2 := ((Below.refl _ _).alloc (Nat.le_refl _) _).trans (hT.below.mono (by simp))
        clear hT hrow
        go_wp2_with fail
        refine (size_any _ _ 0 e1).mono ?_
        rintro e w3 ⟨rfl, rfl⟩
        go_wp2_with fail
        refine (taken_any _ _ 0 e2).mono ?_
        rintro e w3 ⟨rfl, rfl⟩
        go_wp2_with fail
        refine (count_any _ _ 0 0 _ (e0 _)).mono ?_
        rintro e w3 ⟨rfl, rfl⟩
        clear mb e0 e1 e2
        go_wp2
        go_loopw [14, 15, 17] (fun s t i wr => s = .int .i64 0 ∧ t = .int .i64 0 ∧ i = .int .i64 0 ∧ wr = w2.alloc (.cells MB 4)) (fun _ _ _ _ => 0)
        case atStart => exact ⟨rfl, rfl, rfl, rfl⟩
        case round =>
          obtain ⟨rfl, rfl, rfl, rfl⟩ := hrel
          go_wp2
          go_ret
          exact ⟨rfl, hb2.alloc hb2.size _⟩
  · have hz1 : l1 = 0 := by omega
    subst hz1
    have hlt : 0 < l0 := by omega
    go_enter Try.func3, Try.ntmps3
    go_wp2_with fail
    refine HZ.mono ?_
    rintro e w' ⟨⟨b, rfl, hb⟩, rfl⟩
    clear HZ
    obtain rfl := hb (by omega) (by omega)
    clear hb
    go_wp2
    go_loop [6] (fun t => t = .int .i64 0) (fun _ => 0)
    case atStart => rfl
    case round =>
      obtain rfl := hrel
      go_wp2
      go_loopw [8] (fun t wr => t = .int .i64 0 ∧ wr = w.alloc (.cells #[.slice none 0 0, .int .i64 0, .int .i64 0] 27)) (fun _ _ => 0)
      case atStart => exact ⟨rfl, rfl⟩
      case round =>
        obtain ⟨rfl, rfl⟩ := hrel
        go_wp2_with fail
        refine (last_zero _ _ _ _ _ _ _ [] []).mono ?_
        rintro e w2 ⟨rfl, hT⟩
        have hrow := (head_start w).of_block (hT.below.block w.heap.size (by simp))
        have e1 : w2.cell? ⟨w.heap.size, 1, none⟩ = some (.int .i64 ((0 : Nat) : Int)) := hrow.cell (i := 1) (by omega)
        have e2 : w2.cell? ⟨w.heap.size, 2, none⟩ = some (.int .i64 ((0 : Nat) : Int)) := hrow.cell (i := 2) (by omega)
        have e0 : ∀ o, (w2.alloc o).cell? ⟨w.heap.size, 0, none⟩ = some (.slice none 0 0) := fun o => (hrow.alloc o).cell (i := 0) (by omega)
        have hb2 : Below w.heap.size w w2 := ((Below.refl _ _).alloc (Nat.le_refl _) _).trans (hT.below.mono (by simp))
        clear hT hrow
        go_wp2_with fail
        refine (size_any _ _ 0 e1).mono ?_
        rintro e w3 ⟨rfl, rfl⟩
        go_wp2_with fail
        refine (taken_any _ _ 0 e2).mono ?_
        rintro e w3 ⟨rfl, rfl⟩
        go_wp2_with fail
        refine (count_any _ _ 0 0 _ (e0 _)).mono ?_
        rintro e w3 ⟨rfl, rfl⟩
        clear mb e0 e1 e2
        go_wp2
        go_loopw [14, 15, 17] (fun s t i wr => s = .int .i64 0 ∧ t = .int .i64 0 ∧ i = .int .i64 0 ∧ wr = w2.alloc (.cells MB 4)) (fun _ _ _ _ => 0)
        case atStart => exact ⟨rfl, rfl, rfl, rfl⟩
        case round =>
          obtain ⟨rfl, rfl, rfl, rfl⟩ := hrel
          go_wp2
          go_ret
          exact ⟨rfl, hb2.alloc hb2.size _⟩

/-- A store far from the table. -/
theorem TabAt.far {w : World} {T C cap : Nat} {B : Nat → Nat} {S n : Nat} {K V : Nat → Int} (h : TabAt w T C cap B S n K V) (a : Addr) (v : Value) (h1 : T < a.block) (h2 : C < a.block) (h3 : ∀ c, c < nch S → B c < a.block) : TabAt (w.setCell a v) T C cap B S n K V where
  head := h.head.setOther (by omega) _
  dir := fun c hc => (World.cell?_of_block (w := w) (blk_setCell_other _ _ _ _ (by show C ≠ a.block; omega))).trans (h.dir c hc)
  rows := fun c hc => (h.rows c hc).setOther (by have := h3 c hc; omega) _
  TC := h.TC
  Clt := by rw [nblk_setCell]; exact h.Clt
  TB := h.TB
  CB := h.CB
  inj := h.inj

/-- Which keys of the model were met among the first p slots. -/
def sn (K V : Nat → Int) (l : List Int) : Nat → Nat → Bool
  | 0, _ => false
  | p + 1, x => sn K V l p x || (decide (V p ≠ 0) && K p == l.getD x 0)
theorem sn_true {K V : Nat → Int} {l : List Int} {x : Nat} : ∀ {p : Nat}, sn K V l p x = true → ∃ i, i < p ∧ V i ≠ 0 ∧ K i = l.getD x 0
  | 0, h => by cases h
  | p + 1, h => by
    unfold sn at h
    rcases Bool.or_eq_true_iff.1 h with h | h
    · obtain ⟨i, hi, r⟩ := sn_true h
      exact ⟨i, by omega, r⟩
    · simp at h
      exact ⟨p, by omega, h.1, h.2⟩
theorem sn_skip {K V : Nat → Int} {l : List Int} {p : Nat} (x : Nat) (h : V p = 0) : sn K V l (p + 1) x = sn K V l p x := by
  simp [sn, h]
theorem sn_put {K V : Nat → Int} {l : List Int} {p : Nat} (hn : l.Nodup) {x : Nat} (hx : x < l.length) (h : V p ≠ 0) (e : l.getD x 0 = K p) (y : Nat) (hy : y < l.length) : (if y = x then true else sn K V l p y) = sn K V l (p + 1) y := by
  have e1 : sn K V l (p + 1) y = (sn K V l p y || (decide (V p ≠ 0) && K p == l.getD y 0)) := rfl
  rw [e1]
  by_cases ey : y = x
  · subst ey
    rw [if_pos rfl, e]
    simp [h]
  · rw [if_neg ey]
    have hne : (K p == l.getD y 0) = false := beq_eq_false_iff_ne.2 (fun e' => ey (Plain.nodup_getD hn hy hx (by rw [e, e'])))
    rw [hne, Bool.and_false, Bool.or_false]
theorem sn_new {S : Nat} {K V : Nat → Int} {m : List Int × List Int} (hr : Plain.Rep (home S) S K V m) {p x : Nat} (hp : p < S) (h : V p ≠ 0) (e : m.1.getD x 0 = K p) : sn K V m.1 p x = false := by
  cases hs : sn K V m.1 p x
  · rfl
  · obtain ⟨i, hi, t, ek⟩ := sn_true hs
    have := hr.wf.uniq (by omega) hp t h (ek.trans e)
    omega
/-- The slot at p and the model. -/
theorem slot_model {S : Nat} {K V : Nat → Int} {m : List Int × List Int} (hr : Plain.Rep (home S) S K V m) {p : Nat} (hp : p < S) (h : V p ≠ 0) : ∃ x : Nat, x < m.1.length ∧ m.1.getD x 0 = K p ∧ m.2.getD x 0 + 1 = V p ∧ Plain.idx m.1 (K p) = (x : Int) := by
  obtain ⟨x, hx, e1, e2⟩ := (hr.has (K p) (V p)).1 ⟨p, hp, h, rfl, rfl⟩
  refine ⟨x, hx, e1, e2, idx_hit hx e1 (fun y hy e => ?_)⟩
  have := Plain.nodup_getD hr.nodup (by omega) hx (e.trans e1.symm)
  omega
end Go.Proofs.Qxb6628294a
