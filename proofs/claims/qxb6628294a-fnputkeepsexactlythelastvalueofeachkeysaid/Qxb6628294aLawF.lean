/-
  DERIVED. The walk of FnPutThenFindAgreesWithLastWrites.
-/
import Derived.Test.Qxb6628294aAcc
namespace Go.Proofs.Qxb6628294a
open Go.RowKit Go.Deep

set_option maxHeartbeats 400000 in
theorem zb15_any (a0 a1 : Option Addr) (l0 c0 l1 c1 : Nat) (q : Int) (h0 : l0 ≤ maxLen) (h1 : l1 ≤ maxLen) (w : World) :
    Calls Try.prog 15 #[.slice a0 l0 c0, .slice a1 l1 c1, .int .u32 q] w fun e w' => (∃ b, e = .returned (.bool b) ∧ (l0 ≤ 4096 → l1 ≤ 4096 → b = true)) ∧ w = w' := by
  unfold maxLen at h0 h1
  go_enter Try.func15, Try.ntmps15
  go_wp2
  all_goals
    go_ret
    exact ⟨⟨_, rfl, fun _ _ => by first | rfl | omega⟩, rfl⟩
set_option maxHeartbeats 400000 in
theorem zb5_any (a0 a1 : Option Addr) (l0 c0 l1 c1 : Nat) (h0 : l0 ≤ maxLen) (h1 : l1 ≤ maxLen) (w : World) :
    Calls Try.prog 5 #[.slice a0 l0 c0, .slice a1 l1 c1] w fun e w' => (∃ b, e = .returned (.bool b) ∧ (l0 ≤ 4096 → l1 ≤ 4096 → b = true)) ∧ w = w' := by
  unfold maxLen at h0 h1
  go_enter Try.func5, Try.ntmps5
  go_wp2
  all_goals
    go_ret
    exact ⟨⟨_, rfl, fun _ _ => by first | rfl | omega⟩, rfl⟩

set_option maxHeartbeats 400000 in
theorem lawF_long (a0 a1 : Option Addr) (l0 c0 l1 c1 : Nat) (q : Int) (h0 : l0 ≤ maxLen) (h1 : l1 ≤ maxLen) (hbig : 4096 < l0 ∨ 4096 < l1) (w : World) :
    Calls Try.prog 4 #[.slice a0 l0 c0, .slice a1 l1 c1, .int .u32 q] w fun e w' => e = .returned (.bool true) ∧ Below w.heap.size w w' := by
  have HZ := zb15_any a0 a1 l0 c0 l1 c1 q h0 h1 w
  unfold maxLen at h0 h1
  by_cases hb0 : 4096 < l0
  · go_enter Try.func4, Try.ntmps4
    go_wp2_with fail
    refine HZ.mono ?_
    rintro e w' ⟨⟨b, rfl, _⟩, rfl⟩
    clear HZ
    cases b
    all_goals
      go_wp2
      go_ret
      exact ⟨rfl, Below.refl _ _⟩
  · have hb1 : 4096 < l1 := by omega
    have hd : decide ((4096 : Int) < (l0 : Int)) = false := by simp; omega
    go_enter Try.func4, Try.ntmps4
    go_wp2_with fail
    refine HZ.mono ?_
    rintro e w' ⟨⟨b, rfl, _⟩, rfl⟩
    clear HZ
    cases b
    all_goals
      go_wp2
      go_ret
      exact ⟨rfl, Below.refl _ _⟩

theorem head_start (w : World) : (w.alloc (.cells #[.slice none 0 0, .int .i64 0, .int .i64 0] 27)).rowIs w.heap.size 27 3 (headF (.slice none 0 0) 0 0) :=
  World.rowIs_alloc w #[.slice none 0 0, .int .i64 0, .int .i64 0] 27 _ (fun i hi => by
    have hi' : i < 3 := hi
    match i, hi' with
    | 0, _ => rfl
    | 1, _ => rfl
    | 2, _ => rfl)

set_option maxRecDepth 100000 in
set_option maxHeartbeats 400000 in
theorem lawF_zero (a0 a1 : Option Addr) (l0 c0 l1 c1 : Nat) (q : Int) (h0 : l0 ≤ 4096) (h1 : l1 ≤ 4096) (hz : l0 = 0 ∨ l1 = 0) (w : World) :
    Calls Try.prog 4 #[.slice a0 l0 c0, .slice a1 l1 c1, .int .u32 q] w fun e w' => e = .returned (.bool true) ∧ Below w.heap.size w w' := by
  have HZ := zb15_any a0 a1 l0 c0 l1 c1 q (by unfold maxLen; omega) (by unfold maxLen; omega) w
  have d0 : decide ((4096 : Int) < (l0 : Int)) = false := by simp; omega
  have d1 : decide ((4096 : Int) < (l1 : Int)) = false := by simp; omega
  by_cases hz0 : l0 = 0
  · subst hz0
    go_enter Try.func4, Try.ntmps4
    go_wp2_with fail
    refine HZ.mono ?_
    rintro e w' ⟨⟨b, rfl, hb⟩, rfl⟩
    clear HZ
    obtain rfl := hb (by omega) (by omega)
    clear hb
    go_wp2
    go_loop [8] (fun t => t = .int .i64 0) (fun _ => 0)
    case atStart => rfl
    case round =>
      obtain rfl := hrel
      go_wp2
      go_loopw [10] (fun t wr => t = .int .i64 0 ∧ wr = w.alloc (.cells #[.slice none 0 0, .int .i64 0, .int .i64 0] 27)) (fun _ _ => 0)
      case atStart => exact ⟨rfl, rfl⟩
      case round =>
        obtain ⟨rfl, rfl⟩ := hrel
        go_wp2_with fail
        refine (last_zero _ _ _ _ _ _ _ [] []).mono ?_
        rintro e w2 ⟨rfl, hT⟩
        have hrow := (head_start w).of_block (hT.below.block w.heap.size (by simp))
        have e1 : w2.cell? ⟨w.heap.size, 1, none⟩ = some (.int .i64 ((0 : Nat) : Int)) := hrow.cell (i := 1) (by omega)
        have e2 : w2.cell? ⟨w.heap.size, 2, none⟩ = some (.int .i64 ((0 : Nat) : Int)) := hrow.cell (i := 2) (by omega)
        have hb2 : Below w.heap.size w w2 := ((Below.refl _ _).alloc (Nat.le_refl _) _).trans (hT.below.mono (by simp))
        clear hT hrow
        go_wp2_with fail
        refine (size_any _ _ 0 e1).mono ?_
        rintro e w3 ⟨rfl, rfl⟩
        go_wp2_with fail
        refine (taken_any _ _ 0 e2).mono ?_
        rintro e w3 ⟨rfl, rfl⟩
        go_wp2
        go_ret
        exact ⟨rfl, hb2⟩
  · have hz1 : l1 = 0 := by omega
    subst hz1
    have hlt : 0 < l0 := by omega
    go_enter Try.func4, Try.ntmps4
    go_wp2_with fail
    refine HZ.mono ?_
    rintro e w' ⟨⟨b, rfl, hb⟩, rfl⟩
    clear HZ
    obtain rfl := hb (by omega) (by omega)
    clear hb
    go_wp2
    go_loop [8] (fun t => t = .int .i64 0) (fun _ => 0)
    case atStart => rfl
    case round =>
      obtain rfl := hrel
      go_wp2
      go_loopw [10] (fun t wr => t = .int .i64 0 ∧ wr = w.alloc (.cells #[.slice none 0 0, .int .i64 0, .int .i64 0] 27)) (fun _ _ => 0)
      case atStart => exact ⟨rfl, rfl⟩
      case round =>
        obtain ⟨rfl, rfl⟩ := hrel
        go_wp2_with fail
        refine (last_zero _ _ _ _ _ _ _ [] []).mono ?_
        rintro e w2 ⟨rfl, hT⟩
        have hrow := (head_start w).of_block (hT.below.block w.heap.size (by simp))
        have e1 : w2.cell? ⟨w.heap.size, 1, none⟩ = some (.int .i64 ((0 : Nat) : Int)) := hrow.cell (i := 1) (by omega)
        have e2 : w2.cell? ⟨w.heap.size, 2, none⟩ = some (.int .i64 ((0 : Nat) : Int)) := hrow.cell (i := 2) (by omega)
        have hb2 : Below w.heap.size w w2 := ((Below.refl _ _).alloc (Nat.le_refl _) _).trans (hT.below.mono (by simp))
        clear hT hrow
        go_wp2_with fail
        refine (size_any _ _ 0 e1).mono ?_
        rintro e w3 ⟨rfl, rfl⟩
        go_wp2_with fail
        refine (taken_any _ _ 0 e2).mono ?_
        rintro e w3 ⟨rfl, rfl⟩
        go_wp2
        go_ret
        exact ⟨rfl, hb2⟩

theorem TabAt.drewN {w : World} {T C cap : Nat} {B : Nat → Nat} {S n : Nat} {K V : Nat → Int} (h : TabAt w T C cap B S n K V) (q : Nat) : TabAt (w.drewN q) T C cap B S n K V :=
  h.of_blocks (fun _ _ _ => rfl) (Nat.le_refl _)
theorem Tbl.drew {w : World} {T : Nat} {m : List Int × List Int} (h : Tbl w T m) : Tbl w.drew T m := h.below ((Below.refl _ _).drew)
theorem wr_pos (m : List Int × List Int) (k v : Int) : 1 ≤ (Plain.wr m k v).1.length := by
  unfold Plain.wr
  rcases Plain.idx_cases m.1 k with ⟨h1, _⟩ | ⟨x, h1, h2, _⟩
  · rw [if_pos (by omega)]; simp
  · rw [if_neg (by omega)]; show 1 ≤ m.1.length; omega
theorem lw_pos (zk zv : List Int) (n : Nat) (h : 1 ≤ n) : 1 ≤ (Plain.lw zk zv n).1.length := by
  obtain ⟨x, rfl⟩ : ∃ x, n = x + 1 := ⟨n - 1, by omega⟩
  exact wr_pos _ _ _
theorem Tbl.full {w : World} {T : Nat} {m : List Int × List Int} (h : Tbl w T m) (hm : 1 ≤ m.1.length) : ∃ C cap B S K V, Full w T m C cap B S K V := by
  rcases h with ⟨rfl, _⟩ | h
  · simp at hm
  · exact h

end Go.Proofs.Qxb6628294a
