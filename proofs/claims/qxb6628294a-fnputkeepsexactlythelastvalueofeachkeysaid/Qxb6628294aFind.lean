/-
  DERIVED. The contracts of home, next, slot, find.
-/
import Derived.Test.Qxb6628294aMem
import Derived.Laws.BitsAllLaws
namespace Go.Proofs.Qxb6628294a
open Go.RowKit

/-- The first slot of a key. -/
def home (S : Nat) (k : Int) : Nat := (k * 11400714819323198485 % 18446744073709551616 / 4294967296 * (S : Int) / 4294967296).toNat

theorem spread_bd (k : Int) : 0 ≤ k * 11400714819323198485 % 18446744073709551616 / 4294967296 ∧ k * 11400714819323198485 % 18446744073709551616 / 4294967296 ≤ 4294967295 := by
  omega
theorem home_eq (S : Nat) (k : Int) (hS : S ≤ 1000000) : wrap64 (IntKind.u64.wrap (IntKind.u64.wrap (k * 11400714819323198485) / 4294967296 * (S : Int)) / 4294967296) = (home S k : Int) := by
  rw [IntKind.wrap_u64, IntKind.wrap_u64]
  unfold home
  have hb := spread_bd k
  generalize k * 11400714819323198485 % 18446744073709551616 / 4294967296 = q at *
  have h1 : 0 ≤ q * (S : Int) := Int.mul_nonneg hb.1 (by omega)
  have h2 : q * (S : Int) ≤ 4294967295 * (S : Int) := Int.mul_le_mul_of_nonneg_right hb.2 (by omega)
  generalize q * (S : Int) = x at *
  rw [show x % 18446744073709551616 = x by omega]
  unfold wrap64
  omega
theorem home_lt {S : Nat} (k : Int) (h0 : 0 < S) : home S k < S := by
  unfold home
  have hb := spread_bd k
  generalize k * 11400714819323198485 % 18446744073709551616 / 4294967296 = q at *
  have h1 : 0 ≤ q * (S : Int) := Int.mul_nonneg hb.1 (by omega)
  have h2 : q * (S : Int) ≤ 4294967295 * (S : Int) := Int.mul_le_mul_of_nonneg_right hb.2 (by omega)
  generalize q * (S : Int) = x at *
  omega

set_option maxHeartbeats 400000 in
theorem home_any (T S : Nat) (k : Int) (h0 : 0 ≤ k) (h1 : k ≤ 4294967295) (hS : S ≤ 1000000) (w : World) (c1 : w.cell? ⟨T, 1, none⟩ = some (.int .i64 (S : Int))) :
    Calls Try.prog 22 #[.pointer (some ⟨T, 0, none⟩), .int .u32 k] w fun e w' => e = .returned (.int .i64 (home S k : Int)) ∧ w = w' := by
  have HE : Hid _ := home_eq S k hS
  go_enter Try.func22, Try.ntmps22
  go_wp2
  go_ret
  refine ⟨?_, rfl⟩
  rw [← HE.out]
  rfl
set_option maxHeartbeats 400000 in
theorem next_any (T S : Nat) (i : Nat) (hi : i < S) (hS : S ≤ 1000000) (w : World) (c1 : w.cell? ⟨T, 1, none⟩ = some (.int .i64 (S : Int))) :
    Calls Try.prog 23 #[.pointer (some ⟨T, 0, none⟩), .int .i64 (i : Int)] w fun e w' => e = .returned (.int .i64 ((if i + 1 = S then 0 else i + 1 : Nat) : Int)) ∧ w = w' := by
  by_cases h : i + 1 = S
  · have hq : (((i : Int) + 1) == (S : Int)) = true := beq_iff_eq.2 (by omega)
    rw [if_pos h]
    go_enter Try.func23, Try.ntmps23
    go_wp2
    go_ret
    exact ⟨rfl, rfl⟩
  · have hq : (((i : Int) + 1) == (S : Int)) = false := beq_eq_false_iff_ne.2 (by omega)
    rw [if_neg h]
    go_enter Try.func23, Try.ntmps23
    go_wp2
    go_ret
    exact ⟨rfl, rfl⟩
set_option maxHeartbeats 400000 in
theorem slot_any {w : World} {T C cap : Nat} {B : Nat → Nat} {S n : Nat} {K V : Nat → Int} (h : TabAt w T C cap B S n K V) (i : Nat) (hi : i < S) (hS : S ≤ 1000000) :
    Calls Try.prog 19 #[.pointer (some ⟨T, 0, none⟩), .int .i64 (i : Int)] w fun e w' => e = .returned (.pointer (some ⟨B (i / 1024), 2 * (i % 1024), none⟩)) ∧ w = w' := by
  have c0 := h.c0
  obtain ⟨h1, h2⟩ := chunk_of hi
  have hd := h.dir _ h1
  clear h
  go_enter Try.func19, Try.ntmps19
  go_wp2
  go_ret
  refine ⟨?_, rfl⟩
  rw [Nat.mul_comm 2 (i % 1024)]
  rfl

theorem next_pr {S h j : Nat} (hh : h < S) (hj : j + 1 < S) : (if Plain.pr S h j + 1 = S then 0 else Plain.pr S h j + 1) = Plain.pr S h (j + 1) := by
  rcases Plain.pr_succ hh hj with ⟨a, b⟩ | ⟨a, b⟩
  · rw [if_pos a, b]
  · rw [if_neg (by omega), b]

set_option maxHeartbeats 800000 in
theorem find_any {w : World} {T C cap : Nat} {B : Nat → Nat} {S n : Nat} {K V : Nat → Int} (h : TabAt w T C cap B S n K V) (k : Int) (h0 : 0 ≤ k) (h1 : k ≤ 4294967295) (hS0 : 0 < S) (hS : S ≤ 1000000) (hf : ∃ i, i < S ∧ V i = 0) :
    Calls Try.prog 18 #[.pointer (some ⟨T, 0, none⟩), .int .u32 k] w fun e w' => ∃ i found, e = .returned (.tuple #[.int .i64 ((i : Nat) : Int), .bool found]) ∧ Plain.FindIs (home S) S K V k i found ∧ w = w' := by
  have c1 := h.c1
  have hh := home_lt k hS0
  obtain ⟨j0, hj0, hstop⟩ := Plain.stop_within (K := K) hh k hf
  have HST : Hid (V (Plain.pr S (home S k) j0) = 0 ∨ K (Plain.pr S (home S k) j0) = k) := hstop
  clear hstop hf
  go_enter Try.func18, Try.ntmps18
  go_wp2_with (go_at_call 22; refine (home_any _ _ _ h0 h1 hS _ c1).mono ?_; rintro e w' ⟨rfl, rfl⟩)
  go_loop [6] (fun t => ∃ j : Nat, j ≤ j0 ∧ t = .int .i64 ((Plain.pr S (home S k) j : Nat) : Int) ∧ Hid (∀ j', j' < j → V (Plain.pr S (home S k) j') ≠ 0 ∧ K (Plain.pr S (home S k) j') ≠ k)) (fun t => S - Plain.dist S (home S k) (intOf t).toNat)
  case atStart => exact ⟨0, by omega, by rw [Plain.pr_zero hh], fun j' hj' => by omega⟩
  case round =>
    obtain ⟨j, hj, rfl, HA⟩ := hrel
    have hlt : Plain.pr S (home S k) j < S := Plain.pr_lt hS0 _ _
    have HD : Hid (Plain.dist S (home S k) (Plain.pr S (home S k) j) = j) := Plain.dist_pr hh (by omega)
    have HN : Hid (j < j0 → (if Plain.pr S (home S k) j + 1 = S then 0 else Plain.pr S (home S k) j + 1) = Plain.pr S (home S k) (j + 1) ∧ Plain.dist S (home S k) (Plain.pr S (home S k) (j + 1)) = j + 1) := fun hjj => ⟨next_pr hh (by omega), Plain.dist_pr hh (by omega)⟩
    have hk := h.key hlt
    have hv := h.val hlt
    have HK : Hid (j = j0 → V (Plain.pr S (home S k) j) = 0 ∨ K (Plain.pr S (home S k) j) = k) := fun e => by rw [e]; exact HST.out
    have HF0 : Hid (V (Plain.pr S (home S k) j) = 0 → Plain.FindIs (home S) S K V k (Plain.pr S (home S k) j) false) := fun e => Plain.find_stop hS0 (by omega) HA.out e
    have HF1 : Hid (V (Plain.pr S (home S k) j) ≠ 0 → K (Plain.pr S (home S k) j) = k → Plain.FindIs (home S) S K V k (Plain.pr S (home S k) j) true) := fun e e' => Plain.find_hit hS0 (by omega) HA.out e e'
    have HA2 : Hid (V (Plain.pr S (home S k) j) ≠ 0 → K (Plain.pr S (home S k) j) ≠ k → ∀ j', j' < j + 1 → V (Plain.pr S (home S k) j') ≠ 0 ∧ K (Plain.pr S (home S k) j') ≠ k) := fun e e' j' hj' => by
      by_cases ej : j' = j
      · subst ej; exact ⟨e, e'⟩
      · exact HA.out j' (by omega)
    generalize hi : Plain.pr S (home S k) j = i at *
    have HI : Hid (Plain.pr S (home S k) j = i) := hi
    clear hi
    by_cases e0 : V i = 0
    · have q0 : ((V i) == 0) = true := beq_iff_eq.2 e0
      clear HN HA2 HF1 e0
      go_wp2_with (go_at_call 19; refine (slot_any h _ hlt hS).mono ?_; rintro e w' ⟨rfl, rfl⟩)
      go_ret2
      exact ⟨i, false, rfl, HF0.out (beq_iff_eq.1 q0), rfl⟩
    · have q0 : ((V i) == 0) = false := beq_eq_false_iff_ne.2 e0
      by_cases e1 : K i = k
      · have q1 : ((K i) == k) = true := beq_iff_eq.2 e1
        clear HN HA2 HF0 e0 e1
        go_wp2_with (go_at_call 19; refine (slot_any h _ hlt hS).mono ?_; rintro e w' ⟨rfl, rfl⟩)
        go_ret2
        exact ⟨i, true, rfl, HF1.out (beq_eq_false_iff_ne.1 q0) (beq_iff_eq.1 q1), rfl⟩
      · have q1 : ((K i) == k) = false := beq_eq_false_iff_ne.2 e1
        have hjj : j < j0 := by
          rcases Nat.lt_or_ge j j0 with l | l
          · exact l
          · rcases HK.out (by omega) with e | e
            · exact absurd e e0
            · exact absurd e e1
        obtain ⟨n1, n2⟩ := HN.out hjj
        have HN1 : Hid _ := n1
        have HN2 : Hid _ := n2
        clear HN HF0 HF1 e0 e1 n1 n2
        go_wp2_with (first | (go_at_call 19; refine (slot_any h _ hlt hS).mono ?_; rintro e w' ⟨rfl, rfl⟩) | (go_at_call 23; refine (next_any _ _ _ hlt hS _ c1).mono ?_; rintro e w' ⟨rfl, rfl⟩))
        go_round
        case rel => exact ⟨j + 1, by omega, by rw [HN1.out], HA2.out (beq_eq_false_iff_ne.1 q0) (beq_eq_false_iff_ne.1 q1)⟩
        case measure =>
          simp only [intOf, Int.toNat_natCast]
          rw [HN1.out, HN2.out, HD.out]
          omega
end Go.Proofs.Qxb6628294a
