/-
  DERIVED. The contract of grow.
-/
import Derived.Test.Qxb6628294aResizeB
import Derived.Deep.QuietTactic
import Derived.BigQuiet
namespace Go.Proofs.Qxb6628294a
open Go.RowKit Go.Deep

set_option maxRecDepth 100000 in
set_option maxHeartbeats 400000 in
theorem grow_zero (w : World) (T n : Nat) (hT : w.rowIs T 27 3 (headF (.slice none 0 0) 0 n)) :
    Calls Try.prog 17 #[.pointer (some ⟨T, 0, none⟩)] w fun e w' => e = .returned (.tuple #[]) ∧ TabAt w' T w.heap.size (nch 16) (fun x => w.heap.size + 1 + 2 * x) 16 n (fun _ => 0) (fun _ => 0) ∧ Below T w w' := by
  have c1 : w.cell? ⟨T, 1, none⟩ = some (.int .i64 0) := hT.cell (i := 1) (by omega)
  go_enter Try.func17, Try.ntmps17
  go_region_with (go_at_call 21; refine (resize_zero w.drew T 16 n (by omega) (by omega) hT.drew).mono ?_; rintro e w1 ⟨rfl, ht, hb⟩)
  all_goals
    go_end0
    exact ⟨rfl, ht, (Below.refl T w).drew.trans hb⟩
set_option maxRecDepth 100000 in
set_option maxHeartbeats 400000 in
theorem grow_any {w : World} {T C cap : Nat} {B : Nat → Nat} {S n : Nat} {K V : Nat → Int} (h : TabAt w T C cap B S n K V) (hwf : Plain.WF (home S) S K V) (hkr : ∀ i, i < S → V i ≠ 0 → 0 ≤ K i ∧ K i ≤ 4294967295) (h16 : 16 ≤ S) (hs : S ≤ 10000) (S2 : Nat) (hS2 : S2 = S + S / 2) :
    Calls Try.prog 17 #[.pointer (some ⟨T, 0, none⟩)] w fun e w' => e = .returned (.tuple #[]) ∧ ∃ K' V', TabAt w' T w.heap.size (nch S2) (fun x => w.heap.size + 1 + 2 * x) S2 n K' V' ∧ Plain.WF (home S2) S2 K' V' ∧ (∀ k v, Plain.Has S2 K' V' k v ↔ Plain.Has S K V k v) ∧ Below T w w' := by
  have c1 := h.c1
  have HR := resize_any h.drew hwf hkr S2 (by omega) (by omega)
  have e2 : IntKind.i64.wrap ((S : Int) + IntKind.i64.wrap ((S : Int) / 2)) = (S2 : Int) := by
    rw [IntKind.wrap_i64, IntKind.wrap_i64]; omega
  have h3 : (16 : Int) < (S2 : Int) := by omega
  clear h hwf hkr hS2
  go_enter Try.func17, Try.ntmps17
  go_region_with (go_at_call 21; refine HR.mono ?_; rintro e w1 ⟨rfl, hr⟩)
  all_goals
    go_end0
    obtain ⟨K', V', a1, a2, a3, a4⟩ := hr
    exact ⟨rfl, K', V', a1, a2, a3, (Below.refl T w).drew.trans a4⟩
end Go.Proofs.Qxb6628294a
