/-
  DERIVED. What the walks are told of the two slices that came in.
-/
import Derived.Test.Qxb6628294aLawF
import Derived.OpenShut
namespace Go.Proofs.Qxb6628294a
open Go.RowKit Go.Deep

/-- A slice of integers that came in: nil; or a row of cells. -/
def IsRow (k : IntKind) (w : World) (a : Option Addr) (len cap : Nat) (zs : List Int) : Prop :=
  (a = none ∧ len = 0 ∧ cap = 0 ∧ zs = []) ∨
  ∃ x, a = some x ∧ len ≤ cap ∧ cap ≤ maxLen ∧ zs.length = cap ∧ (∀ i, i < zs.length → w.cell? (x.add i) = some (.int k (zs.getD i 0))) ∧ ∀ n ∈ zs, (Lit.int k n).wf = true

theorem IsRow.len {k : IntKind} {w : World} {a : Option Addr} {len cap : Nat} {zs : List Int} (h : IsRow k w a len cap zs) : len ≤ maxLen := by
  rcases h with ⟨_, rfl, _, _⟩ | ⟨_, _, h1, h2, _⟩
  · unfold maxLen; omega
  · omega
theorem cell_lt {w : World} {a : Addr} {v : Value} (h : w.cell? a = some v) : a.block < w.heap.size := by
  rcases Nat.lt_or_ge a.block w.heap.size with l | l
  · exact l
  · have : w.heap[a.block]? = none := Array.getElem?_eq_none l
    simp [World.cell?, this] at h
theorem IsRow.pos {k : IntKind} {w : World} {a : Option Addr} {len cap : Nat} {zs : List Int} (h : IsRow k w a len cap zs) (hl : 1 ≤ len) :
    ∃ b off, a = some ⟨b, off, none⟩ ∧ b < w.heap.size ∧ (∀ i, i < len → w.cell? ⟨b, off + i, none⟩ = some (.int k (zs.getD i 0))) ∧ ∀ n ∈ zs, (Lit.int k n).wf = true := by
  rcases h with ⟨_, rfl, _, _⟩ | ⟨x, rfl, h1, h2, h3, h4, h5⟩
  · omega
  · obtain ⟨b, off, spot⟩ := x
    have hc := h4 0 (by omega)
    have hspot : spot = none := by simpa [Addr.add] using World.cell?_spot hc
    subst hspot
    refine ⟨b, off, rfl, ?_, fun i hi => ?_, h5⟩
    · have := cell_lt hc
      rw [Addr.add_lit] at this
      exact this
    · have := h4 i (by omega)
      rw [Addr.add_lit] at this
      exact this
theorem key_range {zs : List Int} (h : ∀ n ∈ zs, (Lit.int .u32 n).wf = true) (i : Nat) : 0 ≤ zs.getD i 0 ∧ zs.getD i 0 ≤ 4294967295 := by
  by_cases hi : i < zs.length
  · have := h _ (Plain.getD_mem hi)
    simp [Lit.wf, IntKind.min, IntKind.max, IntKind.signed, IntKind.bits] at this
    simp
    omega
  · rw [List.getD_eq_getElem?_getD, List.getElem?_eq_none (by omega)]
    simp
end Go.Proofs.Qxb6628294a
