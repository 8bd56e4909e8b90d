/-
  DERIVED. How a Table lies in memory.
-/
import Derived.Test.Qxb6628294aRows
import Derived.Test.Qxb6628294aPlain
import Derived.WalkKit
import Derived.WalkSpells
import Derived.WalkLawsBesides
import Derived.Deep.OwnRows
namespace Go.Proofs.Qxb6628294a
open Go.RowKit Go.Deep

/-- The number of chunks, and each chunk length. -/
def nch (S : Nat) : Nat := (S + 1023) / 1024
def clen (S c : Nat) : Nat := if 1024 * c + 1024 ≤ S then 1024 else S - 1024 * c

theorem chunk_of {S i : Nat} (h : i < S) : i / 1024 < nch S ∧ i % 1024 < clen S (i / 1024) := by
  unfold nch clen
  refine ⟨by omega, ?_⟩
  split <;> omega
theorem in_chunk {S c j : Nat} (hj : j < clen S c) : 1024 * c + j < S ∧ (1024 * c + j) / 1024 = c ∧ (1024 * c + j) % 1024 = j := by
  unfold clen at hj
  split at hj <;> omega
theorem clen_le (S c : Nat) : clen S c ≤ 1024 := by
  unfold clen
  split <;> omega

/-- The two cells of each slot of chunk c. -/
def cellF (K V : Nat → Int) (c q : Nat) : Value := if q % 2 = 0 then .int .u32 (K (1024 * c + q / 2)) else .int .i32 (V (1024 * c + q / 2))
theorem cellF_key (K V : Nat → Int) (c j : Nat) : cellF K V c (2 * j) = .int .u32 (K (1024 * c + j)) := by
  unfold cellF
  rw [if_pos (by omega), show 2 * j / 2 = j by omega]
theorem cellF_val (K V : Nat → Int) (c j : Nat) : cellF K V c (2 * j + 1) = .int .i32 (V (1024 * c + j)) := by
  unfold cellF
  rw [if_neg (by omega), show (2 * j + 1) / 2 = j by omega]

/-- The three fields. -/
def headF (v : Value) (S n : Nat) (j : Nat) : Value := if j = 0 then v else if j = 1 then .int .i64 (S : Int) else .int .i64 (n : Int)

/-- A table of S slots, n taken, at block T: its chunks listed in block C, chunk c in block B c. -/
structure TabAt (w : World) (T C cap : Nat) (B : Nat → Nat) (S n : Nat) (K V : Nat → Int) : Prop where
  head : w.rowIs T 27 3 (headF (.slice (some ⟨C, 0, none⟩) (nch S) cap) S n)
  dir : ∀ c, c < nch S → w.cell? ⟨C, c, none⟩ = some (.slice (some ⟨B c, 0, none⟩) (clen S c) (clen S c))
  rows : ∀ c, c < nch S → w.rowIs (B c) 44 (2 * clen S c) (cellF K V c)
  TC : T < C
  Clt : C < w.heap.size
  TB : ∀ c, c < nch S → T < B c
  CB : ∀ c, c < nch S → B c ≠ C
  inj : ∀ c c', c < nch S → c' < nch S → B c = B c' → c = c'

section
variable {w w' : World} {T C cap : Nat} {B : Nat → Nat} {S n : Nat} {K V : Nat → Int}

theorem TabAt.c0 (h : TabAt w T C cap B S n K V) : w.cell? ⟨T, 0, none⟩ = some (.slice (some ⟨C, 0, none⟩) (nch S) cap) := h.head.cell (i := 0) (by omega)
theorem TabAt.c1 (h : TabAt w T C cap B S n K V) : w.cell? ⟨T, 1, none⟩ = some (.int .i64 (S : Int)) := h.head.cell (i := 1) (by omega)
theorem TabAt.c2 (h : TabAt w T C cap B S n K V) : w.cell? ⟨T, 2, none⟩ = some (.int .i64 (n : Int)) := h.head.cell (i := 2) (by omega)
theorem TabAt.key (h : TabAt w T C cap B S n K V) {i : Nat} (hi : i < S) : w.cell? ⟨B (i / 1024), 2 * (i % 1024), none⟩ = some (.int .u32 (K i)) := by
  obtain ⟨h1, h2⟩ := chunk_of hi
  have := (h.rows _ h1).cell (i := 2 * (i % 1024)) (by omega)
  rw [cellF_key, show 1024 * (i / 1024) + i % 1024 = i by omega] at this
  exact this
theorem TabAt.val (h : TabAt w T C cap B S n K V) {i : Nat} (hi : i < S) : w.cell? ⟨B (i / 1024), 2 * (i % 1024) + 1, none⟩ = some (.int .i32 (V i)) := by
  obtain ⟨h1, h2⟩ := chunk_of hi
  have := (h.rows _ h1).cell (i := 2 * (i % 1024) + 1) (by omega)
  rw [cellF_val, show 1024 * (i / 1024) + i % 1024 = i by omega] at this
  exact this

/-- All blocks of the table are as they were. -/
theorem TabAt.of_blocks (h : TabAt w T C cap B S n K V) (hb : ∀ b, T ≤ b → b < w.heap.size → w'.heap[b]? = w.heap[b]?) (hs : w.heap.size ≤ w'.heap.size) : TabAt w' T C cap B S n K V where
  head := h.head.of_block (hb T (Nat.le_refl _) h.head.lt)
  dir := fun c hc => (World.cell?_of_block (w := w) (hb C (Nat.le_of_lt h.TC) h.Clt)).trans (h.dir c hc)
  rows := fun c hc => (h.rows c hc).of_block (hb (B c) (Nat.le_of_lt (h.TB c hc)) (h.rows c hc).lt)
  TC := h.TC
  Clt := Nat.lt_of_lt_of_le h.Clt hs
  TB := h.TB
  CB := h.CB
  inj := h.inj
theorem TabAt.below (h : TabAt w T C cap B S n K V) (hb : Below w.heap.size w w') : TabAt w' T C cap B S n K V :=
  h.of_blocks (fun b _ hlt => hb.block b hlt) hb.size

/-- The field taken is written. -/
theorem TabAt.setTaken (h : TabAt w T C cap B S n K V) (n' : Nat) : TabAt (w.setCell ⟨T, 2, none⟩ (.int .i64 (n' : Int))) T C cap B S n' K V where
  head := (h.head.set 2 (.int .i64 (n' : Int))).congr (fun j hj => by
    unfold headF
    match j, hj with
    | 0, _ => rfl
    | 1, _ => rfl
    | 2, _ => rfl)
  dir := fun c hc => (World.cell?_of_block (w := w) (blk_setCell_other _ _ _ _ (by have := h.TC; show C ≠ T; omega))).trans (h.dir c hc)
  rows := fun c hc => (h.rows c hc).setOther (by have := h.TB c hc; show B c ≠ T; omega) _
  TC := h.TC
  Clt := by rw [nblk_setCell]; exact h.Clt
  TB := h.TB
  CB := h.CB
  inj := h.inj

/-- A slot is written. -/
theorem TabAt.setSlot (h : TabAt w T C cap B S n K V) {i : Nat} (hi : i < S) (k v : Int) :
    TabAt ((w.setCell ⟨B (i / 1024), 2 * (i % 1024), none⟩ (.int .u32 k)).setCell ⟨B (i / 1024), 2 * (i % 1024) + 1, none⟩ (.int .i32 v)) T C cap B S n (Plain.upd K i k) (Plain.upd V i v) := by
  obtain ⟨h1, h2⟩ := chunk_of hi
  have hT : T ≠ B (i / 1024) := by have := h.TB _ h1; omega
  have hC : C ≠ B (i / 1024) := fun e => h.CB _ h1 e.symm
  refine ⟨(h.head.setOther hT _).setOther hT _, fun c hc => ?_, fun c hc => ?_, h.TC, by rw [nblk_setCell, nblk_setCell]; exact h.Clt, h.TB, h.CB, h.inj⟩
  · rw [World.cell?_of_block (w := w) ((blk_setCell_other _ _ _ _ hC).trans (blk_setCell_other _ _ _ _ hC))]
    exact h.dir c hc
  · by_cases e : c = i / 1024
    · subst e
      refine (((h.rows _ hc).set (2 * (i % 1024)) (.int .u32 k)).set (2 * (i % 1024) + 1) (.int .i32 v)).congr (fun q hq => ?_)
      by_cases e1 : q = 2 * (i % 1024) + 1
      · subst e1
        rw [if_pos rfl, cellF_val, show 1024 * (i / 1024) + i % 1024 = i by omega, Plain.upd_at]
      · rw [if_neg e1]
        by_cases e2 : q = 2 * (i % 1024)
        · subst e2
          rw [if_pos rfl, cellF_key, show 1024 * (i / 1024) + i % 1024 = i by omega, Plain.upd_at]
        · rw [if_neg e2]
          unfold cellF
          have hne : 1024 * (i / 1024) + q / 2 ≠ i := by omega
          rw [Plain.upd_ne _ _ hne, Plain.upd_ne _ _ hne]
    · have hB : B c ≠ B (i / 1024) := fun e' => e (h.inj _ _ hc h1 e')
      refine (((h.rows c hc).setOther hB _).setOther hB _).congr (fun q hq => ?_)
      unfold cellF
      have hcq : q / 2 < clen S c := by omega
      have := in_chunk hcq
      have hne : 1024 * c + q / 2 ≠ i := by
        intro e'
        rw [e'] at this
        exact e this.2.1.symm
      rw [Plain.upd_ne _ _ hne, Plain.upd_ne _ _ hne]
end
end Go.Proofs.Qxb6628294a
