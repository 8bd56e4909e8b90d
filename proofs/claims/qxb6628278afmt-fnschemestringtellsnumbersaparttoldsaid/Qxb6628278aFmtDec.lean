/-
  DERIVED. The contract of decimalOf.
-/
import Derived.Test.Qxb6628278aFmtFacts
import Derived.Test.Qxb6628278aFmtPlain
import Derived.WalkKit
import Derived.WalkSpells
import Derived.WalkLawsBesides
import Derived.Deep.OwnRows
import Derived.Laws.IdiomStrings
import Derived.Laws.BitsAllLaws
namespace Go.Proofs.Qxb6628278aFmt
open Go.RowKit

theorem not_u64 (n : Nat) (h0 : 1 ≤ n) (h1 : n ≤ 9223372036854775808) : bits BinOp.xor IntKind.u64 IntKind.u64.max (IntKind.u64.wrap (-(n : Int))) = (n : Int) - 1 := by
  have e1 : IntKind.u64.wrap (-(n : Int)) = ((18446744073709551616 - n : Nat) : Int) := by
    rw [IntKind.wrap_u64]; omega
  rw [e1]
  have hmax : IntKind.u64.max = 18446744073709551615 := by decide
  rw [hmax]
  show IntKind.u64.wrap ((BitVec.ofInt 64 18446744073709551615 ^^^ BitVec.ofInt 64 ((18446744073709551616 - n : Nat) : Int)).toNat : Int) = _
  have h2 : BitVec.ofInt 64 18446744073709551615 = BitVec.allOnes 64 := by decide
  rw [h2, BitVec.allOnes_xor, BitVec.toNat_not, ofInt_u64 (18446744073709551616 - n) (by omega), IntKind.wrap_u64]
  omega
theorem back_u64 (n : Nat) (h1 : n ≤ 9223372036854775808) : IntKind.u64.wrap ((n : Int) - 1 + 1) = (n : Int) := by
  rw [IntKind.wrap_u64]; omega

/-- What the round gathers: the last k digits of N at the row end. -/
def rowF (N k j : Nat) : Value := .int .u8 (if 24 ≤ j + k then ((Lib.dg N (23 - j)).toNat : Int) else 0)
theorem row_start (N : Nat) (w : World) : (w.alloc (.cells #[.int .u8 0, .int .u8 0, .int .u8 0, .int .u8 0, .int .u8 0, .int .u8 0, .int .u8 0, .int .u8 0, .int .u8 0, .int .u8 0, .int .u8 0, .int .u8 0, .int .u8 0, .int .u8 0, .int .u8 0, .int .u8 0, .int .u8 0, .int .u8 0, .int .u8 0, .int .u8 0, .int .u8 0, .int .u8 0, .int .u8 0, .int .u8 0] 28)).rowIs w.heap.size 28 24 (rowF N 0) := by
  refine (World.rowIs_alloc w _ 28 (fun _ => .int .u8 0) (fun i hi => ?_)).congr (fun j hj => ?_)
  · have hi' : i < 24 := hi
    show (Array.replicate 24 (Value.int .u8 0))[i]? = _
    simp [hi']
  · have hj' : j < 24 := hj
    unfold rowF
    rw [if_neg (by omega)]
theorem row_step {N k q b : Nat} {w : World} (h : w.rowIs b 28 24 (rowF N k)) (hq : q + 1 + k = 24) (m : Nat) (hm : m = N / 10 ^ k) :
    (w.setCell ⟨b, q, none⟩ (.int .u8 (48 + (m : Int) % 10))).rowIs b 28 24 (rowF N (k + 1)) := by
  refine (h.set q _).congr (fun j hj => ?_)
  unfold rowF
  by_cases e : j = q
  · subst e
    rw [if_pos rfl, if_pos (by omega), show 23 - j = k by omega, Plain.dg_num, hm]
  · rw [if_neg e]
    by_cases e2 : 24 ≤ j + k
    · rw [if_pos e2, if_pos (by omega)]
    · rw [if_neg e2, if_neg (by omega)]

theorem Tryf.arr28 : Tryf.prog.underlying 28 = some (.array (Tryf.prog.arrayLen 28) (Tryf.prog.elem 28)) := by kernel_rfl
theorem Tryf.len28 : Tryf.prog.arrayLen 28 = 24 := by kernel_rfl
theorem Tryf.size28 (w : World) : (Go.sizeOf (Tryf.prog.elem 28)).run Tryf.prog w = .ok 1 w := by kernel_rfl
theorem slice_arr (b p : Nat) (hp : p < 24) (W : World) :
    (Instr.sliceAt 28 (.pointer (some ⟨b, 0, none⟩)) (some (.int .i64 (p : Int))) none none).run Tryf.prog W = .ok (.slice (some ⟨b, p, none⟩) (24 - p) (24 - p)) W := by
  rw [run_sliceAt_array_l W 28 ⟨b, 0, none⟩ Tryf.arr28 .i64 (p : Int) (by omega) (by rw [Tryf.len28]; omega), Tryf.size28, Tryf.len28]
  have hne : ¬ 24 = p := by omega
  by_cases h0 : p = 0
  · subst h0
    simp [Result.andThen, slicedAt, Addr.add]
  · simp [Result.andThen, slicedAt, Addr.add, hne, h0]

theorem conv_at (l : List UInt8) (w : World) (b p n : Nat) (hn : l.length = n) (hr : ∀ j, j < n → w.cell? ⟨b, p + j, none⟩ = some (.int .u8 ((l.getD j 0).toNat : Int))) :
    (convert 29 9 (.slice (some ⟨b, p, none⟩) n n)).run Tryf.prog w = .ok (.string ⟨l.toArray⟩) w := by
  subst hn
  refine run_convert_bytes_back (P := Tryf.prog) w 29 9 5 ⟨b, p, none⟩ l.length l Tryf.underlying29 Tryf.underlying5 Tryf.underlying9 (fun j hj => ?_)
  have := hr j hj
  have e : (⟨b, p, none⟩ : Addr).add j = ⟨b, p + j, none⟩ := by
    unfold Addr.add
    by_cases h : j = 0 <;> simp [h]
  rw [e]
  simpa [hj] using this

theorem places_len (N k : Nat) : ((List.range k).map fun t => Lib.dg N (k - 1 - t)).length = k := by simp
theorem places_at (N k j : Nat) (hj : j < k) : ((List.range k).map fun t => Lib.dg N (k - 1 - t)).getD j 0 = Lib.dg N (k - 1 - j) := by
  rw [List.getD_eq_getElem?_getD, List.getElem?_map, List.getElem?_range hj]
  rfl
theorem k_pos (N k : Nat) (h : 1 ≤ N) (hk : 0 = N / 10 ^ k) : 1 ≤ k := by
  rcases Nat.eq_zero_or_pos k with e | e
  · subst e; simp at hk; omega
  · exact e
theorem k_le (N k : Nat) (h : N ≤ 9223372036854775808) (hk : k = 0 ∨ 0 < N / 10 ^ (k - 1)) : k ≤ 20 := by
  rcases Nat.lt_or_ge 20 k with e | e
  · rcases hk with hk | hk
    · omega
    · rw [Plain.k_lt N (k - 1) h (by omega)] at hk; omega
  · exact e

/-- The end, n not negative. -/
theorem end_pos (N k p b : Nat) (w : World) (h1 : 1 ≤ N) (hp : p + k = 24) (hm : 0 = N / 10 ^ k) (hk : k = 0 ∨ 0 < N / 10 ^ (k - 1)) (hrow : w.rowIs b 28 24 (rowF N k)) :
    (convert 29 9 (.slice (some ⟨b, p, none⟩) (24 - p) (24 - p))).run Tryf.prog w = .ok (.string ⟨(Lib.itoa (N : Int)).toArray⟩) w := by
  have k1 := k_pos N k h1 hm
  have hlo : 0 < N / 10 ^ (k - 1) := by rcases hk with h | h; (· omega); exact h
  have ed := Plain.dec_places N k k1 hlo hm.symm
  refine conv_at (Lib.itoa (N : Int)) w b p (24 - p) ?_ ?_
  · rw [Lib.itoa_nonneg, ed, places_len]; omega
  · intro j hj
    have hc := hrow.cell (i := p + j) (by omega)
    rw [hc, Lib.itoa_nonneg, ed, places_at N k j (by omega)]
    unfold rowF
    rw [if_pos (by omega), show 23 - (p + j) = k - 1 - j by omega]
/-- The end, n negative: '-' ahead. -/
theorem end_neg (N k q b : Nat) (w : World) (h1 : 1 ≤ N) (hp : q + 1 + k = 24) (hm : 0 = N / 10 ^ k) (hk : k = 0 ∨ 0 < N / 10 ^ (k - 1)) (hrow : w.rowIs b 28 24 (rowF N k)) :
    (convert 29 9 (.slice (some ⟨b, q, none⟩) (24 - q) (24 - q))).run Tryf.prog (w.setCell ⟨b, q, none⟩ (.int .u8 45)) = .ok (.string ⟨(Lib.itoa (-(N : Int))).toArray⟩) (w.setCell ⟨b, q, none⟩ (.int .u8 45)) := by
  have k1 := k_pos N k h1 hm
  have hlo : 0 < N / 10 ^ (k - 1) := by rcases hk with h | h; (· omega); exact h
  have ed := Plain.dec_places N k k1 hlo hm.symm
  have hrow' := hrow.set q (.int .u8 45)
  refine conv_at (Lib.itoa (-(N : Int))) _ b q (24 - q) ?_ ?_
  · rw [Lib.itoa_neg N h1, ed, List.length_cons, places_len]; omega
  · intro j hj
    have hc := hrow'.cell (i := q + j) (by omega)
    rw [hc, Lib.itoa_neg N h1, ed]
    match j with
    | 0 => simp
    | j + 1 =>
      show some (if q + (j + 1) = q then _ else _) = _
      rw [if_neg (by omega), List.getD_cons_succ, places_at N k j (by omega)]
      unfold rowF
      rw [if_pos (by omega), show 23 - (q + (j + 1)) = k - 1 - j by omega]

set_option maxHeartbeats 400000 in
theorem dec_pos (n : Nat) (h0 : 1 ≤ n) (h1 : n ≤ 9223372036854775807) (w : World) :
    Calls Tryf.prog 7 #[.int .i64 (n : Int)] w fun e w' => e = .returned (.string ⟨(Lib.itoa (n : Int)).toArray⟩) ∧ Below w.heap.size w w' := by
  have hne : ((n : Int) == 0) = false := beq_eq_false_iff_ne.2 (by omega)
  have hng : decide ((n : Int) < 0) = false := by simp
  have R0 : Hid _ := row_start n w
  have HN : Hid (n ≤ 9223372036854775808) := by show _ ≤ _; omega
  go_enter Tryf.func7, Tryf.ntmps7
  go_wp2
  go_loopw [3, 6] (fun u i wr => ∃ k p m : Nat, Hid (p + k = 24) ∧ Hid (m = n / 10 ^ k) ∧ Hid (k = 0 ∨ 0 < n / 10 ^ (k - 1)) ∧ u = .int .u64 (m : Int) ∧ i = .int .i64 (p : Int) ∧ m ≤ 9223372036854775808 ∧ p ≤ 24 ∧ wr.rowIs w.heap.size 28 24 (rowF n k) ∧ Below w.heap.size w wr) (fun u _ _ => (intOf u).toNat)
  case atStart => exact ⟨0, 24, n, rfl, by show _ = _; simp, Or.inl rfl, rfl, rfl, HN.out, by omega, R0.out, (Below.refl _ _).alloc (Nat.le_refl _) _⟩
  case round =>
    obtain ⟨k, p, m, HP, HM, HK, rfl, rfl, hm, hp, hrow, hb⟩ := hrel
    by_cases hpos : 0 < m
    · have hk : k < 20 := by
        rcases Nat.lt_or_ge k 20 with h | h
        · exact h
        · have := Plain.k_lt n k HN.out h; rw [← HM.out] at this; omega
      obtain ⟨q, rfl⟩ : ∃ q, p = q + 1 := ⟨p - 1, by have := HP.out; omega⟩
      have hq : q < 24 := by omega
      have hc := hrow.cell hq
      have hf := hrow.frozen q
      have HR : Hid _ := row_step hrow HP.out m HM.out
      clear hrow
      go_wp2
      go_roundw
      case rel => exact ⟨k + 1, q, m / 10, by have := HP.out; show _ = _; omega, by show _ = _; rw [HM.out, Plain.div_step], Or.inr (by rw [Nat.add_sub_cancel, ← HM.out]; exact hpos), by simp, rfl, by omega, by omega, HR.out, hb.setCell (Nat.le_refl _) _⟩
      case measure => simp [intOf]; omega
    · obtain rfl : m = 0 := by omega
      have kb := k_le n k HN.out HK.out
      have k1 := k_pos n k h0 HM.out
      have hsl := slice_arr w.heap.size p (by have := HP.out; omega)
      have hcv := end_pos n k p w.heap.size wr h0 HP.out HM.out HK.out hrow
      clear hrow
      go_wp2
      go_ret
      exact ⟨rfl, hb⟩

set_option maxHeartbeats 400000 in
theorem dec_neg (n : Nat) (h0 : 1 ≤ n) (h1 : n ≤ 9223372036854775808) (w : World) :
    Calls Tryf.prog 7 #[.int .i64 (-(n : Int))] w fun e w' => e = .returned (.string ⟨(Lib.itoa (-(n : Int))).toArray⟩) ∧ Below w.heap.size w w' := by
  have h2 : -(n : Int) < 0 := by omega
  have hx := not_u64 n h0 h1
  have hx2 : bits BinOp.xor IntKind.u64 (if IntKind.u64.signed = true then -1 else IntKind.u64.max) (IntKind.u64.wrap (-(n : Int))) = (n : Int) - 1 := not_u64 n h0 h1
  have hy := back_u64 n h1
  have hne : ((n : Int) == 0) = false := beq_eq_false_iff_ne.2 (by omega)
  have R0 : Hid _ := row_start n w
  have HN : Hid (n ≤ 9223372036854775808) := by show _ ≤ _; omega
  go_enter Tryf.func7, Tryf.ntmps7
  go_wp2
  clear hx hx2 hy
  go_loopw [3, 6] (fun u i wr => ∃ k p m : Nat, Hid (p + k = 24) ∧ Hid (m = n / 10 ^ k) ∧ Hid (k = 0 ∨ 0 < n / 10 ^ (k - 1)) ∧ u = .int .u64 (m : Int) ∧ i = .int .i64 (p : Int) ∧ m ≤ 9223372036854775808 ∧ p ≤ 24 ∧ wr.rowIs w.heap.size 28 24 (rowF n k) ∧ Below w.heap.size w wr) (fun u _ _ => (intOf u).toNat)
  case atStart => exact ⟨0, 24, n, rfl, by show _ = _; simp, Or.inl rfl, rfl, rfl, HN.out, by omega, R0.out, (Below.refl _ _).alloc (Nat.le_refl _) _⟩
  case round =>
    obtain ⟨k, p, m, HP, HM, HK, rfl, rfl, hm, hp, hrow, hb⟩ := hrel
    by_cases hpos : 0 < m
    · have hk : k < 20 := by
        rcases Nat.lt_or_ge k 20 with h | h
        · exact h
        · have := Plain.k_lt n k HN.out h; rw [← HM.out] at this; omega
      obtain ⟨q, rfl⟩ : ∃ q, p = q + 1 := ⟨p - 1, by have := HP.out; omega⟩
      have hq : q < 24 := by omega
      have hc := hrow.cell hq
      have hf := hrow.frozen q
      have HR : Hid _ := row_step hrow HP.out m HM.out
      clear hrow
      go_wp2
      go_roundw
      case rel => exact ⟨k + 1, q, m / 10, by have := HP.out; show _ = _; omega, by show _ = _; rw [HM.out, Plain.div_step], Or.inr (by rw [Nat.add_sub_cancel, ← HM.out]; exact hpos), by simp, rfl, by omega, by omega, HR.out, hb.setCell (Nat.le_refl _) _⟩
      case measure => simp [intOf]; omega
    · obtain rfl : m = 0 := by omega
      have kb := k_le n k HN.out HK.out
      have k1 := k_pos n k h0 HM.out
      obtain ⟨q, rfl⟩ : ∃ q, p = q + 1 := ⟨p - 1, by have := HP.out; omega⟩
      have hq : q < 24 := by omega
      have hc := hrow.cell hq
      have hf := hrow.frozen q
      have hsl := slice_arr w.heap.size q (by omega)
      have hcv := end_neg n k q w.heap.size wr h0 HP.out HM.out HK.out hrow
      clear hrow
      go_wp2
      go_ret
      exact ⟨rfl, hb.setCell (Nat.le_refl _) _⟩

end Go.Proofs.Qxb6628278aFmt
