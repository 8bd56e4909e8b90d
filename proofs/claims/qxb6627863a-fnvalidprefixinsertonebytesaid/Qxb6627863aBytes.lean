/-
  DERIVED. The contracts of digitsLike and insertByte.
-/
import Derived.Test.Qxb6627863aLoops
import Derived.Deep.OwnRows
import Derived.Laws.IdiomStrings
namespace Go.Proofs.Qxb6627863a
open Go.RowKit

theorem Try.info5 : (Try.prog.info? 5).map (fun i => (i.zero, i.size, i.bytes)) = some (some (.int .u8 0), 1, 1) := by kernel_rfl

theorem add_plain (b j : Nat) : (⟨b, 0, none⟩ : Addr).add j = ⟨b, j, none⟩ := by
  unfold Addr.add
  by_cases h : j = 0 <;> simp [h]

theorem conv_row (l : List UInt8) (w : World) (b n : Nat) (hn : l.length = n) (hr : w.rowIs b 5 n (fun j => .int .u8 ((l.getD j 0).toNat : Int))) :
    (convert 24 9 (.slice (some ⟨b, 0, none⟩) n n)).run Try.prog w = .ok (.string ⟨l.toArray⟩) w := by
  subst hn
  refine run_convert_bytes_back (P := Try.prog) w 24 9 5 ⟨b, 0, none⟩ l.length l Try.underlying24 Try.underlying5 Try.underlying9 (fun j hj => ?_)
  have := hr.cell hj
  rw [add_plain]
  simpa [hj] using this

theorem byte_getD (s : ByteArray) (k : Nat) (h : k < s.size) : s.data.toList.getD k 0 = s[k] := by
  rw [List.getD_eq_getElem?_getD, Go.Proofs.byte_at s k h]; rfl

theorem dg_num (c : UInt8) : ((Plain.dg c).toNat : Int) = 48 + (c.toNat : Int) % 10 := by
  unfold Plain.dg
  rw [UInt8.toNat_add, UInt8.toNat_mod]
  have h10 : (10 : UInt8).toNat = 10 := rfl
  have h48 : (48 : UInt8).toNat = 48 := rfl
  rw [h10, h48]
  omega

set_option maxHeartbeats 400000 in
theorem digs_any (s : ByteArray) (hs : s.size ≤ 1048576) (w : World) :
    Calls Try.prog 9 #[.string s] w fun e w' => e = .returned (.string ⟨(s.data.toList.map Plain.dg).toArray⟩) ∧ Below w.heap.size w w' := by
  have hmk := run_make_row' (P := Try.prog) 24 5 (.int .u8 0) 1 Try.underlying24 Try.info5 rfl .i64 .i64 s.size (by omega) (by omega)
  go_enter Try.func9, Try.ntmps9
  go_wp2
  go_loopw [4] (fun i wr => ∃ k : Nat, k ≤ s.size ∧ i = .int .i64 k ∧ wr.rowIs w.heap.size 5 s.size (fun j => .int .u8 (if j < k then ((Plain.dg (s.data.toList.getD j 0)).toNat : Int) else 0)) ∧ Below w.heap.size w wr) (fun i _ => s.size - (intOf i).toNat)
  case atStart => exact ⟨0, by omega, rfl, (World.rowIs_made w _ _ _).congr (by simp), (Below.refl _ _).alloc (by omega) _⟩
  case round =>
    obtain ⟨k, hk, rfl, hrow, hb⟩ := hrel
    by_cases hlt : k < s.size
    · have hc := hrow.cell hlt
      have hf := hrow.frozen k
      have R : (wr.setCell ⟨w.heap.size, k, none⟩ (.int .u8 (48 + (s[k].toNat : Int) % 10))).rowIs w.heap.size 5 s.size (fun j => .int .u8 (if j < k + 1 then ((Plain.dg (s.data.toList.getD j 0)).toNat : Int) else 0)) := by
        refine (hrow.set k (.int .u8 (48 + (s[k].toNat : Int) % 10))).congr (fun j hj => ?_)
        by_cases e : j = k
        · subst e
          rw [if_pos rfl, if_pos (by omega), byte_getD s j hlt, dg_num]
        · rw [if_neg e]
          by_cases e2 : j < k
          · rw [if_pos e2, if_pos (by omega)]
          · rw [if_neg e2, if_neg (by omega)]
      have HR : Hid _ := R
      clear hmk R
      go_wp2
      go_roundw
      case rel => exact ⟨k + 1, by omega, by go_num, HR.out, hb.setCell (Nat.le_refl _) _⟩
      case measure => simp [intOf]; omega
    · have hcv := conv_row (s.data.toList.map Plain.dg) wr w.heap.size s.size (by simp) (hrow.congr (fun j hj => by
        rw [if_pos (by omega)]
        simp [hj]))
      clear hmk
      go_wp2
      go_ret
      exact ⟨rfl, hb⟩

/-- The bytes with c put in at place i. -/
def ins (l : List UInt8) (i : Nat) (c : UInt8) : List UInt8 := l.take i ++ c :: l.drop i
theorem ins_length (l : List UInt8) (i : Nat) (c : UInt8) (h : i ≤ l.length) : (ins l i c).length = l.length + 1 := by
  simp [ins]; omega
theorem ins_lt (l : List UInt8) (i : Nat) (c : UInt8) (h : i ≤ l.length) (j : Nat) (hj : j < i) : (ins l i c).getD j 0 = l.getD j 0 := by
  simp only [ins, List.getD_eq_getElem?_getD]
  rw [List.getElem?_append_left (by simp; omega), List.getElem?_take_of_lt hj]
theorem ins_at (l : List UInt8) (i : Nat) (c : UInt8) (h : i ≤ l.length) : (ins l i c).getD i 0 = c := by
  simp only [ins, List.getD_eq_getElem?_getD]
  rw [List.getElem?_append_right (by simp; omega)]
  simp [Nat.min_eq_left h]
theorem ins_gt (l : List UInt8) (i : Nat) (c : UInt8) (h : i ≤ l.length) (j : Nat) (hj : i ≤ j) : (ins l i c).getD (j + 1) 0 = l.getD j 0 := by
  simp only [ins, List.getD_eq_getElem?_getD]
  rw [List.getElem?_append_right (by simp; omega)]
  simp only [List.length_take, Nat.min_eq_left h]
  rw [show j + 1 - i = (j - i) + 1 by omega, List.getElem?_cons_succ, List.getElem?_drop]
  rw [show i + (j - i) = j by omega]

theorem ec (n : Nat) : ((n + 1 : Nat) : Int) = (n : Int) + 1 := by omega

set_option maxHeartbeats 400000 in
theorem ins_any (s : ByteArray) (i : Nat) (c : UInt8) (hs : s.size ≤ 1048576) (hi : i ≤ s.size) (w : World) :
    Calls Try.prog 6 #[.string s, .int .i64 (i : Int), .int .u8 (c.toNat : Int)] w fun e w' => e = .returned (.string ⟨(ins s.data.toList i c).toArray⟩) ∧ Below w.heap.size w w' := by
  have hmk := run_make_row' (P := Try.prog) 24 5 (.int .u8 0) 1 Try.underlying24 Try.info5 rfl .i64 .i64 (s.size + 1) (by omega) (by omega)
  rw [ec] at hmk
  have hsl : s.data.toList.length = s.size := by simp
  have HSL : Hid (s.data.toList.length = s.size) := hsl
  clear hsl
  go_enter Try.func6, Try.ntmps6
  go_wp2
  go_loopw [8] (fun q wr => ∃ k : Nat, k ≤ i ∧ q = .int .i64 k ∧ wr.rowIs w.heap.size 5 (s.size + 1) (fun j => .int .u8 (if j < k then ((s.data.toList.getD j 0).toNat : Int) else 0)) ∧ Below w.heap.size w wr) (fun q _ => i - (intOf q).toNat)
  case atStart => exact ⟨0, by omega, rfl, (World.rowIs_made w _ _ _).congr (by simp), (Below.refl _ _).alloc (by omega) _⟩
  case round =>
    obtain ⟨k, hk, rfl, hrow, hb⟩ := hrel
    by_cases hlt : k < i
    · have hks : k < s.size := by omega
      have hks' : k < s.size + 1 := by omega
      have hc := hrow.cell hks'
      have hf := hrow.frozen k
      have R : (wr.setCell ⟨w.heap.size, k, none⟩ (.int .u8 (s[k].toNat : Int))).rowIs w.heap.size 5 (s.size + 1) (fun j => .int .u8 (if j < k + 1 then ((s.data.toList.getD j 0).toNat : Int) else 0)) := by
        refine (hrow.set k (.int .u8 (s[k].toNat : Int))).congr (fun j hj => ?_)
        by_cases e : j = k
        · subst e
          rw [if_pos rfl, if_pos (by omega), byte_getD s j hks]
        · rw [if_neg e]
          by_cases e2 : j < k
          · rw [if_pos e2, if_pos (by omega)]
          · rw [if_neg e2, if_neg (by omega)]
      have HR : Hid _ := R
      clear hmk R
      go_wp2
      go_roundw
      case rel => exact ⟨k + 1, by omega, by go_num, HR.out, hb.setCell (Nat.le_refl _) _⟩
      case measure => simp [intOf]; omega
    · have hki : k = i := by omega
      subst hki
      have hks' : k < s.size + 1 := by omega
      have hc := hrow.cell hks'
      have hf := hrow.frozen k
      have R : (wr.setCell ⟨w.heap.size, k, none⟩ (.int .u8 (c.toNat : Int))).rowIs w.heap.size 5 (s.size + 1) (fun j => .int .u8 (if j ≤ k then (((ins s.data.toList k c).getD j 0).toNat : Int) else 0)) := by
        refine (hrow.set k (.int .u8 (c.toNat : Int))).congr (fun j hj => ?_)
        have hkl : k ≤ s.data.toList.length := by rw [HSL.out]; omega
        by_cases e : j = k
        · subst e
          rw [if_pos rfl, if_pos (by omega), ins_at _ _ _ hkl]
        · rw [if_neg e]
          by_cases e2 : j < k
          · rw [if_pos e2, if_pos (by omega), ins_lt _ _ _ hkl _ e2]
          · rw [if_neg e2, if_neg (by omega)]
      have HR : Hid _ := R
      clear hmk R hrow
      go_wp2
      clear hc hf
      go_loopw [9] (fun q wq => ∃ m : Nat, k ≤ m ∧ m ≤ s.size ∧ q = .int .i64 m ∧ wq.rowIs w.heap.size 5 (s.size + 1) (fun j => .int .u8 (if j ≤ m then (((ins s.data.toList k c).getD j 0).toNat : Int) else 0)) ∧ Below w.heap.size w wq) (fun q _ => s.size - (intOf q).toNat)
      case atStart => exact ⟨k, by omega, by omega, rfl, HR.out, hb.setCell (Nat.le_refl _) _⟩
      case round =>
        obtain ⟨m, hkm, hm, rfl, hrow, hb⟩ := hrel
        clear HR
        by_cases hlt : m < s.size
        · have hms' : m + 1 < s.size + 1 := by omega
          have hc := hrow.cell hms'
          have hf := hrow.frozen (m + 1)
          have R : (wr.setCell ⟨w.heap.size, m + 1, none⟩ (.int .u8 (s[m].toNat : Int))).rowIs w.heap.size 5 (s.size + 1) (fun j => .int .u8 (if j ≤ m + 1 then (((ins s.data.toList k c).getD j 0).toNat : Int) else 0)) := by
            refine (hrow.set (m + 1) (.int .u8 (s[m].toNat : Int))).congr (fun j hj => ?_)
            have hkl : k ≤ s.data.toList.length := by rw [HSL.out]; omega
            by_cases e : j = m + 1
            · subst e
              rw [if_pos rfl, if_pos (by omega), ins_gt _ _ _ hkl _ hkm, byte_getD s m hlt]
            · rw [if_neg e]
              by_cases e2 : j ≤ m
              · rw [if_pos e2, if_pos (by omega)]
              · rw [if_neg e2, if_neg (by omega)]
          have HR : Hid _ := R
          clear R
          go_wp2
          go_roundw
          case rel => exact ⟨m + 1, by omega, by omega, by go_num, HR.out, hb.setCell (Nat.le_refl _) _⟩
          case measure => simp [intOf]; omega
        · have hcv := conv_row (ins s.data.toList k c) wr w.heap.size (s.size + 1) (by rw [ins_length _ _ _ (by rw [HSL.out]; omega), HSL.out]) (hrow.congr (fun j hj => by rw [if_pos (by omega)]))
          go_wp2
          go_ret
          exact ⟨rfl, hb⟩
end Go.Proofs.Qxb6627863a
