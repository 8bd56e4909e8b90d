/-
  DERIVED. Plain laws on decimal numerals: no Go in sight.
-/
import Derived.Lib.ItoaNum
import Derived.Lib.ItoaMem
namespace Go.Proofs.Qxb6628278aFmt.Plain
open Go.Lib

/-- The number that a numeral spells. -/
def val (l : List UInt8) : Nat := l.foldl (fun a c => a * 10 + (c.toNat - 48)) 0

theorem val_snoc (l : List UInt8) (c : UInt8) : val (l ++ [c]) = val l * 10 + (c.toNat - 48) := by
  simp [val, List.foldl_append]
theorem digit_num (d : Nat) (h : d < 10) : (UInt8.ofNat (48 + d)).toNat = 48 + d := by
  rw [UInt8.toNat_ofNat']
  omega
theorem val_dec : ∀ u : Nat, val (decDigits u) = u := by
  intro u
  induction u using Nat.strongRecOn with
  | _ u ih =>
    by_cases h : u < 10
    · rw [decDigits_one h]
      show 0 * 10 + ((UInt8.ofNat (48 + u)).toNat - 48) = u
      rw [digit_num u h]
      omega
    · rw [decDigits, dif_neg h, val_snoc, ih (u / 10) (by omega), digit_num _ (by omega)]
      omega
theorem dec_inj {a b : Nat} (h : decDigits a = decDigits b) : a = b := by
  rw [← val_dec a, ← val_dec b, h]
theorem dec_head (u : Nat) : ∀ c ∈ decDigits u, c ≠ 45 := by
  induction u using Nat.strongRecOn with
  | _ u ih =>
    intro c hc e
    by_cases h : u < 10
    · rw [decDigits_one h] at hc
      have hc := List.mem_singleton.1 hc
      have := digit_num u h
      rw [← hc, e] at this
      have e45 : (45 : UInt8).toNat = 45 := rfl
      omega
    · rw [decDigits, dif_neg h] at hc
      rcases List.mem_append.1 hc with hc | hc
      · exact ih (u / 10) (by omega) c hc e
      · have hc := List.mem_singleton.1 hc
        have := digit_num (u % 10) (by omega)
        rw [← hc, e] at this
        have e45 : (45 : UInt8).toNat = 45 := rfl
        omega
theorem itoa_inj {a b : Int} (h : itoa a = itoa b) : a = b := by
  unfold itoa at h
  by_cases ha : a < 0 <;> by_cases hb : b < 0
  · rw [if_pos ha, if_pos hb] at h
    have := dec_inj (List.cons.inj h).2
    omega
  · rw [if_pos ha, if_neg hb] at h
    exact absurd rfl (dec_head b.toNat 45 (by rw [← h]; simp))
  · rw [if_neg ha, if_pos hb] at h
    exact absurd rfl (dec_head a.toNat 45 (by rw [h]; simp))
  · rw [if_neg ha, if_neg hb] at h
    have := dec_inj h
    omega

/-- The name of scheme number n. -/
def name (n : Int) : List UInt8 :=
  if n = 0 then [110, 117, 108, 108, 32, 115, 99, 104, 101, 109, 101]
  else if n = 1 then [112, 114, 111, 102, 105, 108, 101, 32, 65]
  else if n = 2 then [112, 114, 111, 102, 105, 108, 101, 32, 66]
  else [112, 114, 111, 116, 101, 99, 116, 105, 111, 110, 32, 115, 99, 104, 101, 109, 101, 32] ++ itoa n

theorem name_inj (a b : Int) (h : name a = name b) : a = b := by
  unfold name at h
  by_cases a0 : a = 0
  · by_cases b0 : b = 0
    · omega
    · rw [if_pos a0, if_neg b0] at h
      by_cases b1 : b = 1
      · rw [if_pos b1] at h; simp at h
      · rw [if_neg b1] at h
        by_cases b2 : b = 2
        · rw [if_pos b2] at h; simp at h
        · rw [if_neg b2] at h; simp at h
  · rw [if_neg a0] at h
    by_cases a1 : a = 1
    · rw [if_pos a1] at h
      by_cases b0 : b = 0
      · rw [if_pos b0] at h; simp at h
      · rw [if_neg b0] at h
        by_cases b1 : b = 1
        · omega
        · rw [if_neg b1] at h
          by_cases b2 : b = 2
          · rw [if_pos b2] at h; simp at h
          · rw [if_neg b2] at h; simp at h
    · rw [if_neg a1] at h
      by_cases a2 : a = 2
      · rw [if_pos a2] at h
        by_cases b0 : b = 0
        · rw [if_pos b0] at h; simp at h
        · rw [if_neg b0] at h
          by_cases b1 : b = 1
          · rw [if_pos b1] at h; simp at h
          · rw [if_neg b1] at h
            by_cases b2 : b = 2
            · omega
            · rw [if_neg b2] at h; simp at h
      · rw [if_neg a2] at h
        by_cases b0 : b = 0
        · rw [if_pos b0] at h; simp at h
        · rw [if_neg b0] at h
          by_cases b1 : b = 1
          · rw [if_pos b1] at h; simp at h
          · rw [if_neg b1] at h
            by_cases b2 : b = 2
            · rw [if_pos b2] at h; simp at h
            · rw [if_neg b2] at h
              exact itoa_inj (List.append_cancel_left h)

/-- The numeral of k digits, place for place. -/
theorem dec_places (N k : Nat) (h1 : 1 ≤ k) (hlo : 0 < N / 10 ^ (k - 1)) (hhi : N / 10 ^ k = 0) : decDigits N = (List.range k).map fun t => dg N (k - 1 - t) := by
  have hp : 0 < 10 ^ (k - 1) := Nat.pow_pos (by decide)
  have hp2 : 0 < 10 ^ k := Nat.pow_pos (by decide)
  have a1 : 10 ^ (k - 1) ≤ N := by
    rcases Nat.lt_or_ge N (10 ^ (k - 1)) with h | h
    · rw [Nat.div_eq_of_lt h] at hlo; omega
    · exact h
  have a2 : N < 10 ^ k := by
    rcases Nat.lt_or_ge N (10 ^ k) with h | h
    · exact h
    · have := Nat.div_pos h hp2; omega
  have hn : nDigits N = k := by
    have := nDigits_unique (k - 1) N a1 (by rw [show k - 1 + 1 = k by omega]; exact a2)
    omega
  rw [decDigits_eq, hn]
theorem div_step (N k : Nat) : N / 10 ^ k / 10 = N / 10 ^ (k + 1) := by
  rw [Nat.pow_succ, Nat.div_div_eq_div_mul]
theorem dg_num (N k : Nat) : ((dg N k).toNat : Int) = 48 + ((N / 10 ^ k : Nat) : Int) % 10 := by
  unfold dg
  rw [digit_num _ (by omega)]
  omega
theorem k_lt (N k : Nat) (h : N ≤ 9223372036854775808) (hk : 20 ≤ k) : N / 10 ^ k = 0 := by
  apply Nat.div_eq_of_lt
  have h1 : 10 ^ 20 ≤ 10 ^ k := Nat.pow_le_pow_right (by decide) hk
  have h2 : (9223372036854775808 : Nat) < 10 ^ 20 := by decide
  omega
end Go.Proofs.Qxb6628278aFmt.Plain
