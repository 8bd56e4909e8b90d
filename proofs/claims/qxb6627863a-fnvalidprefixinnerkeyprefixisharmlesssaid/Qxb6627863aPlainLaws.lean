/-
  DERIVED. The plain laws of ValidPrefix: no Go in sight.
-/
import Derived.Test.Qxb6627863aPlain
namespace Go.Proofs.Qxb6627863a.Plain

/-- The key mark put into l at place k. -/
def put (l : List UInt8) (k : Nat) : List UInt8 := l.take k ++ [102, 107, 95] ++ l.drop k

theorem put_length (l : List UInt8) (k : Nat) : (put l k).length = l.length + 3 := by
  simp [put]; omega
theorem put_all (l : List UInt8) (k : Nat) : (put l k).all pc = l.all pc := by
  have h : ([102, 107, 95] : List UInt8).all pc = true := by decide
  unfold put
  rw [List.all_append, List.all_append, h, Bool.and_true, ← List.all_append, List.take_append_drop]

theorem vp_long (l : List UInt8) (h : 16 < l.length) : vp l = false := by
  simp [vp]; omega
theorem vp_short (l : List UInt8) (h : l.length < 2) : vp l = false := by
  simp [vp]; omega
theorem vp_hk (l : List UInt8) (h : hk l = true) : vp l = false := by
  simp [vp, h]
theorem vp_mid (l : List UInt8) (h2 : 2 ≤ l.length) (h16 : l.length ≤ 16) (h : hk l = false) : vp l = l.all pc := by
  simp [vp, h, h2, h16]

theorem put_zero (l : List UInt8) : vp (put l 0) = false := vp_hk _ (by simp [put, hk])
theorem put_long (l : List UInt8) (k : Nat) (h : 16 < l.length + 3) : vp (put l k) = false := vp_long _ (by rw [put_length]; exact h)

/-- Put in behind the first or the second byte: no key mark ahead. -/
theorem hk_put12 (l : List UInt8) (k : Nat) (h1 : 1 ≤ k) (h2 : k < 3) (hl : k ≤ l.length) : hk (put l k) = false := by
  match k, h1, h2 with
  | 1, _, _ =>
    match l, hl with
    | a :: r, _ => simp [put, hk]
  | 2, _, _ =>
    match l, hl with
    | a :: b :: r, _ => simp [put, hk]
theorem hk_put3 (l : List UInt8) (k : Nat) (h3 : 3 ≤ k) (hl : k ≤ l.length) : hk (put l k) = hk l := by
  match k, h3 with
  | k + 3, _ =>
    match l, hl with
    | a :: b :: c :: r, _ => simp [put, hk]
    | [], hl => simp at hl
    | [_], hl => simp at hl
    | [_, _], hl => simp at hl

theorem put_one (l : List UInt8) (h : l.length = 1) : vp (put l 1) = vp (l ++ l) := by
  match l, h with
  | [a], _ =>
    rw [vp_mid (put [a] 1) (by simp [put]) (by simp [put]) (hk_put12 _ _ (by omega) (by omega) (by simp)), put_all]
    rw [vp_mid ([a] ++ [a]) (by simp) (by simp) rfl]
    simp
theorem put_key (l : List UInt8) (k : Nat) (h1 : 1 ≤ k) (h2 : k < 3) (hh : hk l = true) (h : l.length + 3 ≤ 16) : vp (put l k) = vp ([107, 95] ++ l.drop 3) := by
  match l, hh with
  | a :: b :: c :: r, hh =>
    simp [hk] at hh
    obtain ⟨⟨rfl, rfl⟩, rfl⟩ := hh
    rw [vp_mid (put _ k) (by rw [put_length]; omega) (by rw [put_length]; exact h) (hk_put12 _ _ h1 h2 (by simp; omega)), put_all]
    rw [vp_mid _ (by simp) (by simp at h ⊢; omega) (by cases r <;> simp [hk])]
    have e1 : pc 102 = true := by decide
    have e2 : pc 107 = true := by decide
    have e3 : pc 95 = true := by decide
    simp [e1, e2, e3]
theorem put_else (l : List UInt8) (k : Nat) (h1 : 1 ≤ k) (hl : k ≤ l.length) (hn : 2 ≤ l.length) (h : l.length + 3 ≤ 16) (hh : k < 3 → hk l = false) : vp (put l k) = vp l := by
  by_cases h3 : k < 3
  · rw [vp_mid (put l k) (by rw [put_length]; omega) (by rw [put_length]; exact h) (hk_put12 _ _ h1 h3 hl), put_all, vp_mid l hn (by omega) (hh h3)]
  · have e := hk_put3 l k (by omega) hl
    cases hk' : hk l
    · rw [vp_mid (put l k) (by rw [put_length]; omega) (by rw [put_length]; exact h) (e.trans hk'), put_all, vp_mid l hn (by omega) hk']
    · rw [vp_hk _ (e.trans hk'), vp_hk _ hk']

theorem dg_pc (c : UInt8) : pc (dg c) = true := by
  have h : 48 ≤ (dg c).toNat ∧ (dg c).toNat ≤ 57 := by
    unfold dg
    rw [UInt8.toNat_add, UInt8.toNat_mod]
    have h10 : (10 : UInt8).toNat = 10 := rfl
    have h48 : (48 : UInt8).toNat = 48 := rfl
    rw [h10, h48]
    omega
  simp [pc, pcI, an]
  omega
theorem dg_ne (c : UInt8) : (dg c == 102) = false := by
  have h : (dg c).toNat ≤ 57 := by
    unfold dg
    rw [UInt8.toNat_add, UInt8.toNat_mod]
    have h10 : (10 : UInt8).toNat = 10 := rfl
    have h48 : (48 : UInt8).toNat = 48 := rfl
    rw [h10, h48]
    omega
  rw [beq_eq_false_iff_ne]
  intro e
  rw [e] at h
  exact absurd h (by decide)
theorem digs_all (l : List UInt8) : (l.map dg).all pc = true := by
  rw [List.all_map]
  simp [Function.comp_def, dg_pc]
theorem digs_hk (l : List UInt8) : hk (l.map dg) = false := by
  match l with
  | [] => rfl
  | [_] => rfl
  | [_, _] => rfl
  | a :: b :: c :: r => simp [hk, dg_ne]
theorem digs_put_hk (l : List UInt8) (k : Nat) (h1 : 1 ≤ k) (hl : 1 ≤ l.length) : hk (put (l.map dg) k) = false := by
  match k, h1 with
  | k + 1, _ =>
    match l, hl with
    | a :: r, _ =>
      simp only [put, List.map_cons, List.take_succ_cons, List.cons_append]
      generalize (List.take k (List.map dg r) ++ [102, 107, 95] ++ List.drop (k + 1) (dg a :: List.map dg r)) = q
      match q with
      | [] => rfl
      | [_] => rfl
      | _ :: _ :: _ => simp [hk, dg_ne]
theorem digs_put (l : List UInt8) (k : Nat) (h1 : 1 ≤ k) (hk' : k ≤ l.length) (h : l.length + 3 ≤ 16) : vp (put (l.map dg) k) = true := by
  rw [vp_mid (put _ k) (by rw [put_length]; omega) (by rw [put_length]; simpa using h) (digs_put_hk l k h1 (by omega)), put_all, digs_all]
theorem digs_vp (l : List UInt8) : vp (l.map dg) = (decide (2 ≤ l.length) && decide (l.length ≤ 16)) := by
  simp only [vp, List.length_map, digs_hk, digs_all]
  simp

end Go.Proofs.Qxb6627863a.Plain
