/-
  DERIVED. The contracts of the shim functions and of zzlFindCheck.
-/
import Derived.Test.Qxb6628294aPut
import Derived.Test.Qxb6628294aLast
namespace Go.Proofs.Qxb6628294a
open Go.RowKit Go.Deep

set_option maxHeartbeats 400000 in
theorem size_any (w : World) (T S : Nat) (c1 : w.cell? ⟨T, 1, none⟩ = some (.int .i64 (S : Int))) :
    Calls Try.prog 8 #[.pointer (some ⟨T, 0, none⟩)] w fun e w' => e = .returned (.int .i64 (S : Int)) ∧ w = w' := by
  go_enter Try.func8, Try.ntmps8
  go_wp2
  go_ret
  exact ⟨rfl, rfl⟩
set_option maxHeartbeats 400000 in
theorem taken_any (w : World) (T n : Nat) (c2 : w.cell? ⟨T, 2, none⟩ = some (.int .i64 (n : Int))) :
    Calls Try.prog 9 #[.pointer (some ⟨T, 0, none⟩)] w fun e w' => e = .returned (.int .i64 (n : Int)) ∧ w = w' := by
  go_enter Try.func9, Try.ntmps9
  go_wp2
  go_ret
  exact ⟨rfl, rfl⟩
set_option maxHeartbeats 400000 in
theorem count_any (w : World) (T m cap : Nat) (a : Option Addr) (c0 : w.cell? ⟨T, 0, none⟩ = some (.slice a m cap)) :
    Calls Try.prog 10 #[.pointer (some ⟨T, 0, none⟩)] w fun e w' => e = .returned (.int .i64 (m : Int)) ∧ w = w' := by
  go_enter Try.func10, Try.ntmps10
  go_wp2
  go_ret
  exact ⟨rfl, rfl⟩
set_option maxHeartbeats 400000 in
theorem clen_any {w : World} {T C cap : Nat} {B : Nat → Nat} {S n : Nat} {K V : Nat → Int} (h : TabAt w T C cap B S n K V) (c : Nat) (hc : c < nch S) (hS : S ≤ 1000000) :
    Calls Try.prog 11 #[.pointer (some ⟨T, 0, none⟩), .int .i64 (c : Int)] w fun e w' => e = .returned (.int .i64 ((clen S c : Nat) : Int)) ∧ w = w' := by
  have c0 := h.c0
  have hd := h.dir c hc
  have hcb : c ≤ 1000000 := by unfold nch at hc; omega
  clear h
  go_enter Try.func11, Try.ntmps11
  go_wp2
  go_ret
  exact ⟨rfl, rfl⟩
set_option maxHeartbeats 400000 in
theorem slotV_any {w : World} {T C cap : Nat} {B : Nat → Nat} {S n : Nat} {K V : Nat → Int} (h : TabAt w T C cap B S n K V) (c j : Nat) (hc : c < nch S) (hj : j < clen S c) (hS : S ≤ 1000000) :
    Calls Try.prog 12 #[.pointer (some ⟨T, 0, none⟩), .int .i64 (c : Int), .int .i64 (j : Int)] w fun e w' => e = .returned (.int .i32 (V (1024 * c + j))) ∧ w = w' := by
  have c0 := h.c0
  have hd := h.dir c hc
  have hcb : c ≤ 1000000 := by unfold nch at hc; omega
  have hjb := clen_le S c
  have hv := (h.rows c hc).cell (i := 2 * j + 1) (by omega)
  rw [cellF_val, Nat.mul_comm 2 j] at hv
  clear h
  go_enter Try.func12, Try.ntmps12
  go_wp2
  go_ret
  exact ⟨rfl, rfl⟩
set_option maxHeartbeats 400000 in
theorem slotK_any {w : World} {T C cap : Nat} {B : Nat → Nat} {S n : Nat} {K V : Nat → Int} (h : TabAt w T C cap B S n K V) (c j : Nat) (hc : c < nch S) (hj : j < clen S c) (hS : S ≤ 1000000) :
    Calls Try.prog 14 #[.pointer (some ⟨T, 0, none⟩), .int .i64 (c : Int), .int .i64 (j : Int)] w fun e w' => e = .returned (.int .u32 (K (1024 * c + j))) ∧ w = w' := by
  have c0 := h.c0
  have hd := h.dir c hc
  have hcb : c ≤ 1000000 := by unfold nch at hc; omega
  have hjb := clen_le S c
  have hv := (h.rows c hc).cell (i := 2 * j) (by omega)
  rw [cellF_key, Nat.mul_comm 2 j] at hv
  clear h
  go_enter Try.func14, Try.ntmps14
  go_wp2
  go_ret
  exact ⟨rfl, rfl⟩
set_option maxHeartbeats 400000 in
theorem zfind_any {w : World} {T C cap : Nat} {B : Nat → Nat} {S n : Nat} {K V : Nat → Int} (h : TabAt w T C cap B S n K V) (k : Int) (h0 : 0 ≤ k) (h1 : k ≤ 4294967295) (hS0 : 0 < S) (hS : S ≤ 1000000) (hf : ∃ i, i < S ∧ V i = 0) :
    Calls Try.prog 20 #[.pointer (some ⟨T, 0, none⟩), .int .u32 k] w fun e w' => ∃ i found, e = .returned (.tuple #[.int .i64 ((i : Nat) : Int), .bool found]) ∧ Plain.FindIs (home S) S K V k i found ∧ w = w' := by
  have HF : Hid (∃ i, i < S ∧ V i = 0) := hf
  clear hf
  go_enter Try.func20, Try.ntmps20
  go_wp2_with fail
  refine (find_any h k h0 h1 hS0 hS HF.out).mono ?_
  rintro e w' ⟨i, found, rfl, hfi, rfl⟩
  go_wp2
  go_ret2
  exact ⟨i, found, rfl, hfi, rfl⟩

/-- find, the outcome known. -/
theorem zfind_is {w : World} {T C cap : Nat} {B : Nat → Nat} {S n : Nat} {K V : Nat → Int} {m : List Int × List Int} (h : TabAt w T C cap B S n K V) (hr : Plain.Rep (home S) S K V m) (k : Int) (h0 : 0 ≤ k) (h1 : k ≤ 4294967295) (hS0 : 0 < S) (hS : S ≤ 1000000) (hf : ∃ i, i < S ∧ V i = 0) (b : Bool) (hb : b = true ↔ k ∈ m.1) :
    Calls Try.prog 20 #[.pointer (some ⟨T, 0, none⟩), .int .u32 k] w fun e w' => ∃ i, e = .returned (.tuple #[.int .i64 ((i : Nat) : Int), .bool b]) ∧ Plain.FindIs (home S) S K V k i b ∧ w = w' := by
  refine (zfind_any h k h0 h1 hS0 hS hf).mono ?_
  rintro e w' ⟨i, found, rfl, hfi, rfl⟩
  have : found = b := by
    have h1 := Plain.rep_found hr hfi
    cases found <;> cases b <;> simp_all
  subst this
  exact ⟨i, rfl, hfi, rfl⟩

set_option maxRecDepth 100000 in
set_option maxHeartbeats 400000 in
theorem check_yes {w : World} {T C cap : Nat} {B : Nat → Nat} {S n : Nat} {K V : Nat → Int} {m : List Int × List Int} (h : TabAt w T C cap B S n K V) (hr : Plain.Rep (home S) S K V m) (k v : Int) (h0 : 0 ≤ k) (h1 : k ≤ 4294967295) (hS0 : 0 < S) (hS : S ≤ 10000) (hf : ∃ i, i < S ∧ V i = 0) (x : Nat) (hx : x < m.1.length) (hk : m.1.getD x 0 = k) (hv : m.2.getD x 0 = v) (v0 : 0 ≤ v) (v1 : v ≤ 2147483646) :
    Calls Try.prog 16 #[.pointer (some ⟨T, 0, none⟩), .int .i64 (S : Int), .int .u32 k, .bool true, .int .i32 v] w fun e w' => e = .returned (.bool true) ∧ w = w' := by
  have HZ := zfind_is h hr k h0 h1 hS0 (by omega) hf true ⟨fun _ => by rw [← hk]; exact Plain.getD_mem hx, fun _ => rfl⟩
  have HV : Hid (∀ i, Plain.FindIs (home S) S K V k i true → V i = v + 1 ∧ K i = k) := fun i hfi => by
    obtain ⟨l, t, e⟩ := Plain.find_yes hfi
    obtain ⟨y, hy, e1, e2⟩ := (hr.has k (V i)).1 ⟨i, l, t, e, rfl⟩
    have : y = x := Plain.nodup_getD hr.nodup hy hx (e1.trans hk.symm)
    subst this
    exact ⟨by rw [← e2, hv], e⟩
  have c0 := h.c0
  clear hk hv hf hr
  go_enter Try.func16, Try.ntmps16
  go_wp2_with fail
  refine HZ.mono ?_
  clear HZ
  rintro e w' ⟨i, rfl, hfi, rfl⟩
  have hi := hfi.1
  obtain ⟨a1, a2⟩ := chunk_of hi
  have HVI : Hid (V i = v + 1 ∧ K i = k) := HV.out i hfi
  clear hfi HV
  have hsV := slotV_any h (i / 1024) (i % 1024) a1 a2 (by omega)
  have hsK := slotK_any h (i / 1024) (i % 1024) a1 a2 (by omega)
  rw [show 1024 * (i / 1024) + i % 1024 = i by omega, HVI.out.1] at hsV
  rw [show 1024 * (i / 1024) + i % 1024 = i by omega, HVI.out.2] at hsK
  have hcl := clen_any h (i / 1024) a1 (by omega)
  have ec : ((i / 1024 : Nat) : Int) = (i : Int) / 1024 := by omega
  have ej : ((i % 1024 : Nat) : Int) = (i : Int) % 1024 := by omega
  rw [ec, ej] at hsV hsK
  rw [ec] at hcl
  have b1 : decide (((nch S : Nat) : Int) ≤ (i : Int) / 1024) = false := by simp; omega
  have b2 : decide (((clen S (i / 1024) : Nat) : Int) ≤ (i : Int) % 1024) = false := by simp; omega
  clear ec ej h
  go_wp2_with fail
  refine (count_any _ _ _ _ _ c0).mono ?_
  rintro e w' ⟨rfl, rfl⟩
  go_wp2_with fail
  refine hcl.mono ?_
  rintro e w' ⟨rfl, rfl⟩
  go_wp2_with fail
  refine hsV.mono ?_
  rintro e w' ⟨rfl, rfl⟩
  go_wp2_with fail
  refine hsK.mono ?_
  rintro e w' ⟨rfl, rfl⟩
  clear hsV hsK hcl
  go_wp2
  go_ret
  exact ⟨rfl, rfl⟩

set_option maxRecDepth 100000 in
set_option maxHeartbeats 400000 in
theorem check_no {w : World} {T C cap : Nat} {B : Nat → Nat} {S n : Nat} {K V : Nat → Int} {m : List Int × List Int} (h : TabAt w T C cap B S n K V) (hr : Plain.Rep (home S) S K V m) (k v : Int) (h0 : 0 ≤ k) (h1 : k ≤ 4294967295) (hS0 : 0 < S) (hS : S ≤ 10000) (hf : ∃ i, i < S ∧ V i = 0) (hk : k ∉ m.1) :
    Calls Try.prog 16 #[.pointer (some ⟨T, 0, none⟩), .int .i64 (S : Int), .int .u32 k, .bool false, .int .i32 v] w fun e w' => e = .returned (.bool true) ∧ w = w' := by
  have HZ := zfind_is h hr k h0 h1 hS0 (by omega) hf false ⟨fun e => (by cases e), fun e => absurd e hk⟩
  have c0 := h.c0
  clear hk hf hr
  go_enter Try.func16, Try.ntmps16
  go_wp2_with fail
  refine HZ.mono ?_
  clear HZ
  rintro e w' ⟨i, rfl, hfi, rfl⟩
  have hi := hfi.1
  obtain ⟨a1, a2⟩ := chunk_of hi
  have HVI : Hid (V i = 0) := (Plain.find_free hfi).2
  clear hfi
  have hsV := slotV_any h (i / 1024) (i % 1024) a1 a2 (by omega)
  rw [show 1024 * (i / 1024) + i % 1024 = i by omega, HVI.out] at hsV
  have hcl := clen_any h (i / 1024) a1 (by omega)
  have ec : ((i / 1024 : Nat) : Int) = (i : Int) / 1024 := by omega
  have ej : ((i % 1024 : Nat) : Int) = (i : Int) % 1024 := by omega
  rw [ec, ej] at hsV
  rw [ec] at hcl
  have b1 : decide (((nch S : Nat) : Int) ≤ (i : Int) / 1024) = false := by simp; omega
  have b2 : decide (((clen S (i / 1024) : Nat) : Int) ≤ (i : Int) % 1024) = false := by simp; omega
  clear ec ej h
  go_wp2_with fail
  refine (count_any _ _ _ _ _ c0).mono ?_
  rintro e w' ⟨rfl, rfl⟩
  go_wp2_with fail
  refine hcl.mono ?_
  rintro e w' ⟨rfl, rfl⟩
  go_wp2_with fail
  refine hsV.mono ?_
  rintro e w' ⟨rfl, rfl⟩
  clear hsV hcl
  go_wp2
  go_ret
  exact ⟨rfl, rfl⟩
end Go.Proofs.Qxb6628294a
