/-
  DERIVED. The contract of Put.
-/
import Derived.Test.Qxb6628294aGrow
namespace Go.Proofs.Qxb6628294a
open Go.RowKit Go.Deep

/-- A table that holds the model m. -/
structure Full (w : World) (T : Nat) (m : List Int × List Int) (C cap : Nat) (B : Nat → Nat) (S : Nat) (K V : Nat → Int) : Prop where
  tab : TabAt w T C cap B S m.1.length K V
  rep : Plain.Rep (home S) S K V m
  h16 : 16 ≤ S
  load : 4 * m.1.length ≤ 3 * S
  hs : S ≤ 10000

theorem full_found {W : World} {T : Nat} {m : List Int × List Int} {C cap : Nat} {B : Nat → Nat} {S n : Nat} {K V : Nat → Int} {k v : Int} {fi : Nat} (ht : TabAt W T C cap B S n K V) (hn : n = m.1.length) (hr : Plain.Rep (home S) S K V m) (h16 : 16 ≤ S) (hs : S ≤ 10000) (hroom : 4 * (n + 1) ≤ 3 * S) (v0 : 0 ≤ v) (hf : Plain.FindIs (home S) S K V k fi true) :
    ∃ K' V', Full ((W.setCell ⟨B (fi / 1024), 2 * (fi % 1024), none⟩ (.int .u32 k)).setCell ⟨B (fi / 1024), 2 * (fi % 1024) + 1, none⟩ (.int .i32 (v + 1))) T (Plain.wr m k v) C cap B S K' V' := by
  have hc : (Plain.wr m k v).1.length = n := by rw [Plain.rep_count hr hf, hn]; rfl
  exact ⟨_, _, by rw [hc]; exact ht.setSlot hf.1 k (v + 1), Plain.rep_put hr hf v0, h16, by omega, hs⟩
theorem full_new {W : World} {T : Nat} {m : List Int × List Int} {C cap : Nat} {B : Nat → Nat} {S n : Nat} {K V : Nat → Int} {k v : Int} {fi : Nat} (ht : TabAt W T C cap B S n K V) (hn : n = m.1.length) (hr : Plain.Rep (home S) S K V m) (h16 : 16 ≤ S) (hs : S ≤ 10000) (hroom : 4 * (n + 1) ≤ 3 * S) (v0 : 0 ≤ v) (hf : Plain.FindIs (home S) S K V k fi false) :
    ∃ K' V', Full (((W.setCell ⟨T, 2, none⟩ (.int .i64 ((n : Int) + 1))).setCell ⟨B (fi / 1024), 2 * (fi % 1024), none⟩ (.int .u32 k)).setCell ⟨B (fi / 1024), 2 * (fi % 1024) + 1, none⟩ (.int .i32 (v + 1))) T (Plain.wr m k v) C cap B S K' V' := by
  have hc : (Plain.wr m k v).1.length = n + 1 := by rw [Plain.rep_count hr hf, hn]; rfl
  exact ⟨_, _, by rw [hc]; exact (ht.setTaken (n + 1)).setSlot hf.1 k (v + 1), Plain.rep_put hr hf v0, h16, by omega, hs⟩
theorem below_slot {W : World} {T : Nat} {C cap : Nat} {B : Nat → Nat} {S n : Nat} {K V : Nat → Int} {fi : Nat} {w0 W' : World} (ht : TabAt W T C cap B S n K V) (hfi : fi < S) (hb : Below T w0 W') (x y : Value) :
    Below T w0 ((W'.setCell ⟨B (fi / 1024), 2 * (fi % 1024), none⟩ x).setCell ⟨B (fi / 1024), 2 * (fi % 1024) + 1, none⟩ y) := by
  have hT := ht.TB _ (chunk_of hfi).1
  exact (hb.setCell (p := ⟨B (fi / 1024), _, none⟩) (Nat.le_of_lt hT) _).setCell (p := ⟨B (fi / 1024), _, none⟩) (Nat.le_of_lt hT) _
/-- The keys of the taken slots are keys of the model. -/
theorem keys_in {S : Nat} {K V : Nat → Int} {m : List Int × List Int} (hr : Plain.Rep (home S) S K V m) (hk : ∀ x ∈ m.1, 0 ≤ x ∧ x ≤ 4294967295) : ∀ i, i < S → V i ≠ 0 → 0 ≤ K i ∧ K i ≤ 4294967295 := by
  intro i hi t
  obtain ⟨x, hx, e, _⟩ := (hr.has (K i) (V i)).1 ⟨i, hi, t, rfl, rfl⟩
  rw [← e]
  exact hk _ (Plain.getD_mem hx)

set_option maxRecDepth 100000 in
set_option maxHeartbeats 400000 in
theorem put_room {w : World} {T : Nat} {m : List Int × List Int} {C cap : Nat} {B : Nat → Nat} {S : Nat} {K V : Nat → Int} (h : Full w T m C cap B S K V) (k v : Int) (k0 : 0 ≤ k) (k1 : k ≤ 4294967295) (v0 : 0 ≤ v) (v1 : v ≤ 2147483646) (hroom : 4 * (m.1.length + 1) ≤ 3 * S) :
    Calls Try.prog 6 #[.pointer (some ⟨T, 0, none⟩), .int .u32 k, .int .i32 v] w fun e w' => e = .returned (.tuple #[]) ∧ (∃ K' V', Full w' T (Plain.wr m k v) C cap B S K' V') ∧ Below T w w' := by
  have c1 := h.tab.c1
  have c2 := h.tab.c2
  have h16 := h.h16
  have hs := h.hs
  have HF : Hid (∃ i, i < S ∧ V i = 0) := Plain.rep_free h.rep (by omega)
  have HR : Hid (Plain.Rep (home S) S K V m) := h.rep
  obtain ⟨n, hn⟩ : ∃ n, n = m.1.length := ⟨_, rfl⟩
  have HN : Hid (n = m.1.length) := hn
  have ht := h.tab
  rw [← hn] at c2 hroom ht
  have hnb : n ≤ 10000 := by omega
  clear hn h
  have hd : decide ((3 : Int) * (S : Int) < 4 * ((n : Int) + 1)) = false := by simp; omega
  go_enter Try.func6, Try.ntmps6
  go_wp2_with fail
  go_quiet (fail)
  have hTD : TabAt (w.drewN nq) T C cap B S n K V := ht.of_blocks (fun _ _ _ => rfl) (Nat.le_refl _)
  have hB := below_drewN (Below.refl T w) nq
  go_wp2_with fail
  refine (find_any hTD k k0 k1 (by omega) (by omega) HF.out).mono ?_
  rintro e w2 ⟨fi, found, rfl, hfind, rfl⟩
  have hfi := hfind.1
  cases found
  · have hT2 : TabAt ((w.drewN nq).setCell ⟨T, 2, none⟩ (.int .i64 ((n : Int) + 1))) T _ _ _ _ (n + 1) _ _ := hTD.setTaken (n + 1)
    have HFU : Hid _ := full_new hTD HN.out HR.out (by omega) (by omega) hroom v0 hfind
    have HBE : Hid _ := below_slot hTD hfi (Below.setCell hB (p := ⟨T, 2, none⟩) (Nat.le_refl _) (.int .i64 ((n : Int) + 1))) (.int .u32 k) (.int .i32 (v + 1))
    have f2 := hTD.head.frozen 2
    have c2' := hTD.c2
    clear hfind
    go_wp2_with fail
    refine (slot_any hT2 fi hfi (by omega)).mono ?_
    rintro e w3 ⟨rfl, rfl⟩
    have hkc := hT2.key hfi
    have hvc := hT2.val hfi
    have hkf := (hT2.rows _ (chunk_of hfi).1).frozen (2 * (fi % 1024))
    have hvf := (hT2.rows _ (chunk_of hfi).1).frozen (2 * (fi % 1024) + 1)
    go_wp2
    go_end0
    exact ⟨rfl, HFU.out, HBE.out⟩
  · have HFU : Hid _ := full_found hTD HN.out HR.out (by omega) (by omega) hroom v0 hfind
    have HBE : Hid _ := below_slot hTD hfi hB (.int .u32 k) (.int .i32 (v + 1))
    clear hfind
    go_wp2_with fail
    refine (slot_any hTD fi hfi (by omega)).mono ?_
    rintro e w3 ⟨rfl, rfl⟩
    have hkc := hTD.key hfi
    have hvc := hTD.val hfi
    have hkf := (hTD.rows _ (chunk_of hfi).1).frozen (2 * (fi % 1024))
    have hvf := (hTD.rows _ (chunk_of hfi).1).frozen (2 * (fi % 1024) + 1)
    go_wp2
    go_end0
    exact ⟨rfl, HFU.out, HBE.out⟩

set_option maxRecDepth 100000 in
set_option maxHeartbeats 400000 in
theorem put_grow {w : World} {T : Nat} {m : List Int × List Int} {C cap : Nat} {B : Nat → Nat} {S : Nat} {K V : Nat → Int} (h : Full w T m C cap B S K V) (k v : Int) (k0 : 0 ≤ k) (k1 : k ≤ 4294967295) (v0 : 0 ≤ v) (v1 : v ≤ 2147483646) (hfull : 3 * S < 4 * (m.1.length + 1)) (hm : m.1.length ≤ 4095) (hk : ∀ x ∈ m.1, 0 ≤ x ∧ x ≤ 4294967295) :
    Calls Try.prog 6 #[.pointer (some ⟨T, 0, none⟩), .int .u32 k, .int .i32 v] w fun e w' => e = .returned (.tuple #[]) ∧ (∃ C' cap' B' S' K' V', Full w' T (Plain.wr m k v) C' cap' B' S' K' V') ∧ Below T w w' := by
  have c1 := h.tab.c1
  have c2 := h.tab.c2
  have h16 := h.h16
  have hs := h.hs
  have hload := h.load
  have HKI : Hid (∀ i, i < S → V i ≠ 0 → 0 ≤ K i ∧ K i ≤ 4294967295) := keys_in h.rep hk
  have HR0 : Hid (Plain.Rep (home S) S K V m) := h.rep
  obtain ⟨n, hn⟩ : ∃ n, n = m.1.length := ⟨_, rfl⟩
  have HN : Hid (n = m.1.length) := hn
  have ht := h.tab
  rw [← hn] at c2 hfull ht hm hload
  obtain ⟨S2, hS2⟩ : ∃ S2, S2 = S + S / 2 := ⟨_, rfl⟩
  have HS2 : Hid (S2 = S + S / 2) := hS2
  have hroom : 4 * (n + 1) ≤ 3 * S2 := by omega
  have hs2 : S2 ≤ 10000 := by omega
  have h162 : 16 ≤ S2 := by omega
  clear hn h hk hS2
  have hd : decide ((3 : Int) * (S : Int) < 4 * ((n : Int) + 1)) = true := by simp; omega
  go_enter Try.func6, Try.ntmps6
  go_wp2_with fail
  go_quiet (fail)
  have hTD0 : TabAt (w.drewN nq) T C cap B S n K V := ht.of_blocks (fun _ _ _ => rfl) (Nat.le_refl _)
  have hB0 := below_drewN (Below.refl T w) nq
  go_wp2_with fail
  refine (grow_any hTD0 HR0.out.wf HKI.out h16 hs S2 HS2.out).mono ?_
  rintro e wg ⟨rfl, K1, V1, hTG, hwf1, hhas1, hBg⟩
  obtain ⟨Cg, Bg, hTD⟩ : ∃ Cg Bg, TabAt wg T Cg (nch S2) Bg S2 n K1 V1 := ⟨_, _, hTG⟩
  clear hTG
  have HR : Hid (Plain.Rep (home S2) S2 K1 V1 m) := Plain.rep_same HR0.out hwf1 hhas1
  have HF : Hid (∃ i, i < S2 ∧ V1 i = 0) := Plain.rep_free HR.out (by rw [← HN.out]; omega)
  have hB : Below T w wg := hB0.trans hBg
  clear hTD0 hB0 hwf1 hhas1 hBg c1 c2 hd
  go_wp2_with fail
  refine (find_any hTD k k0 k1 (by omega) (by omega) HF.out).mono ?_
  rintro e w2 ⟨fi, found, rfl, hfind, rfl⟩
  have hfi := hfind.1
  cases found
  · have hT2 : TabAt ((wg).setCell ⟨T, 2, none⟩ (.int .i64 ((n : Int) + 1))) T _ _ _ _ (n + 1) _ _ := hTD.setTaken (n + 1)
    have HFU : Hid _ := full_new hTD HN.out HR.out (by omega) (by omega) hroom v0 hfind
    have HBE : Hid _ := below_slot hTD hfi (Below.setCell hB (p := ⟨T, 2, none⟩) (Nat.le_refl _) (.int .i64 ((n : Int) + 1))) (.int .u32 k) (.int .i32 (v + 1))
    have f2 := hTD.head.frozen 2
    have c2' := hTD.c2
    clear hfind
    go_wp2_with fail
    refine (slot_any hT2 fi hfi (by omega)).mono ?_
    rintro e w3 ⟨rfl, rfl⟩
    have hkc := hT2.key hfi
    have hvc := hT2.val hfi
    have hkf := (hT2.rows _ (chunk_of hfi).1).frozen (2 * (fi % 1024))
    have hvf := (hT2.rows _ (chunk_of hfi).1).frozen (2 * (fi % 1024) + 1)
    go_wp2
    go_end0
    exact ⟨rfl, ⟨_, _, _, _, HFU.out⟩, HBE.out⟩
  · have HFU : Hid _ := full_found hTD HN.out HR.out (by omega) (by omega) hroom v0 hfind
    have HBE : Hid _ := below_slot hTD hfi hB (.int .u32 k) (.int .i32 (v + 1))
    clear hfind
    go_wp2_with fail
    refine (slot_any hTD fi hfi (by omega)).mono ?_
    rintro e w3 ⟨rfl, rfl⟩
    have hkc := hTD.key hfi
    have hvc := hTD.val hfi
    have hkf := (hTD.rows _ (chunk_of hfi).1).frozen (2 * (fi % 1024))
    have hvf := (hTD.rows _ (chunk_of hfi).1).frozen (2 * (fi % 1024) + 1)
    go_wp2
    go_end0
    exact ⟨rfl, ⟨_, _, _, _, HFU.out⟩, HBE.out⟩

set_option maxRecDepth 100000 in
set_option maxHeartbeats 400000 in
theorem put_zero {w : World} {T : Nat} (hT : w.rowIs T 27 3 (headF (.slice none 0 0) 0 0)) (k v : Int) (k0 : 0 ≤ k) (k1 : k ≤ 4294967295) (v0 : 0 ≤ v) (v1 : v ≤ 2147483646) :
    Calls Try.prog 6 #[.pointer (some ⟨T, 0, none⟩), .int .u32 k, .int .i32 v] w fun e w' => e = .returned (.tuple #[]) ∧ (∃ C' cap' B' S' K' V', Full w' T (Plain.wr ([], []) k v) C' cap' B' S' K' V') ∧ Below T w w' := by
  have c1 : w.cell? ⟨T, 1, none⟩ = some (.int .i64 0) := hT.cell (i := 1) (by omega)
  have c2 : w.cell? ⟨T, 2, none⟩ = some (.int .i64 0) := hT.cell (i := 2) (by omega)
  obtain ⟨n, hn⟩ : ∃ n, n = (([], []) : List Int × List Int).1.length := ⟨_, rfl⟩
  have HN : Hid (n = (([], []) : List Int × List Int).1.length) := hn
  have hn0 : n = 0 := hn
  have hroom : 4 * (n + 1) ≤ 3 * 16 := by omega
  have hnb : n ≤ 10 := by omega
  have HZ : Hid (n = 0) := hn0
  clear hn hn0
  go_enter Try.func6, Try.ntmps6
  go_wp2_with fail
  go_quiet (fail)
  have hT0 : (w.drewN nq).rowIs T 27 3 (headF (.slice none 0 0) 0 n) := by rw [HZ.out]; exact hT
  have hB0 := below_drewN (Below.refl T w) nq
  go_wp2_with fail
  refine (grow_zero _ T n hT0).mono ?_
  rintro e wg ⟨rfl, hTG, hBg⟩
  obtain ⟨Cg, capg, Bg, K1, V1, hTD, hR, hF⟩ : ∃ Cg capg Bg K1 V1, TabAt wg T Cg capg Bg 16 n K1 V1 ∧ Plain.Rep (home 16) 16 K1 V1 ([], []) ∧ ∃ i, i < 16 ∧ V1 i = 0 := ⟨_, _, _, _, _, hTG, Plain.rep_empty _ _ _, ⟨0, by omega, rfl⟩⟩
  have HR : Hid _ := hR
  have HF : Hid _ := hF
  clear hTG hR hF
  have hB : Below T w wg := hB0.trans hBg
  clear hT0 hB0 hBg c1 c2 hT
  go_wp2_with fail
  refine (find_any hTD k k0 k1 (by omega) (by omega) HF.out).mono ?_
  rintro e w2 ⟨fi, found, rfl, hfind, rfl⟩
  have hfi := hfind.1
  cases found
  · have hT2 : TabAt ((wg).setCell ⟨T, 2, none⟩ (.int .i64 ((n : Int) + 1))) T _ _ _ _ (n + 1) _ _ := hTD.setTaken (n + 1)
    have HFU : Hid _ := full_new hTD HN.out HR.out (by omega) (by omega) hroom v0 hfind
    have HBE : Hid _ := below_slot hTD hfi (Below.setCell hB (p := ⟨T, 2, none⟩) (Nat.le_refl _) (.int .i64 ((n : Int) + 1))) (.int .u32 k) (.int .i32 (v + 1))
    have f2 := hTD.head.frozen 2
    have c2' := hTD.c2
    clear hfind
    go_wp2_with fail
    refine (slot_any hT2 fi hfi (by omega)).mono ?_
    rintro e w3 ⟨rfl, rfl⟩
    have hkc := hT2.key hfi
    have hvc := hT2.val hfi
    have hkf := (hT2.rows _ (chunk_of hfi).1).frozen (2 * (fi % 1024))
    have hvf := (hT2.rows _ (chunk_of hfi).1).frozen (2 * (fi % 1024) + 1)
    go_wp2
    go_end0
    exact ⟨rfl, ⟨_, _, _, _, HFU.out⟩, HBE.out⟩
  · have HFU : Hid _ := full_found hTD HN.out HR.out (by omega) (by omega) hroom v0 hfind
    have HBE : Hid _ := below_slot hTD hfi hB (.int .u32 k) (.int .i32 (v + 1))
    clear hfind
    go_wp2_with fail
    refine (slot_any hTD fi hfi (by omega)).mono ?_
    rintro e w3 ⟨rfl, rfl⟩
    have hkc := hTD.key hfi
    have hvc := hTD.val hfi
    have hkf := (hTD.rows _ (chunk_of hfi).1).frozen (2 * (fi % 1024))
    have hvf := (hTD.rows _ (chunk_of hfi).1).frozen (2 * (fi % 1024) + 1)
    go_wp2
    go_end0
    exact ⟨rfl, ⟨_, _, _, _, HFU.out⟩, HBE.out⟩

/-- A table, zero or not, that holds the model m. -/
def Tbl (w : World) (T : Nat) (m : List Int × List Int) : Prop := (m = ([], []) ∧ w.rowIs T 27 3 (headF (.slice none 0 0) 0 0)) ∨ ∃ C cap B S K V, Full w T m C cap B S K V

theorem put_any {w : World} {T : Nat} {m : List Int × List Int} (h : Tbl w T m) (k v : Int) (k0 : 0 ≤ k) (k1 : k ≤ 4294967295) (v0 : 0 ≤ v) (v1 : v ≤ 2147483646) (hm : m.1.length ≤ 4095) (hk : ∀ x ∈ m.1, 0 ≤ x ∧ x ≤ 4294967295) :
    Calls Try.prog 6 #[.pointer (some ⟨T, 0, none⟩), .int .u32 k, .int .i32 v] w fun e w' => e = .returned (.tuple #[]) ∧ Tbl w' T (Plain.wr m k v) ∧ Below T w w' := by
  rcases h with ⟨rfl, h⟩ | ⟨C, cap, B, S, K, V, h⟩
  · exact (put_zero h k v k0 k1 v0 v1).mono fun e w' ⟨a, b, c⟩ => ⟨a, Or.inr b, c⟩
  · by_cases hr : 4 * (m.1.length + 1) ≤ 3 * S
    · exact (put_room h k v k0 k1 v0 v1 hr).mono fun e w' ⟨a, ⟨K', V', b⟩, c⟩ => ⟨a, Or.inr ⟨C, cap, B, S, K', V', b⟩, c⟩
    · exact (put_grow h k v k0 k1 v0 v1 (by omega) hm hk).mono fun e w' ⟨a, b, c⟩ => ⟨a, Or.inr b, c⟩
theorem Tbl.below {w w' : World} {T : Nat} {m : List Int × List Int} (h : Tbl w T m) (hb : Below w.heap.size w w') : Tbl w' T m := by
  rcases h with ⟨rfl, h⟩ | ⟨C, cap, B, S, K, V, h⟩
  · exact Or.inl ⟨rfl, h.of_block (hb.block T h.lt)⟩
  · exact Or.inr ⟨C, cap, B, S, K, V, h.tab.below hb, h.rep, h.h16, h.load, h.hs⟩
end Go.Proofs.Qxb6628294a
