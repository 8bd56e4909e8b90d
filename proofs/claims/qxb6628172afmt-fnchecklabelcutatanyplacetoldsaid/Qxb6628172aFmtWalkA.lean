/-
  DERIVED. The contract of CheckLabel: nil exactly where the plain function says so; else a new error.
-/
import Derived.Test.Qxb6628172aFmtFacts
import Derived.Test.Qxb6628172aFmtPlain
import Derived.WalkKit
import Derived.WalkSpells
import Derived.WalkLawsBesides
import Derived.Lib.ConvBytes
import Derived.Lib.RabinKarpLaws
namespace Go.Proofs.Qxb6628172aFmt
open Go.RowKit Go.Extern.Stop Go.Stop Go.Extern

attribute [local go_sem] Tryf.call7 Tryf.guard Tryf.fmt0 Tryf.fmt0r Tryf.fmt0z Tryf.fmt0zr Tryf.fmt1 Tryf.fmt1r Tryf.fmt1z Tryf.fmt1zr Tryf.fmt2 Tryf.fmt2r Tryf.fmt2z Tryf.fmt2zr Tryf.op9_118 Tryf.op3_118 Tryf.op5_118 Tryf.op9_118w Tryf.op3_118w Tryf.op5_118w Tryf.op9_113 Tryf.op3_113 Tryf.op5_113 Tryf.op9_113w Tryf.op3_113w Tryf.op5_113w Tryf.op9_100 Tryf.op3_100 Tryf.op5_100 Tryf.op9_100w Tryf.op3_100w Tryf.op5_100w Tryf.strict9 Tryf.strict3 Tryf.strict5 Tryf.ptr30 Tryf.elem30 Tryf.isError30 Tryf.ptr29 Tryf.elem29 Tryf.isError29

/-- CheckLabel gives nil, of a string. -/
def clS (s : ByteArray) : Bool := Plain.cl s.data.toList

theorem head_at (s : ByteArray) (h1 : 1 ≤ s.size) : s.data.toList.head? = some s[0] := by
  have h := Go.Proofs.byte_at s 0 (by omega)
  generalize s.data.toList = l at *
  cases l with
  | nil => simp at h
  | cons a r => simpa using h
theorem head_no (s : ByteArray) (h1 : 1 ≤ s.size) (hd : ((s[0].toNat : Int) == 45) = false) : (s.data.toList.head? == some 45) = false := by
  rw [head_at s h1]
  rw [beq_eq_false_iff_ne] at hd ⊢
  intro e
  apply hd
  have : s[0] = 45 := Option.some.inj e
  rw [this]
  rfl
theorem head_yes (s : ByteArray) (h1 : 1 ≤ s.size) (hd : ((s[0].toNat : Int) == 45) = true) : s.data.toList.head? = some 45 := by
  rw [head_at s h1]
  have h : (s[0].toNat : Int) = 45 := by simpa using hd
  congr 1
  apply UInt8.toNat_inj.1
  have e : (45 : UInt8).toNat = 45 := rfl
  rw [e]
  omega
theorem take_snoc (s : ByteArray) (k : Nat) (h : k < s.size) : s.data.toList.take (k + 1) = s.data.toList.take k ++ [s[k]] := by
  rw [List.take_succ_eq_append_getElem (by simpa using h)]; rfl
theorem byte_getD (s : ByteArray) (k : Nat) (h : k < s.size) : s.data.toList.getD k 0 = s[k] := by
  rw [List.getD_eq_getElem?_getD, Go.Proofs.byte_at s k h]; rfl
theorem all_step (s : ByteArray) (k : Nat) (h : k < s.size) (ha : (s.data.toList.take k).all Plain.ch = true) (hp : Plain.chI ((s.data.toList.getD k 0).toNat : Int) = true) :
    (s.data.toList.take (k + 1)).all Plain.ch = true := by
  rw [byte_getD s k h] at hp
  rw [take_snoc s k h, List.all_append, ha]
  simp [Plain.ch, hp]
theorem all_stop (s : ByteArray) (k : Nat) (h : k < s.size) (hp : Plain.chI ((s.data.toList.getD k 0).toNat : Int) = false) : clS s = false := by
  rw [byte_getD s k h] at hp
  have : s.data.toList.all Plain.ch = false := by
    rw [List.all_eq_false]
    refine ⟨s[k], ?_, by simp [Plain.ch, hp]⟩
    have := Go.Proofs.byte_at s k h
    exact List.mem_of_getElem? this
  unfold clS Plain.cl
  rw [this, Bool.and_false]
theorem all_end (s : ByteArray) (h1 : 1 ≤ s.size) (h63 : s.size ≤ 63) (hd : ((s[0].toNat : Int) == 45) = false) (k : Nat) (h : s.size ≤ k) (ha : (s.data.toList.take k).all Plain.ch = true) : clS s = true := by
  rw [List.take_of_length_le (by simpa using h)] at ha
  have hl : s.data.toList.length = s.size := by simp
  unfold clS
  rw [Plain.cl_mid _ (by omega) (by omega) (head_no s h1 hd), ha]

theorem bytes_below (w : World) (s : ByteArray) : Below w.heap.size w (Lib.bytesWorld w 5 s) := by
  refine ⟨?_, ?_, ?_, ?_, fun k hk => Lib.bytesWorld_at_old w 5 s k hk⟩
  · unfold Lib.bytesWorld World.freeze; split <;> rfl
  · unfold Lib.bytesWorld World.freeze; split <;> rfl
  · unfold Lib.bytesWorld World.freeze; split <;> rfl
  · rw [Lib.bytesWorld_size]; omega

set_option maxHeartbeats 400000 in
theorem chk_empty (F : Interp) (s : ByteArray) (w : World) (hF : F.answers w.tape) (hs : s.size = 0) :
    Calls Tryf.prog 5 #[.string s] w fun e w' => (∃ a, e = .returned (.iface 30 (.pointer (some a)))) ∧ Below w.heap.size w w' := by
  have hF' := answers_open hF
  go_enter Tryf.func5, Tryf.ntmps5
  go_wp2
  go_ret
  exact ⟨⟨_, rfl⟩, (((Below.refl _ _).alloc (Nat.le_refl _) _).alloc (by simp) _).drew⟩

set_option maxHeartbeats 400000 in
theorem chk_long (F : Interp) (s : ByteArray) (w : World) (hF : F.answers w.tape) (hm : s.size ≤ 4194304) (hs : 63 < s.size) :
    Calls Tryf.prog 5 #[.string s] w fun e w' => (∃ a, e = .returned (.iface 30 (.pointer (some a)))) ∧ Below w.heap.size w w' := by
  have hF' := answers_open hF
  have h0 : ((s.size : Int) == 0) = false := beq_eq_false_iff_ne.2 (by omega)
  go_enter Tryf.func5, Tryf.ntmps5
  go_wp2
  go_ret
  exact ⟨⟨_, rfl⟩, (((Below.refl _ _).alloc (Nat.le_refl _) _).alloc (by simp) _).drew⟩

set_option maxHeartbeats 400000 in
theorem chk_dash (F : Interp) (s : ByteArray) (w : World) (hF : F.answers w.tape) (h1 : 1 ≤ s.size) (h63 : s.size ≤ 63) (hd : ((s[0].toNat : Int) == 45) = true) :
    Calls Tryf.prog 5 #[.string s] w fun e w' => (∃ a, e = .returned (.iface 30 (.pointer (some a)))) ∧ Below w.heap.size w w' := by
  have hF' := answers_open hF
  have h0 : ((s.size : Int) == 0) = false := beq_eq_false_iff_ne.2 (by omega)
  have q0 : 0 < s.size := by omega
  go_enter Tryf.func5, Tryf.ntmps5
  go_wp2
  go_ret
  exact ⟨⟨_, rfl⟩, (((Below.refl _ _).alloc (Nat.le_refl _) _).alloc (by simp) _).drew⟩

set_option maxHeartbeats 800000 in
theorem chk_body (F : Interp) (s : ByteArray) (w : World) (hF : F.answers w.tape) (h1 : 1 ≤ s.size) (h63 : s.size ≤ 63) (hd : ((s[0].toNat : Int) == 45) = false) :
    Calls Tryf.prog 5 #[.string s] w fun e w' => (e = .returned .nilIface ∧ clS s = true ∨ (∃ a, e = .returned (.iface 30 (.pointer (some a)))) ∧ clS s = false) ∧ Below w.heap.size w w' := by
  have h0 : ((s.size : Int) == 0) = false := beq_eq_false_iff_ne.2 (by omega)
  have hlong : decide ((63 : Int) < (s.size : Int)) = false := by simp; omega
  have q0 : 0 < s.size := by omega
  have hcv := Lib.run_convert_string_bytes (P := Tryf.prog) w 9 27 5 s Tryf.underlying9 Tryf.underlying27 Tryf.underlying5
  have hbw := bytes_below w s
  have hcl := Lib.bytesWorld_cell w 5 s
  have hsz := Lib.bytesWorld_size w 5 s
  generalize Lib.bytesWorld w 5 s = wb at *
  generalize grownCap w s.size 0 5 = cap at *
  have hFb := answers_open (show F.answers wb.tape by rw [hbw.tape]; exact hF)
  have HCL : Hid (∀ j, j < s.size → wb.cell? ⟨w.heap.size, j, none⟩ = some (.int .u8 ((s.data.toList.getD j 0).toNat : Int))) := hcl
  have HSZ : Hid (wb.heap.size = w.heap.size + 1) := hsz
  clear hcl hsz
  go_enter Tryf.func5, Tryf.ntmps5
  go_wp2
  clear hcv
  go_loop [31] (fun i => ∃ k : Nat, k ≤ s.size ∧ i = .int .i64 k ∧ (s.data.toList.take k).all Plain.ch = true) (fun i => s.size - (intOf i).toNat)
  case atStart => exact ⟨0, by omega, rfl, by simp⟩
  case round =>
    obtain ⟨k, hk, rfl, hall⟩ := hrel
    have HA : Hid ((s.data.toList.take k).all Plain.ch = true) := hall
    clear hall
    by_cases hlt : k < s.size
    · have hc := HCL.out k hlt
      have HS := all_step s k hlt HA.out
      have HT := all_stop s k hlt
      generalize ((s.data.toList.getD k 0).toNat : Int) = c at *
      have ways : (97 ≤ c ∧ c ≤ 122 ∨ 48 ≤ c ∧ c ≤ 57 ∨ c = 45) ∨ (c < 48 ∧ c ≠ 45 ∨ 57 < c ∧ c < 97 ∨ 122 < c) := by omega
      rcases ways with hgood | hbad
      · have HN : Hid ((s.data.toList.take (k + 1)).all Plain.ch = true) := HS (by simp [Plain.chI]; omega)
        clear HS HT HCL
        rcases hgood with ⟨g1, g2⟩ | ⟨g1, g2⟩ | rfl
        all_goals
          go_wp2
          go_round
          case rel => exact ⟨k + 1, by omega, by go_num, HN.out⟩
          case measure => simp [intOf]; omega
      · have HN : Hid (clS s = false) := HT (by simp [Plain.chI]; omega)
        clear HS HT HCL
        rcases hbad with ⟨g1, g2⟩ | ⟨g1, g2⟩ | g1
        · have g3 : (c != 45) = true := by simpa using g2
          go_wp2
          go_ret
          exact ⟨Or.inr ⟨⟨_, rfl⟩, HN.out⟩, ((hbw.alloc hbw.size _).alloc (by simp; have := hbw.size; omega) _).drew⟩
        all_goals
          have g3 : (c != 45) = true := by simp; omega
          go_wp2
          go_ret
          exact ⟨Or.inr ⟨⟨_, rfl⟩, HN.out⟩, ((hbw.alloc hbw.size _).alloc (by simp; have := hbw.size; omega) _).drew⟩
    · have HN : Hid (clS s = true) := all_end s h1 h63 hd k (by omega) HA.out
      go_wp2
      go_ret
      exact ⟨Or.inl ⟨rfl, HN.out⟩, hbw⟩
end Go.Proofs.Qxb6628172aFmt
