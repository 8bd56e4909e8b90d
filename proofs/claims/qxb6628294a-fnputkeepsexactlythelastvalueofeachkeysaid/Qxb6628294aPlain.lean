/-
  DERIVED. The theory of a table with linear probing: no Go in sight.
  S: the number of slots. K, V: what each slot holds: a key and a value plus one (0: the slot is free). home: any function that gives a key its first slot.
-/
namespace Go.Proofs.Qxb6628294a.Plain

/-- The j-th slot that is looked at for a key whose first slot is h. -/
def pr (S h j : Nat) : Nat := (h + j) % S

theorem pr_lt {S : Nat} (hS : 0 < S) (h j : Nat) : pr S h j < S := Nat.mod_lt _ hS
theorem pr_zero {S h : Nat} (hh : h < S) : pr S h 0 = h := Nat.mod_eq_of_lt (by omega)
theorem pr_case {S h j : Nat} (hh : h < S) (hj : j < S) : (h + j < S ∧ pr S h j = h + j) ∨ (S ≤ h + j ∧ pr S h j = h + j - S) := by
  unfold pr
  rcases Nat.lt_or_ge (h + j) S with e | e
  · exact Or.inl ⟨e, Nat.mod_eq_of_lt e⟩
  · refine Or.inr ⟨e, ?_⟩
    rw [Nat.mod_eq_sub_mod e, Nat.mod_eq_of_lt (by omega)]
/-- The step from one slot to the next. -/
theorem pr_succ {S h j : Nat} (hh : h < S) (hj : j + 1 < S) : (pr S h j + 1 = S ∧ pr S h (j + 1) = 0) ∨ (pr S h j + 1 < S ∧ pr S h (j + 1) = pr S h j + 1) := by
  have h1 := pr_case hh (show j < S by omega)
  have h2 := pr_case hh hj
  omega
/-- How far a slot lies from h. -/
def dist (S h i : Nat) : Nat := if h ≤ i then i - h else i + S - h
theorem dist_pr {S h j : Nat} (hh : h < S) (hj : j < S) : dist S h (pr S h j) = j := by
  unfold dist
  have := pr_case hh hj
  split <;> omega
theorem pr_dist {S h i : Nat} (hh : h < S) (hi : i < S) : pr S h (dist S h i) = i ∧ dist S h i < S := by
  have hd : dist S h i < S := by unfold dist; split <;> omega
  refine ⟨?_, hd⟩
  have hc := pr_case hh hd
  by_cases e : h ≤ i
  · have e2 : dist S h i = i - h := if_pos e
    omega
  · have e2 : dist S h i = i + S - h := if_neg e
    omega

section
variable (home : Int → Nat) (S : Nat) (K V : Nat → Int)

/-- Where a key would be met: at its j-th place, none of the earlier places free or holding it. -/
def At (k : Int) (i j : Nat) : Prop := j < S ∧ i = pr S (home k) j ∧ ∀ j', j' < j → V (pr S (home k) j') ≠ 0 ∧ K (pr S (home k) j') ≠ k
/-- Each taken slot is where its key is met. -/
def WF : Prop := ∀ i, i < S → V i ≠ 0 → ∃ j, At home S K V (K i) i j
/-- What find answers. -/
def FindIs (k : Int) (i : Nat) (found : Bool) : Prop := i < S ∧ (∃ j, At home S K V k i j) ∧ ((found = false ∧ V i = 0) ∨ (found = true ∧ V i ≠ 0 ∧ K i = k))
/-- The table holds v under k. -/
def Has (k v : Int) : Prop := ∃ i, i < S ∧ V i ≠ 0 ∧ K i = k ∧ V i = v

variable {home S K V}

theorem At.same {k : Int} {i1 i2 j1 j2 : Nat} (h1 : At home S K V k i1 j1) (h2 : At home S K V k i2 j2) (s1 : V i1 = 0 ∨ K i1 = k) (s2 : V i2 = 0 ∨ K i2 = k) : i1 = i2 := by
  obtain ⟨_, e1, a1⟩ := h1
  obtain ⟨_, e2, a2⟩ := h2
  rcases Nat.lt_trichotomy j1 j2 with h | h | h
  · have := a2 j1 h
    rw [← e1] at this
    rcases s1 with s | s
    · exact absurd s this.1
    · exact absurd s this.2
  · rw [e1, e2, h]
  · have := a1 j2 h
    rw [← e2] at this
    rcases s2 with s | s
    · exact absurd s this.1
    · exact absurd s this.2

theorem WF.uniq (h : WF home S K V) {i1 i2 : Nat} (l1 : i1 < S) (l2 : i2 < S) (t1 : V i1 ≠ 0) (t2 : V i2 ≠ 0) (e : K i1 = K i2) : i1 = i2 := by
  obtain ⟨j1, a1⟩ := h i1 l1 t1
  obtain ⟨j2, a2⟩ := h i2 l2 t2
  rw [← e] at a2
  exact At.same a1 a2 (Or.inr rfl) (Or.inr e.symm)

/-- Not found: no taken slot holds the key. -/
theorem find_no (h : WF home S K V) {k : Int} {i : Nat} (hf : FindIs home S K V k i false) : ∀ i', i' < S → V i' ≠ 0 → K i' ≠ k := by
  intro i' l' t' e
  obtain ⟨l, ⟨j, a⟩, r⟩ := hf
  rcases r with ⟨_, r⟩ | ⟨r, _⟩
  · obtain ⟨j', a'⟩ := h i' l' t'
    rw [e] at a'
    have := At.same a a' (Or.inl r) (Or.inr e)
    subst this
    exact t' r
  · cases r
theorem find_yes {k : Int} {i : Nat} (hf : FindIs home S K V k i true) : i < S ∧ V i ≠ 0 ∧ K i = k := by
  obtain ⟨l, _, r⟩ := hf
  rcases r with ⟨r, _⟩ | ⟨_, r⟩
  · cases r
  · exact ⟨l, r⟩
theorem find_free {k : Int} {i : Nat} (hf : FindIs home S K V k i false) : i < S ∧ V i = 0 := by
  obtain ⟨l, _, r⟩ := hf
  rcases r with ⟨_, r⟩ | ⟨r, _⟩
  · exact ⟨l, r⟩
  · cases r

def upd (f : Nat → Int) (i : Nat) (x : Int) : Nat → Int := fun j => if j = i then x else f j
theorem upd_at (f : Nat → Int) (i : Nat) (x : Int) : upd f i x i = x := if_pos rfl
theorem upd_ne (f : Nat → Int) {i j : Nat} (x : Int) (h : j ≠ i) : upd f i x j = f j := if_neg h

/-- A slot that find gave is filled: the table stays well formed. -/
theorem put_wf (h : WF home S K V) {k v : Int} {i : Nat} {found : Bool} (hf : FindIs home S K V k i found) (hv : v ≠ 0) : WF home S (upd K i k) (upd V i v) := by
  obtain ⟨l, ⟨j, a⟩, r⟩ := hf
  have hkey : V i ≠ 0 → K i = k := by
    intro t
    rcases r with ⟨_, r⟩ | ⟨_, _, r⟩
    · exact absurd r t
    · exact r
  -- a slot that was taken keeps its key
  have keep : ∀ i', V i' ≠ 0 → upd V i v i' ≠ 0 ∧ upd K i k i' = K i' := by
    intro i' t'
    by_cases e : i' = i
    · subst e
      rw [upd_at, upd_at]
      exact ⟨hv, (hkey t').symm⟩
    · rw [upd_ne _ _ e, upd_ne _ _ e]
      exact ⟨t', rfl⟩
  intro i2 l2 t2
  by_cases e : i2 = i
  · subst e
    rw [upd_at]
    refine ⟨j, a.1, a.2.1, fun j' hj' => ?_⟩
    have := a.2.2 j' hj'
    have k' := keep _ this.1
    rw [k'.2]
    exact ⟨k'.1, this.2⟩
  · rw [upd_ne _ _ e] at t2
    rw [upd_ne _ _ e]
    obtain ⟨j2, b1, b2, b3⟩ := h i2 l2 t2
    refine ⟨j2, b1, b2, fun j' hj' => ?_⟩
    have := b3 j' hj'
    have k' := keep _ this.1
    rw [k'.2]
    exact ⟨k'.1, this.2⟩

/-- What the table holds behind a put. -/
theorem put_has (h : WF home S K V) {k v : Int} {i : Nat} {found : Bool} (hf : FindIs home S K V k i found) (hv : v ≠ 0) (k1 v1 : Int) :
    Has S (upd K i k) (upd V i v) k1 v1 ↔ (k1 = k ∧ v1 = v) ∨ (k1 ≠ k ∧ Has S K V k1 v1) := by
  have l := hf.1
  have hother : ∀ i1, i1 < S → V i1 ≠ 0 → i1 ≠ i → K i1 ≠ k := by
    intro i1 l1 t1 e1 e2
    cases found with
    | false => exact find_no h hf i1 l1 t1 e2
    | true =>
      obtain ⟨_, t, e⟩ := find_yes hf
      exact e1 (h.uniq l1 l t1 t (e2.trans e.symm))
  have hkey : V i ≠ 0 → K i = k := by
    intro t
    cases found with
    | false => exact absurd (find_free hf).2 t
    | true => exact (find_yes hf).2.2
  constructor
  · rintro ⟨i1, l1, t1, e1, e2⟩
    by_cases e : i1 = i
    · subst e
      rw [upd_at] at e1 e2
      exact Or.inl ⟨e1.symm, e2.symm⟩
    · rw [upd_ne _ _ e] at e1 e2 t1
      exact Or.inr ⟨by rw [← e1]; exact hother i1 l1 t1 e, i1, l1, t1, e1, e2⟩
  · rintro (⟨rfl, rfl⟩ | ⟨hne, i1, l1, t1, e1, e2⟩)
    · exact ⟨i, l, by rw [upd_at]; exact hv, upd_at _ _ _, upd_at _ _ _⟩
    · have e : i1 ≠ i := by
        rintro rfl
        exact hne (e1.symm.trans (hkey t1))
      exact ⟨i1, l1, by rw [upd_ne _ _ e]; exact t1, by rw [upd_ne _ _ e]; exact e1, by rw [upd_ne _ _ e]; exact e2⟩

/-- find: the first place that is free or holds the key. -/
theorem find_stop (hS : 0 < S) {k : Int} {j : Nat} (hj : j < S) (ha : ∀ j', j' < j → V (pr S (home k) j') ≠ 0 ∧ K (pr S (home k) j') ≠ k) (h0 : V (pr S (home k) j) = 0) : FindIs home S K V k (pr S (home k) j) false :=
  ⟨pr_lt hS _ _, ⟨j, hj, rfl, ha⟩, Or.inl ⟨rfl, h0⟩⟩
theorem find_hit (hS : 0 < S) {k : Int} {j : Nat} (hj : j < S) (ha : ∀ j', j' < j → V (pr S (home k) j') ≠ 0 ∧ K (pr S (home k) j') ≠ k) (h0 : V (pr S (home k) j) ≠ 0) (h1 : K (pr S (home k) j) = k) : FindIs home S K V k (pr S (home k) j) true :=
  ⟨pr_lt hS _ _, ⟨j, hj, rfl, ha⟩, Or.inr ⟨rfl, h0, h1⟩⟩
end

/-! ### Pigeons -/

theorem nodup_le : ∀ (l1 l2 : List Int), l1.Nodup → (∀ x ∈ l1, x ∈ l2) → l1.length ≤ l2.length
  | [], _, _, _ => Nat.zero_le _
  | a :: r, l2, hn, hs => by
    have ha : a ∈ l2 := hs a (by simp)
    have hn' := List.nodup_cons.1 hn
    have := nodup_le r (l2.erase a) hn'.2 (fun x hx => by
      have hne : x ≠ a := fun e => hn'.1 (by rw [← e]; exact hx)
      exact (List.mem_erase_of_ne hne).2 (hs x (by simp [hx])))
    rw [List.length_erase_of_mem ha] at this
    have hp : 0 < l2.length := List.length_pos_of_mem ha
    simp only [List.length_cons]
    omega
theorem map_nodup (f : Nat → Int) : ∀ (l : List Nat), l.Nodup → (∀ a ∈ l, ∀ b ∈ l, f a = f b → a = b) → (l.map f).Nodup
  | [], _, _ => List.nodup_nil
  | a :: r, hn, hi => by
    have hn' := List.nodup_cons.1 hn
    rw [List.map_cons, List.nodup_cons]
    refine ⟨fun hm => ?_, map_nodup f r hn'.2 (fun x hx y hy => hi x (by simp [hx]) y (by simp [hy]))⟩
    obtain ⟨b, hb, e⟩ := List.mem_map.1 hm
    have := hi b (by simp [hb]) a (by simp) e
    subst this
    exact hn'.1 hb

/-- Fewer keys than slots: a slot is free. -/
theorem free_slot {home : Int → Nat} {S : Nat} {K V : Nat → Int} (h : WF home S K V) (L : List Int) (hL : ∀ i, i < S → V i ≠ 0 → K i ∈ L) (hlt : L.length < S) : ∃ i, i < S ∧ V i = 0 := by
  by_cases hex : ∃ i, i < S ∧ V i = 0
  · exact hex
  · have hall : ∀ i, i < S → V i ≠ 0 := fun i l e => hex ⟨i, l, e⟩
    have hn : ((List.range S).map K).Nodup := map_nodup K _ List.nodup_range (fun a ha b hb e => h.uniq (List.mem_range.1 ha) (List.mem_range.1 hb) (hall _ (List.mem_range.1 ha)) (hall _ (List.mem_range.1 hb)) e)
    have := nodup_le _ L hn (fun x hx => by
      obtain ⟨i, hi, e⟩ := List.mem_map.1 hx
      rw [← e]
      exact hL i (List.mem_range.1 hi) (hall _ (List.mem_range.1 hi)))
    rw [List.length_map, List.length_range] at this
    omega

/-- So find stops within S places. -/
theorem stop_within {S : Nat} {K V : Nat → Int} {h : Nat} (hh : h < S) (k : Int) (hf : ∃ i, i < S ∧ V i = 0) : ∃ j, j < S ∧ (V (pr S h j) = 0 ∨ K (pr S h j) = k) := by
  obtain ⟨i, l, e⟩ := hf
  obtain ⟨d1, d2⟩ := pr_dist hh l
  exact ⟨dist S h i, d2, Or.inl (by rw [d1]; exact e)⟩

/-! ### The model: the distinct keys in order of first appearance, each with its last value -/

/-- The first index of k, or -1. -/
def idx : List Int → Int → Int
  | [], _ => -1
  | a :: r, k => if a = k then 0 else if idx r k = -1 then -1 else idx r k + 1

theorem idx_cases : ∀ (l : List Int) (k : Int), (idx l k = -1 ∧ k ∉ l) ∨ (∃ x : Nat, idx l k = (x : Int) ∧ x < l.length ∧ l.getD x 0 = k ∧ ∀ y, y < x → l.getD y 0 ≠ k)
  | [], k => Or.inl ⟨rfl, by simp⟩
  | a :: r, k => by
    unfold idx
    by_cases h : a = k
    · rw [if_pos h]
      exact Or.inr ⟨0, rfl, by simp, by simpa using h, fun y hy => by omega⟩
    · rw [if_neg h]
      rcases idx_cases r k with ⟨h1, h2⟩ | ⟨x, h1, h2, h3, h4⟩
      · rw [if_pos h1]
        exact Or.inl ⟨rfl, by simp [h2]; exact fun e => h e.symm⟩
      · rw [h1, if_neg (by omega)]
        refine Or.inr ⟨x + 1, by omega, by simp; omega, by simpa using h3, fun y hy => ?_⟩
        cases y with
        | zero => simpa using h
        | succ y => simpa using h4 y (by omega)

/-- One write into the model. -/
def wr (m : List Int × List Int) (k v : Int) : List Int × List Int :=
  if idx m.1 k < 0 then (m.1 ++ [k], m.2 ++ [v]) else (m.1, m.2.set (idx m.1 k).toNat v)

/-- The model behind the first n pairs. -/
def lw (ks vs : List Int) : Nat → List Int × List Int
  | 0 => ([], [])
  | n + 1 => wr (lw ks vs n) (ks.getD n 0) (vs.getD n 0)

/-- The table holds just the model. -/
structure Rep (home : Int → Nat) (S : Nat) (K V : Nat → Int) (m : List Int × List Int) : Prop where
  wf : WF home S K V
  nodup : m.1.Nodup
  len : m.2.length = m.1.length
  has : ∀ k v, Has S K V k v ↔ ∃ x, x < m.1.length ∧ m.1.getD x 0 = k ∧ m.2.getD x 0 + 1 = v

theorem getD_mem {l : List Int} {x : Nat} (h : x < l.length) : l.getD x 0 ∈ l := by
  rw [List.getD_eq_getElem?_getD, List.getElem?_eq_getElem h]
  exact List.getElem_mem h
theorem mem_getD {l : List Int} {k : Int} (h : k ∈ l) : ∃ x, x < l.length ∧ l.getD x 0 = k := by
  obtain ⟨x, hx, e⟩ := List.getElem_of_mem h
  exact ⟨x, hx, by rw [List.getD_eq_getElem?_getD, List.getElem?_eq_getElem hx]; exact e⟩
theorem nodup_getD {l : List Int} (h : l.Nodup) {x y : Nat} (hx : x < l.length) (hy : y < l.length) (e : l.getD x 0 = l.getD y 0) : x = y := by
  rw [List.getD_eq_getElem?_getD, List.getElem?_eq_getElem hx, List.getD_eq_getElem?_getD, List.getElem?_eq_getElem hy] at e
  have hp := List.pairwise_iff_getElem.1 h
  simp only [Option.getD_some] at e
  rcases Nat.lt_trichotomy x y with l | l | l
  · exact absurd e (hp x y hx hy l)
  · exact l
  · exact absurd e.symm (hp y x hy hx l)
theorem getD_left (l r : List Int) (d : Int) (x : Nat) (h : x < l.length) : (l ++ r).getD x d = l.getD x d := by
  rw [List.getD_eq_getElem?_getD, List.getElem?_append_left h, List.getD_eq_getElem?_getD]
theorem getD_right (l r : List Int) (d : Int) (x : Nat) (h : l.length ≤ x) : (l ++ r).getD x d = r.getD (x - l.length) d := by
  rw [List.getD_eq_getElem?_getD, List.getElem?_append_right h, List.getD_eq_getElem?_getD]

theorem wr_len (m : List Int × List Int) (k v : Int) (h : m.2.length = m.1.length) : (wr m k v).2.length = (wr m k v).1.length := by
  unfold wr
  split <;> simp [h]
theorem wr_nodup (m : List Int × List Int) (k v : Int) (h : m.1.Nodup) : (wr m k v).1.Nodup := by
  unfold wr
  split
  · rename_i hlt
    rcases idx_cases m.1 k with ⟨_, h2⟩ | ⟨x, h1, _⟩
    · show (m.1 ++ [k]).Nodup
      rw [List.nodup_append]
      refine ⟨h, by simp, ?_⟩
      intro a ha b hb e
      have : b = k := by simpa using hb
      rw [e, this] at ha
      exact h2 ha
    · omega
  · exact h
theorem lw_len (ks vs : List Int) : ∀ n, (lw ks vs n).2.length = (lw ks vs n).1.length
  | 0 => rfl
  | n + 1 => wr_len _ _ _ (lw_len ks vs n)
theorem lw_nodup (ks vs : List Int) : ∀ n, (lw ks vs n).1.Nodup
  | 0 => List.nodup_nil
  | n + 1 => wr_nodup _ _ _ (lw_nodup ks vs n)
theorem lw_le (ks vs : List Int) : ∀ n, (lw ks vs n).1.length ≤ n
  | 0 => Nat.le_refl _
  | n + 1 => by
    have := lw_le ks vs n
    show (wr _ _ _).1.length ≤ _
    unfold wr
    split
    · simp; omega
    · show (lw ks vs n).1.length ≤ _
      omega

/-- What one write does to the model, as a set of pairs. -/
theorem wr_pairs (m : List Int × List Int) (k v : Int) (hl : m.2.length = m.1.length) (hn : m.1.Nodup) (k1 v1 : Int) :
    (∃ x, x < (wr m k v).1.length ∧ (wr m k v).1.getD x 0 = k1 ∧ (wr m k v).2.getD x 0 + 1 = v1) ↔ (k1 = k ∧ v1 = v + 1) ∨ (k1 ≠ k ∧ ∃ x, x < m.1.length ∧ m.1.getD x 0 = k1 ∧ m.2.getD x 0 + 1 = v1) := by
  rcases idx_cases m.1 k with ⟨h1, h2⟩ | ⟨x0, h1, h2, h3, _⟩
  · have e : wr m k v = (m.1 ++ [k], m.2 ++ [v]) := by unfold wr; rw [if_pos (by omega)]
    rw [e]
    simp only [List.length_append, List.length_singleton]
    constructor
    · rintro ⟨x, hx, e1, e2⟩
      by_cases hlt : x < m.1.length
      · rw [getD_left _ _ _ _ hlt] at e1
        rw [getD_left _ _ _ _ (by omega)] at e2
        refine Or.inr ⟨fun ek => h2 ?_, x, hlt, e1, e2⟩
        rw [← ek, ← e1]; exact getD_mem hlt
      · have hx' : x = m.1.length := by omega
        subst hx'
        rw [getD_right _ _ _ _ (Nat.le_refl _)] at e1
        rw [getD_right _ _ _ _ (by omega), hl] at e2
        simp at e1 e2
        exact Or.inl ⟨e1.symm, e2.symm⟩
    · rintro (⟨rfl, rfl⟩ | ⟨hne, x, hx, e1, e2⟩)
      · refine ⟨m.1.length, by omega, ?_, ?_⟩
        · rw [getD_right _ _ _ _ (Nat.le_refl _)]; simp
        · rw [getD_right _ _ _ _ (by omega), hl]; simp
      · exact ⟨x, by omega, by rw [getD_left _ _ _ _ hx]; exact e1, by rw [getD_left _ _ _ _ (by omega)]; exact e2⟩
  · have e : wr m k v = (m.1, m.2.set x0 v) := by unfold wr; rw [if_neg (by omega), h1]; simp
    rw [e]
    have hset : ∀ x, x < m.1.length → (m.2.set x0 v).getD x 0 = if x = x0 then v else m.2.getD x 0 := by
      intro x hx
      rw [List.getD_eq_getElem?_getD, List.getElem?_set]
      by_cases ex : x = x0
      · subst ex; simp [hl, hx]
      · rw [if_neg (fun e => ex e.symm), if_neg ex, List.getD_eq_getElem?_getD]
    constructor
    · rintro ⟨x, hx, e1, e2⟩
      rw [hset x hx] at e2
      by_cases ex : x = x0
      · rw [if_pos ex] at e2
        rw [ex, h3] at e1
        exact Or.inl ⟨e1.symm, e2.symm⟩
      · rw [if_neg ex] at e2
        refine Or.inr ⟨fun ek => ex (nodup_getD hn hx h2 (by rw [e1, h3, ek])), x, hx, e1, e2⟩
    · rintro (⟨rfl, rfl⟩ | ⟨hne, x, hx, e1, e2⟩)
      · exact ⟨x0, h2, h3, by rw [hset x0 h2, if_pos rfl]⟩
      · have ex : x ≠ x0 := by rintro rfl; exact hne (e1.symm.trans h3)
        exact ⟨x, hx, e1, by rw [hset x hx, if_neg ex]; exact e2⟩

/-- A put into the table is a write into the model. -/
theorem rep_put {home : Int → Nat} {S : Nat} {K V : Nat → Int} {m : List Int × List Int} (h : Rep home S K V m) {k v : Int} {i : Nat} {found : Bool} (hf : FindIs home S K V k i found) (hv : 0 ≤ v) :
    Rep home S (upd K i k) (upd V i (v + 1)) (wr m k v) where
  wf := put_wf h.wf hf (by omega)
  nodup := wr_nodup m k v h.nodup
  len := wr_len m k v h.len
  has := by
    intro k1 v1
    rw [put_has h.wf hf (by omega), wr_pairs m k v h.len h.nodup, h.has]

/-- Found exactly where the model has the key. -/
theorem rep_found {home : Int → Nat} {S : Nat} {K V : Nat → Int} {m : List Int × List Int} (h : Rep home S K V m) {k : Int} {i : Nat} {found : Bool} (hf : FindIs home S K V k i found) : found = true ↔ k ∈ m.1 := by
  cases found with
  | false =>
    refine ⟨fun e => (by cases e), fun hk => ?_⟩
    obtain ⟨x, hx, e⟩ := mem_getD hk
    obtain ⟨i', l', t', e', _⟩ := (h.has k _).2 ⟨x, hx, e, rfl⟩
    exact absurd e' (find_no h.wf hf i' l' t')
  | true =>
    refine ⟨fun _ => ?_, fun _ => rfl⟩
    obtain ⟨l, t, e⟩ := find_yes hf
    obtain ⟨x, hx, e1, _⟩ := (h.has k (V i)).1 ⟨i, l, t, e, rfl⟩
    rw [← e1]
    exact getD_mem hx
/-- The number of keys behind a put. -/
theorem rep_count {home : Int → Nat} {S : Nat} {K V : Nat → Int} {m : List Int × List Int} (h : Rep home S K V m) {k v : Int} {i : Nat} {found : Bool} (hf : FindIs home S K V k i found) : (wr m k v).1.length = if found then m.1.length else m.1.length + 1 := by
  have hr := rep_found h hf
  unfold wr
  rcases idx_cases m.1 k with ⟨h1, h2⟩ | ⟨x, h1, h2, h3, _⟩
  · rw [if_pos (by omega)]
    cases found with
    | false => simp
    | true => exact absurd (hr.1 rfl) h2
  · rw [if_neg (by omega)]
    cases found with
    | true => simp
    | false => have := hr.2 (by rw [← h3]; exact getD_mem h2); cases this
theorem rep_free {home : Int → Nat} {S : Nat} {K V : Nat → Int} {m : List Int × List Int} (h : Rep home S K V m) (hlt : m.1.length < S) : ∃ i, i < S ∧ V i = 0 := by
  refine free_slot h.wf m.1 (fun i l t => ?_) hlt
  obtain ⟨x, hx, e1, _⟩ := (h.has (K i) (V i)).1 ⟨i, l, t, rfl, rfl⟩
  rw [← e1]
  exact getD_mem hx

/-- The same content: the same model. -/
theorem rep_same {home : Int → Nat} {S S' : Nat} {K V K' V' : Nat → Int} {home' : Int → Nat} {m : List Int × List Int} (h : Rep home S K V m) (h' : WF home' S' K' V') (hs : ∀ k v, Has S' K' V' k v ↔ Has S K V k v) : Rep home' S' K' V' m :=
  ⟨h', h.nodup, h.len, fun k v => (hs k v).trans (h.has k v)⟩

/-- An empty table. -/
theorem rep_empty (home : Int → Nat) (S : Nat) (K : Nat → Int) : Rep home S K (fun _ => 0) ([], []) :=
  ⟨fun _ _ t => absurd rfl t, List.nodup_nil, rfl, fun _ _ => ⟨fun ⟨_, _, t, _⟩ => absurd rfl t, fun ⟨_, hx, _⟩ => absurd hx (Nat.not_lt_zero _)⟩⟩

/-! ### Moving into a larger table -/

/-- The new table holds what the first p slots of the old one held. -/
def Moved (home' : Int → Nat) (S' : Nat) (K V K' V' : Nat → Int) (p : Nat) : Prop :=
  WF home' S' K' V' ∧ ∀ k v, Has S' K' V' k v ↔ ∃ i, i < p ∧ V i ≠ 0 ∧ K i = k ∧ V i = v

theorem moved_start (home' : Int → Nat) (S' : Nat) (K V K' : Nat → Int) : Moved home' S' K V K' (fun _ => 0) 0 :=
  ⟨fun _ _ t => absurd rfl t, fun _ _ => ⟨fun ⟨_, _, t, _⟩ => absurd rfl t, fun ⟨_, h, _⟩ => absurd h (Nat.not_lt_zero _)⟩⟩
theorem moved_skip {home' : Int → Nat} {S' : Nat} {K V K' V' : Nat → Int} {p : Nat} (h : Moved home' S' K V K' V' p) (h0 : V p = 0) : Moved home' S' K V K' V' (p + 1) := by
  refine ⟨h.1, fun k v => (h.2 k v).trans ⟨fun ⟨i, hi, r⟩ => ⟨i, by omega, r⟩, fun ⟨i, hi, t, r⟩ => ⟨i, ?_, t, r⟩⟩⟩
  rcases Nat.lt_or_ge i p with h1 | h1
  · exact h1
  · have : i = p := by omega
    subst this
    exact absurd h0 t
theorem moved_put {home home' : Int → Nat} {S S' : Nat} {K V K' V' : Nat → Int} {p : Nat} (ho : WF home S K V) (hp : p < S) (h : Moved home' S' K V K' V' p) (h0 : V p ≠ 0) {i : Nat} {found : Bool} (hf : FindIs home' S' K' V' (K p) i found) :
    Moved home' S' K V (upd K' i (K p)) (upd V' i (V p)) (p + 1) := by
  refine ⟨put_wf h.1 hf h0, fun k v => ?_⟩
  rw [put_has h.1 hf h0, h.2]
  constructor
  · rintro (⟨rfl, rfl⟩ | ⟨_, i1, l1, r⟩)
    · exact ⟨p, by omega, h0, rfl, rfl⟩
    · exact ⟨i1, by omega, r⟩
  · rintro ⟨i1, l1, t1, e1, e2⟩
    by_cases e : i1 = p
    · subst e
      exact Or.inl ⟨e1.symm, e2.symm⟩
    · refine Or.inr ⟨fun ek => e ?_, i1, by omega, t1, e1, e2⟩
      exact ho.uniq (by omega) hp t1 h0 (e1.trans ek)
theorem moved_free {home' : Int → Nat} {S' : Nat} {K V K' V' : Nat → Int} {p : Nat} (h : Moved home' S' K V K' V' p) (hlt : p < S') : ∃ i, i < S' ∧ V' i = 0 := by
  refine free_slot h.1 ((List.range p).map K) (fun i l t => ?_) (by simpa using hlt)
  obtain ⟨i1, l1, t1, e1, _⟩ := (h.2 (K' i) (V' i)).1 ⟨i, l, t, rfl, rfl⟩
  exact List.mem_map.2 ⟨i1, List.mem_range.2 l1, e1⟩
theorem moved_end {home' : Int → Nat} {S S' : Nat} {K V K' V' : Nat → Int} (h : Moved home' S' K V K' V' S) : WF home' S' K' V' ∧ ∀ k v, Has S' K' V' k v ↔ Has S K V k v := h

/-! ### Counting the taken slots -/

def occ (V : Nat → Int) : Nat → Nat
  | 0 => 0
  | p + 1 => occ V p + if V p = 0 then 0 else 1
theorem occ_eq (V : Nat → Int) : ∀ p, occ V p = ((List.range p).filter (fun i => decide (V i ≠ 0))).length
  | 0 => rfl
  | p + 1 => by
    rw [occ, occ_eq V p, List.range_succ, List.filter_append, List.length_append]
    by_cases h : V p = 0 <;> simp [h]
theorem occ_le (V : Nat → Int) : ∀ p, occ V p ≤ p
  | 0 => Nat.le_refl _
  | p + 1 => by
    have := occ_le V p
    rw [occ]
    split <;> omega
theorem rep_occ {home : Int → Nat} {S : Nat} {K V : Nat → Int} {m : List Int × List Int} (h : Rep home S K V m) : occ V S = m.1.length := by
  rw [occ_eq]
  have hmem : ∀ i, i ∈ (List.range S).filter (fun i => decide (V i ≠ 0)) ↔ i < S ∧ V i ≠ 0 := by
    intro i
    rw [List.mem_filter, List.mem_range]
    simp
  have hn : (((List.range S).filter (fun i => decide (V i ≠ 0))).map K).Nodup := by
    refine map_nodup K _ (List.Nodup.sublist List.filter_sublist List.nodup_range) (fun a ha b hb e => ?_)
    have ha' := (hmem a).1 ha
    have hb' := (hmem b).1 hb
    exact h.wf.uniq ha'.1 hb'.1 ha'.2 hb'.2 e
  have h1 := nodup_le _ m.1 hn (fun x hx => by
    obtain ⟨i, hi, e⟩ := List.mem_map.1 hx
    have hi' := (hmem i).1 hi
    obtain ⟨y, hy, e1, _⟩ := (h.has (K i) (V i)).1 ⟨i, hi'.1, hi'.2, rfl, rfl⟩
    rw [← e, ← e1]
    exact getD_mem hy)
  have h2 := nodup_le m.1 _ h.nodup (fun x hx => by
    obtain ⟨y, hy, e⟩ := mem_getD hx
    obtain ⟨i, l, t, e', _⟩ := (h.has x _).2 ⟨y, hy, e, rfl⟩
    exact List.mem_map.2 ⟨i, (hmem i).2 ⟨l, t⟩, e'⟩)
  rw [List.length_map] at h1 h2
  omega

/-! ### Bounds of the model -/
theorem lw_keys (ks vs : List Int) (P : Int → Prop) (hP : ∀ i, P (ks.getD i 0)) : ∀ n, ∀ x ∈ (lw ks vs n).1, P x
  | 0 => by simp [lw]
  | n + 1 => by
    intro x hx
    have hx' : x ∈ (wr (lw ks vs n) (ks.getD n 0) (vs.getD n 0)).1 := hx
    unfold wr at hx'
    split at hx'
    · rcases List.mem_append.1 hx' with h | h
      · exact lw_keys ks vs P hP n x h
      · have : x = ks.getD n 0 := List.mem_singleton.1 h
        rw [this]; exact hP n
    · exact lw_keys ks vs P hP n x hx'
theorem lw_vals (ks vs : List Int) (P : Int → Prop) (N : Nat) (hP : ∀ i, i < N → P (vs.getD i 0)) : ∀ n, n ≤ N → ∀ x ∈ (lw ks vs n).2, P x
  | 0, _ => by simp [lw]
  | n + 1, hn => by
    intro x hx
    have hx' : x ∈ (wr (lw ks vs n) (ks.getD n 0) (vs.getD n 0)).2 := hx
    unfold wr at hx'
    split at hx'
    · rcases List.mem_append.1 hx' with h | h
      · exact lw_vals ks vs P N hP n (by omega) x h
      · have : x = vs.getD n 0 := List.mem_singleton.1 h
        rw [this]; exact hP n (by omega)
    · rcases List.mem_or_eq_of_mem_set hx' with h | h
      · exact lw_vals ks vs P N hP n (by omega) x h
      · rw [h]; exact hP n (by omega)
end Go.Proofs.Qxb6628294a.Plain
