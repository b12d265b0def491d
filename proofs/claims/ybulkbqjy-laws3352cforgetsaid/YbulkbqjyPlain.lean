/-
  The heap's order on lists: no Go here.
-/
namespace Go.Proofs.Ybulkbqjy

abbrev Ent := Nat × Int
/-- The time at place k. -/
def ky (l : List Ent) (k : Nat) : Int := (l.getD k (0, 0)).2
/-- Places i and j change their entries. -/
def sw (l : List Ent) (i j : Nat) : List Ent := (l.set i (l.getD j (0, 0))).set j (l.getD i (0, 0))

theorem ky_of {l : List Ent} {k : Nat} {p : Ent} (h : l[k]? = some p) : ky l k = p.2 := by simp [ky, List.getD, h]
theorem getD_of {l : List Ent} {k : Nat} {p : Ent} (h : l[k]? = some p) : l.getD k (0, 0) = p := by simp [List.getD, h]
theorem sw_length (l : List Ent) (i j : Nat) : (sw l i j).length = l.length := by simp [sw]

theorem sw_at (l : List Ent) (i j k : Nat) (hi : i < l.length) (hj : j < l.length) : (sw l i j)[k]? = if k = j then l[i]? else if k = i then l[j]? else l[k]? := by
  unfold sw
  by_cases h1 : k = j
  · subst h1
    rw [List.getElem?_set_self (by simpa using hj)]
    simp [List.getD, List.getElem?_eq_getElem hi]
  · rw [List.getElem?_set_ne (by omega), if_neg h1]
    by_cases h2 : k = i
    · subst h2
      rw [List.getElem?_set_self hi]
      simp [List.getD, List.getElem?_eq_getElem hj]
    · rw [List.getElem?_set_ne (by omega), if_neg h2]

theorem ky_sw (l : List Ent) (i j k : Nat) (hi : i < l.length) (hj : j < l.length) : ky (sw l i j) k = if k = j then ky l i else if k = i then ky l j else ky l k := by
  simp only [ky, List.getD, sw_at l i j k hi hj]
  by_cases h1 : k = j
  · rw [if_pos h1, if_pos h1]
  · rw [if_neg h1, if_neg h1]
    by_cases h2 : k = i
    · rw [if_pos h2, if_pos h2]
    · rw [if_neg h2, if_neg h2]

theorem sw_perm (l : List Ent) (i j : Nat) (hi : i < l.length) (hj : j < l.length) : (sw l i j).Perm l := by
  have h := Array.swap_perm (xs := l.toArray) (i := i) (j := j) (by simpa using hi) (by simpa using hj)
  have e : (l.toArray.swap i j (by simpa using hi) (by simpa using hj)).toList = sw l i j := by
    simp [Array.swap, sw, List.getD, List.getElem?_eq_getElem hi, List.getElem?_eq_getElem hj]
  have := h.toList
  rw [e] at this
  simpa using this

def OrdN (l : List Ent) (n : Nat) : Prop := ∀ k, 1 ≤ k → k < n → ky l ((k - 1) / 2) ≤ ky l k
structure UpInv (l : List Ent) (j : Nat) : Prop where
  one : ∀ k, 1 ≤ k → k < l.length → k ≠ j → ky l ((k - 1) / 2) ≤ ky l k
  two : ∀ k, 1 ≤ k → k < l.length → (k - 1) / 2 = j → 1 ≤ j → ky l ((j - 1) / 2) ≤ ky l k
structure DownInv (l : List Ent) (i n : Nat) : Prop where
  one : ∀ k, 1 ≤ k → k < n → (k - 1) / 2 ≠ i → ky l ((k - 1) / 2) ≤ ky l k
  two : ∀ k, 1 ≤ k → k < n → (k - 1) / 2 = i → 1 ≤ i → ky l ((i - 1) / 2) ≤ ky l k

theorem root_min {l : List Ent} {n : Nat} (h : OrdN l n) : ∀ k, k < n → ky l 0 ≤ ky l k := by
  intro k
  induction k using Nat.strongRecOn with
  | ind k ih =>
    intro hk
    by_cases h0 : k = 0
    · subst h0; exact Int.le_refl _
    · exact Int.le_trans (ih ((k - 1) / 2) (by omega) (by omega)) (h k (by omega) hk)

theorem up_zero {l : List Ent} (h : UpInv l 0) : OrdN l l.length := fun k h1 h2 => h.one k h1 h2 (by omega)
theorem up_end {l : List Ent} {j : Nat} (h : UpInv l j) (hn : ¬ ky l j < ky l ((j - 1) / 2)) : OrdN l l.length := fun k h1 h2 => by
  by_cases e : k = j
  · subst e; omega
  · exact h.one k h1 h2 e

theorem up_step {l : List Ent} {j : Nat} (h : UpInv l j) (h1 : 1 ≤ j) (hj : j < l.length) (hlt : ky l j < ky l ((j - 1) / 2)) : UpInv (sw l ((j - 1) / 2) j) ((j - 1) / 2) := by
  obtain ⟨i, hi⟩ : ∃ i, (j - 1) / 2 = i := ⟨_, rfl⟩
  rw [hi] at hlt ⊢
  have hij : i < j := by omega
  have K := fun k => ky_sw l i j k (by omega) hj
  refine ⟨fun k k1 k2 kne => ?_, fun k k1 k2 kp i1 => ?_⟩
  · rw [sw_length] at k2
    rw [K, K k]
    by_cases e1 : k = j
    · subst e1
      rw [hi, if_neg (by omega), if_pos rfl, if_pos rfl]; omega
    · rw [if_neg e1, if_neg kne]
      by_cases e2 : (k - 1) / 2 = j
      · rw [if_pos e2]
        have := h.two k k1 k2 e2 h1
        rw [hi] at this; exact this
      · rw [if_neg e2]
        have hk := h.one k k1 k2 e1
        by_cases e3 : (k - 1) / 2 = i
        · rw [if_pos e3]; rw [e3] at hk; omega
        · rw [if_neg e3]; exact hk
  · rw [sw_length] at k2
    rw [K, K k, if_neg (by omega), if_neg (by omega)]
    have hpi := h.one i i1 (by omega) (by omega)
    by_cases e1 : k = j
    · rw [if_pos e1]; exact hpi
    · rw [if_neg e1, if_neg (by omega)]
      have := h.one k k1 k2 e1
      rw [kp] at this
      exact Int.le_trans hpi this

theorem down_end {l : List Ent} {i n : Nat} (h : DownInv l i n) (hc : ∀ c, 1 ≤ c → c < n → (c - 1) / 2 = i → ky l i ≤ ky l c) : OrdN l n := fun k h1 h2 => by
  by_cases e : (k - 1) / 2 = i
  · rw [e]; exact hc k h1 h2 e
  · exact h.one k h1 h2 e

theorem down_step {l : List Ent} {i j n : Nat} (h : DownInv l i n) (hn : n ≤ l.length) (hj1 : 1 ≤ j) (hj : j < n) (hp : (j - 1) / 2 = i) (hmin : ∀ c, 1 ≤ c → c < n → (c - 1) / 2 = i → ky l j ≤ ky l c) (hlt : ky l j < ky l i) :
    DownInv (sw l i j) j n := by
  have hij : i < j := by omega
  have K := fun k => ky_sw l i j k (by omega) (by omega)
  refine ⟨fun k k1 k2 kp => ?_, fun k k1 k2 kp _ => ?_⟩
  · rw [K, K k, if_neg kp]
    by_cases e1 : k = j
    · subst e1
      rw [if_pos hp, if_pos rfl]; omega
    · rw [if_neg e1]
      by_cases e2 : (k - 1) / 2 = i
      · rw [if_pos e2, if_neg (by omega)]
        exact hmin k k1 k2 e2
      · rw [if_neg e2]
        by_cases e3 : k = i
        · subst e3
          rw [if_pos rfl]
          exact h.two j hj1 hj hp k1
        · rw [if_neg e3]; exact h.one k k1 k2 e2
  · rw [K, K k, hp, if_neg (by omega), if_pos rfl, if_neg (by omega), if_neg (by omega)]
    have := h.one k k1 k2 (by omega)
    rw [kp] at this
    exact this

/-- Behind a push. -/
theorem up_start {l : List Ent} (p : Ent) (h : OrdN l l.length) : UpInv (l ++ [p]) l.length := by
  have K : ∀ k, k < l.length → ky (l ++ [p]) k = ky l k := fun k hk => by simp [ky, List.getD, List.getElem?_append_left hk]
  refine ⟨fun k k1 k2 kne => ?_, fun k k1 k2 kp _ => ?_⟩
  · simp at k2
    rw [K _ (by omega), K _ (by omega)]
    exact h k k1 (by omega)
  · simp at k2; omega

/-- The first and the last have changed places. -/
theorem down_start {l : List Ent} {n : Nat} (hl : l.length = n + 1) (h : OrdN l l.length) : DownInv (sw l 0 n) 0 n := by
  have K := fun k => ky_sw l 0 n k (by omega) (by omega)
  refine ⟨fun k k1 k2 kp => ?_, fun _ _ _ _ h0 => absurd h0 (by omega)⟩
  rw [K, K k, if_neg (by omega), if_neg kp, if_neg (by omega), if_neg (by omega)]
  exact h k k1 (by omega)

theorem ord_take {l : List Ent} {n : Nat} (hn : n ≤ l.length) (h : OrdN l n) : OrdN (l.take n) (l.take n).length := by
  have K : ∀ k, k < n → ky (l.take n) k = ky l k := fun k hk => by simp [ky, List.getD, hk]
  intro k k1 k2
  simp at k2
  rw [K _ (by omega), K _ (by omega)]
  exact h k k1 (by omega)

end Go.Proofs.Ybulkbqjy
