/-
  The heap's methods: Len, Less, Swap, Push, Pop.
-/
import Derived.Test.YbulkbqjyTime
import Derived.Test.YbulkbqjyPlain
import Derived.Deep.RegionLaw
import Derived.Deep.AppendLies
namespace Go.Proofs.Ybulkbqjy
open Go.RowKit

theorem method_push (a : Addr) (w : World) : (method 201 46 (.pointer (some a)) "Push").run Yba.prog w = .ok (40, .pointer (some a)) w := by kernel_rfl
theorem method_pop (a : Addr) (w : World) : (method 201 46 (.pointer (some a)) "Pop").run Yba.prog w = .ok (39, .pointer (some a)) w := by kernel_rfl
theorem method_len_eq (a : Addr) (w : World) : (method 201 46 (.pointer (some a)) "Len").run Yba.prog w = (Sem.load .plain a fun v => Sem.pure ((36 : Nat), v)).run Yba.prog w := by kernel_rfl
theorem method_less_eq (a : Addr) (w : World) : (method 201 46 (.pointer (some a)) "Less").run Yba.prog w = (Sem.load .plain a fun v => Sem.pure ((37 : Nat), v)).run Yba.prog w := by kernel_rfl
theorem method_swap_eq (a : Addr) (w : World) : (method 201 46 (.pointer (some a)) "Swap").run Yba.prog w = (Sem.load .plain a fun v => Sem.pure ((38 : Nat), v)).run Yba.prog w := by kernel_rfl
theorem method_len {a : Addr} {w : World} {v : Value} (h : w.cell? a = some v) : (method 201 46 (.pointer (some a)) "Len").run Yba.prog w = .ok (36, v) w := by
  rw [method_len_eq]; simp only [Sem.run, h]
theorem method_less {a : Addr} {w : World} {v : Value} (h : w.cell? a = some v) : (method 201 46 (.pointer (some a)) "Less").run Yba.prog w = .ok (37, v) w := by
  rw [method_less_eq]; simp only [Sem.run, h]
theorem method_swap {a : Addr} {w : World} {v : Value} (h : w.cell? a = some v) : (method 201 46 (.pointer (some a)) "Swap").run Yba.prog w = .ok (38, v) w := by
  rw [method_swap_eq]; simp only [Sem.run, h]

/-- The nonce of the i-th key; the keys' one name. -/
def nonce (i : Nat) : ByteArray := ⟨#[UInt8.ofNat i, UInt8.ofNat (i / 256)]⟩
def kid : ByteArray := ⟨#[107]⟩
/-- An entry's cells. -/
def ent (p : Nat × Int) : List Value := [.string kid, .string (nonce p.1), .string ⟨#[]⟩, .int .u64 (p.2 % 1000000000), .int .i64 (p.2 / 1000000000), .pointer none]

/-- Block g is a row of cap entries, the first of which are l's. -/
structure Row (w : World) (g cap : Nat) (l : List (Nat × Int)) (cs : List Value) : Prop where
  blk : Blk w g 50 cs
  len : cs.length = cap * 6
  fits : l.length ≤ cap
  max : cap ≤ maxLen
  at0 : ∀ k p, l[k]? = some p → cs[k * 6]? = some (.string kid) ∧ cs[k * 6 + 1]? = some (.string (nonce p.1)) ∧ cs[k * 6 + 2]? = some (.string ⟨#[]⟩) ∧ cs[k * 6 + 3]? = some (.int .u64 (p.2 % 1000000000)) ∧
    cs[k * 6 + 4]? = some (.int .i64 (p.2 / 1000000000)) ∧ cs[k * 6 + 5]? = some (.pointer none)

theorem Row.cells {w : World} {g cap : Nat} {l : List (Nat × Int)} {cs : List Value} (h : Row w g cap l cs) {k : Nat} {p : Nat × Int} (hk : l[k]? = some p) :
    w.cell? ⟨g, k * 6, none⟩ = some (.string kid) ∧ w.cell? ⟨g, k * 6 + 1, none⟩ = some (.string (nonce p.1)) ∧ w.cell? ⟨g, k * 6 + 2, none⟩ = some (.string ⟨#[]⟩) ∧ w.cell? ⟨g, k * 6 + 3, none⟩ = some (.int .u64 (p.2 % 1000000000)) ∧
    w.cell? ⟨g, k * 6 + 4, none⟩ = some (.int .i64 (p.2 / 1000000000)) ∧ w.cell? ⟨g, k * 6 + 5, none⟩ = some (.pointer none) := by
  obtain ⟨a0, a1, a2, a3, a4, a5⟩ := h.at0 k p hk
  exact ⟨h.blk.cell a0, h.blk.cell a1, h.blk.cell a2, h.blk.cell a3, h.blk.cell a4, h.blk.cell a5⟩

set_option maxHeartbeats 1000000 in
theorem less_at (g cap n i j : Nat) (l : List (Nat × Int)) (cs : List Value) (p q : Nat × Int) (w : World) (h : Row w g cap l cs) (hn : l.length = n) (hi : l[i]? = some p) (hj : l[j]? = some q) :
    Calls Yba.prog 37 #[.slice (some ⟨g, 0, none⟩) n cap, .int .i64 i, .int .i64 j] w fun e w' => e = .returned (.bool (decide (p.2 < q.2))) ∧ Below w.heap.size w w' := by
  obtain ⟨-, -, -, a3, a4, a5⟩ := h.cells hi
  obtain ⟨-, -, -, b3, b4, b5⟩ := h.cells hj
  have li : (i : Int) < (n : Int) := by have := (List.getElem?_eq_some_iff.1 hi).1; omega
  have lj : (j : Int) < (n : Int) := by have := (List.getElem?_eq_some_iff.1 hj).1; omega
  have hg := h.blk.lt
  clear h hi hj
  go_enter Yba.func37, Yba.ntmps37
  go_wp2
  go_region_law (go_simp; go_at_call 8; refine (before_at p.2 q.2 _).mono ?_; rintro e w1 ⟨rfl, hb1⟩)
  all_goals go_wp2
  all_goals go_ret
  all_goals exact ⟨rfl, ((Below.refl _ w).drew).trans hb1⟩

/-- Entry p goes to place i. -/
def put6 (cs : List Value) (i : Nat) (p : Ent) : List Value :=
  (((((cs.set (i * 6) (.string kid)).set (i * 6 + 1) (.string (nonce p.1))).set (i * 6 + 2) (.string ⟨#[]⟩)).set (i * 6 + 3) (.int .u64 (p.2 % 1000000000))).set (i * 6 + 4) (.int .i64 (p.2 / 1000000000))).set (i * 6 + 5) (.pointer none)
def put6W (w : World) (g i : Nat) (p : Ent) : World :=
  (((((w.setCell ⟨g, i * 6, none⟩ (.string kid)).setCell ⟨g, i * 6 + 1, none⟩ (.string (nonce p.1))).setCell ⟨g, i * 6 + 2, none⟩ (.string ⟨#[]⟩)).setCell ⟨g, i * 6 + 3, none⟩ (.int .u64 (p.2 % 1000000000))).setCell ⟨g, i * 6 + 4, none⟩ (.int .i64 (p.2 / 1000000000))).setCell ⟨g, i * 6 + 5, none⟩ (.pointer none)

theorem put6_other (cs : List Value) (i : Nat) (p : Ent) (k c : Nat) (hc : c < 6) (hk : k ≠ i) : (put6 cs i p)[k * 6 + c]? = cs[k * 6 + c]? := by
  unfold put6
  rw [List.getElem?_set_ne (by omega), List.getElem?_set_ne (by omega), List.getElem?_set_ne (by omega), List.getElem?_set_ne (by omega), List.getElem?_set_ne (by omega), List.getElem?_set_ne (by omega)]

theorem put6_same (cs : List Value) (i : Nat) (p : Ent) (h : i * 6 + 6 ≤ cs.length) :
    (put6 cs i p)[i * 6]? = some (.string kid) ∧ (put6 cs i p)[i * 6 + 1]? = some (.string (nonce p.1)) ∧ (put6 cs i p)[i * 6 + 2]? = some (.string ⟨#[]⟩) ∧ (put6 cs i p)[i * 6 + 3]? = some (.int .u64 (p.2 % 1000000000)) ∧
    (put6 cs i p)[i * 6 + 4]? = some (.int .i64 (p.2 / 1000000000)) ∧ (put6 cs i p)[i * 6 + 5]? = some (.pointer none) := by
  unfold put6
  refine ⟨?_, ?_, ?_, ?_, ?_, ?_⟩
  · rw [List.getElem?_set_ne (by omega), List.getElem?_set_ne (by omega), List.getElem?_set_ne (by omega), List.getElem?_set_ne (by omega), List.getElem?_set_ne (by omega), List.getElem?_set_self (by (try simp only [List.length_set]); omega)]
  · rw [List.getElem?_set_ne (by omega), List.getElem?_set_ne (by omega), List.getElem?_set_ne (by omega), List.getElem?_set_ne (by omega), List.getElem?_set_self (by (try simp only [List.length_set]); omega)]
  · rw [List.getElem?_set_ne (by omega), List.getElem?_set_ne (by omega), List.getElem?_set_ne (by omega), List.getElem?_set_self (by (try simp only [List.length_set]); omega)]
  · rw [List.getElem?_set_ne (by omega), List.getElem?_set_ne (by omega), List.getElem?_set_self (by (try simp only [List.length_set]); omega)]
  · rw [List.getElem?_set_ne (by omega), List.getElem?_set_self (by (try simp only [List.length_set]); omega)]
  · rw [List.getElem?_set_self (by (try simp only [List.length_set]); omega)]

theorem Row.put {w : World} {g cap : Nat} {l : List Ent} {cs : List Value} (h : Row w g cap l cs) (i : Nat) (hi : i < cap) (p : Ent) : Row (put6W w g i p) g cap (l.set i p) (put6 cs i p) := by
  have hlen := h.len
  refine ⟨((((((h.blk.set _ _).set _ _).set _ _).set _ _).set _ _).set _ _), by simp [put6, hlen], by simpa using h.fits, h.max, fun k q hk => ?_⟩
  by_cases e : k = i
  · subst e
    have hl : k < l.length := by simpa using (List.getElem?_eq_some_iff.1 hk).1
    rw [List.getElem?_set_self hl] at hk
    cases hk
    exact put6_same cs k p (by omega)
  · rw [List.getElem?_set_ne (by omega)] at hk
    have o := fun c hc => put6_other cs i p k c hc e
    have o0 := o 0 (by omega)
    simp only [Nat.add_zero] at o0
    rw [o0, o 1 (by omega), o 2 (by omega), o 3 (by omega), o 4 (by omega), o 5 (by omega)]
    exact h.at0 k q hk

theorem grow_put6 {a b : World} {g : Nat} (h : a.grownBy b (some g)) (i : Nat) (p : Ent) : a.grownBy (put6W b g i p) (some g) :=
  grow_set (grow_set (grow_set (grow_set (grow_set (grow_set h (Or.inl rfl) _) (Or.inl rfl) _) (Or.inl rfl) _) (Or.inl rfl) _) (Or.inl rfl) _) (Or.inl rfl) _

theorem Row.drew {w : World} {g cap : Nat} {l : List Ent} {cs : List Value} (h : Row w g cap l cs) : Row w.drew g cap l cs := ⟨h.blk.drew, h.len, h.fits, h.max, h.at0⟩
theorem Row.kept {w w' : World} {g cap : Nat} {l : List Ent} {cs : List Value} {row : Option Nat} (h : Row w g cap l cs) (hg : w.grownBy w' row) (hne : some g ≠ row) : Row w' g cap l cs := ⟨h.blk.kept hg hne, h.len, h.fits, h.max, h.at0⟩

/-- What Swap leaves. -/
theorem swapped {w : World} {g cap i j : Nat} {l : List Ent} {cs : List Value} {p q : Ent} (h : Row w g cap l cs) (hi : l[i]? = some p) (hj : l[j]? = some q) :
    (∃ cs', Row (put6W (put6W w g i q) g j p).drew g cap (sw l i j) cs') ∧ w.grownBy (put6W (put6W w g i q) g j p).drew (some g) := by
  have h1 := (List.getElem?_eq_some_iff.1 hi).1
  have h2 := (List.getElem?_eq_some_iff.1 hj).1
  have hf := h.fits
  refine ⟨⟨put6 (put6 cs i q) j p, ?_⟩, grow_drew (grow_put6 (grow_put6 (grow_refl _ _) _ _) _ _)⟩
  have := ((h.put i (by omega) q).put j (by omega) p).drew
  unfold sw
  rw [getD_of hi, getD_of hj]
  exact this

set_option maxHeartbeats 1000000 in
theorem swap_at (g cap n i j : Nat) (l : List Ent) (cs : List Value) (p q : Ent) (w : World) (h : Row w g cap l cs) (hn : l.length = n) (hi : l[i]? = some p) (hj : l[j]? = some q) :
    Calls Yba.prog 38 #[.slice (some ⟨g, 0, none⟩) n cap, .int .i64 i, .int .i64 j] w fun e w' => e = .returned (.tuple #[]) ∧ (∃ cs', Row w' g cap (sw l i j) cs') ∧ w.grownBy w' (some g) := by
  have HS : Hid ((∃ cs', Row (put6W (put6W w g i q) g j p).drew g cap (sw l i j) cs') ∧ w.grownBy (put6W (put6W w g i q) g j p).drew (some g)) := swapped h hi hj
  obtain ⟨a0, a1, a2, a3, a4, a5⟩ := h.cells hi
  obtain ⟨b0, b1, b2, b3, b4, b5⟩ := h.cells hj
  have li : (i : Int) < (n : Int) := by have := (List.getElem?_eq_some_iff.1 hi).1; omega
  have lj : (j : Int) < (n : Int) := by have := (List.getElem?_eq_some_iff.1 hj).1; omega
  have hg := h.blk.lt
  have hf := h.blk.free
  by_cases hij : i = j
  · subst hij
    rw [hi] at hj
    cases hj
    clear h hi b0 b1 b2 b3 b4 b5 lj
    go_enter Yba.func38, Yba.ntmps38
    go_wp2
    go_region
    all_goals go_wp2
    all_goals go_end0
    all_goals exact ⟨rfl, HS.out⟩
  have hji : ¬ j = i := fun e => hij e.symm
  have n1a : ¬ (j * 6 = i * 6 + 1) := by omega
  have n1b : ¬ (j * 6 + 1 = i * 6) := by omega
  have n1c : ¬ (i * 6 = j * 6 + 1) := by omega
  have n1d : ¬ (i * 6 + 1 = j * 6) := by omega
  have n2a : ¬ (j * 6 = i * 6 + 2) := by omega
  have n2b : ¬ (j * 6 + 2 = i * 6) := by omega
  have n2c : ¬ (i * 6 = j * 6 + 2) := by omega
  have n2d : ¬ (i * 6 + 2 = j * 6) := by omega
  have n3a : ¬ (j * 6 = i * 6 + 3) := by omega
  have n3b : ¬ (j * 6 + 3 = i * 6) := by omega
  have n3c : ¬ (i * 6 = j * 6 + 3) := by omega
  have n3d : ¬ (i * 6 + 3 = j * 6) := by omega
  have n4a : ¬ (j * 6 = i * 6 + 4) := by omega
  have n4b : ¬ (j * 6 + 4 = i * 6) := by omega
  have n4c : ¬ (i * 6 = j * 6 + 4) := by omega
  have n4d : ¬ (i * 6 + 4 = j * 6) := by omega
  have n5a : ¬ (j * 6 = i * 6 + 5) := by omega
  have n5b : ¬ (j * 6 + 5 = i * 6) := by omega
  have n5c : ¬ (i * 6 = j * 6 + 5) := by omega
  have n5d : ¬ (i * 6 + 5 = j * 6) := by omega
  clear h hi hj
  go_enter Yba.func38, Yba.ntmps38
  go_wp2
  go_region
  all_goals go_wp2
  all_goals go_end0
  all_goals exact ⟨rfl, HS.out⟩

theorem len_at (q : Option Addr) (n cap : Nat) (w : World) : Calls Yba.prog 36 #[.slice q n cap] w fun e w' => e = .returned (.int .i64 n) ∧ w' = w := by
  go_enter Yba.func36, Yba.ntmps36
  go_wp2
  go_ret
  exact ⟨rfl, rfl⟩

end Go.Proofs.Ybulkbqjy
