/-
  time.Time, as far as the law goes: a zero time, d nanoseconds on; before.
-/
import Derived.Test.YbulkbqjyBase
import Derived.Laws.Bits64b
namespace Go.Proofs.Ybulkbqjy
open Go.RowKit

/-! ### bits -/
theorem and_mask (x : Int) (h0 : 0 ≤ x) (h1 : x < 1000000000) : bits .and .u64 x 1073741823 = x := by
  obtain ⟨n, rfl⟩ := Int.eq_ofNat_of_zero_le h0
  have := bits_and_u64_nat n 1073741823 (by omega) (by omega)
  rw [show (1073741823 : Nat) = 2 ^ 30 - 1 from rfl, Nat.and_two_pow_sub_one_eq_mod] at this
  rw [show (1073741823 : Int) = ((2 ^ 30 - 1 : Nat) : Int) from rfl, this]
  rw [Nat.mod_eq_of_lt (by omega)]

theorem and_top (x : Int) (h0 : 0 ≤ x) (h1 : x < 1000000000) : bits .and .u64 x 9223372036854775808 = 0 := by
  obtain ⟨n, rfl⟩ := Int.eq_ofNat_of_zero_le h0
  have := bits_and_u64_nat n 9223372036854775808 (by omega) (by omega)
  have e : n &&& 9223372036854775808 = 0 := by
    have h : n < 2 ^ 63 := by omega
    refine Nat.eq_of_testBit_eq fun i => ?_
    rw [show (9223372036854775808 : Nat) = 2 ^ 63 from rfl, Nat.testBit_and, Nat.testBit_two_pow, Nat.zero_testBit]
    by_cases hi : 63 = i
    · subst hi; rw [Nat.testBit_lt_two_pow h]; rfl
    · simp [hi]
  rw [e] at this
  exact this

theorem and_pair (x y : Int) (h0 : 0 ≤ x) (h1 : x < 1000000000) (h2 : 0 ≤ y) (h3 : y < 1000000000) : bits .and .u64 (bits .and .u64 x y) 9223372036854775808 = 0 := by
  obtain ⟨n, rfl⟩ := Int.eq_ofNat_of_zero_le h0
  obtain ⟨m, rfl⟩ := Int.eq_ofNat_of_zero_le h2
  rw [bits_and_u64_nat n m (by omega) (by omega)]
  have : n &&& m ≤ n := Nat.and_le_left
  exact and_top _ (by omega) (by omega)

theorem or_zero (x : Int) (h0 : 0 ≤ x) (h1 : x < 1000000000) : bits .or .u64 0 x = x := by
  obtain ⟨n, rfl⟩ := Int.eq_ofNat_of_zero_le h0
  have := bits_or_u64_nat 0 n (by omega) (by omega)
  simpa using this

theorem nsec_at (B : Nat) (x : Int) (w : World) (hc : w.cell? ⟨B, 0, none⟩ = some (.int .u64 x)) (h0 : 0 ≤ x) (h1 : x < 1000000000) :
    Calls Yba.prog 11 #[.pointer (some ⟨B, 0, none⟩)] w fun e w' => e = .returned (.int .i32 x) ∧ w' = w := by
  have hm := and_mask x h0 h1
  have hw : wrap32 x = x := by unfold wrap32; omega
  go_enter Yba.func11, Yba.ntmps11
  go_wp2
  go_ret
  exact ⟨rfl, rfl⟩

theorem sec_at (B : Nat) (x y : Int) (w : World) (hc : w.cell? ⟨B, 0, none⟩ = some (.int .u64 x)) (hc1 : w.cell? ⟨B, 1, none⟩ = some (.int .i64 y)) (h0 : 0 ≤ x) (h1 : x < 1000000000) :
    Calls Yba.prog 15 #[.pointer (some ⟨B, 0, none⟩)] w fun e w' => e = .returned (.int .i64 y) ∧ w' = w := by
  have ht := and_top x h0 h1
  go_enter Yba.func15, Yba.ntmps15
  go_wp2
  go_ret
  exact ⟨rfl, rfl⟩

/-- addSec at a time of the plain kind that lies at nought. -/
theorem addSec_at (B : Nat) (x s : Int) (w : World) (hc : w.cell? ⟨B, 0, none⟩ = some (.int .u64 x)) (hc1 : w.cell? ⟨B, 1, none⟩ = some (.int .i64 0)) (hf : w.frozen? ⟨B, 1, none⟩ = false) (h0 : 0 ≤ x) (h1 : x < 1000000000)
    (hs0 : -9223372036854775808 ≤ s) (hs1 : s ≤ 9223372036854775807) :
    Calls Yba.prog 12 #[.pointer (some ⟨B, 0, none⟩), .int .i64 s] w fun e w' => e = .returned (.tuple #[]) ∧ w' = w.setCell ⟨B, 1, none⟩ (.int .i64 s) := by
  have ht := and_top x h0 h1
  have hw : wrap64 s = s := by unfold wrap64; omega
  go_enter Yba.func12, Yba.ntmps12
  go_wp2
  go_end0
  exact ⟨rfl, rfl⟩

/-- The zero time, d nanoseconds on. -/
def T (d : Int) : Value := .agg #[.int .u64 (d % 1000000000), .int .i64 (d / 1000000000), .pointer none]

theorem t_lo (d : Int) : 0 ≤ d % 1000000000 := by omega
theorem t_hi (d : Int) : d % 1000000000 < 1000000000 := by omega

theorem cell_first (w : World) (cs : Array Value) (t : TypeId) (o : Obj) (j : Nat) (u : Value) (h : cs[j]? = some u) : ((w.alloc (.cells cs t)).alloc o).cell? ⟨w.heap.size, j, none⟩ = some u := by
  have e : ((w.alloc (.cells cs t)).alloc o).heap[w.heap.size]? = some (.cells cs t (0, 0)) := by
    rw [Below.heap_alloc _ _ _ (by simp)]; exact heap_alloc_new w _
  rw [cell_of_row _ _ j cs t (0, 0) e]; exact h
theorem cell_second (w : World) (cs : Array Value) (t : TypeId) (o : Obj) (j : Nat) (u : Value) (h : cs[j]? = some u) : ((w.alloc o).alloc (.cells cs t)).cell? ⟨w.heap.size + 1, j, none⟩ = some u := by
  have e : ((w.alloc o).alloc (.cells cs t)).heap[w.heap.size + 1]? = some (.cells cs t (0, 0)) := by
    have := heap_alloc_new (w.alloc o) (.cells cs t (0, 0)); simpa using this
  rw [cell_of_row _ _ j cs t (0, 0) e]; exact h

theorem frozen_first (w : World) (cs : Array Value) (t : TypeId) (o : Obj) (j : Nat) : ((w.alloc (.cells cs t)).alloc o).frozen? ⟨w.heap.size, j, none⟩ = false := by
  have e : ((w.alloc (.cells cs t)).alloc o).heap[w.heap.size]? = some (.cells cs t (0, 0)) := by
    rw [Below.heap_alloc _ _ _ (by simp)]; exact heap_alloc_new w _
  simp [World.frozen?, e]

theorem split_neg {d : Int} (h : d.tmod 1000000000 < 0) : d % 1000000000 = d.tmod 1000000000 + 1000000000 ∧ d / 1000000000 = d.tdiv 1000000000 - 1 := by
  have h1 := Int.mul_tdiv_add_tmod d 1000000000
  have h3 := Int.lt_tmod_of_pos d (b := 1000000000) (by decide)
  omega
theorem split_pos {d : Int} (h : ¬ d.tmod 1000000000 < 0) : d % 1000000000 = d.tmod 1000000000 ∧ d / 1000000000 = d.tdiv 1000000000 := by
  have h1 := Int.mul_tdiv_add_tmod d 1000000000
  have h2 := Int.tmod_lt_of_pos d (b := 1000000000) (by decide)
  omega

/-- The world behind Add's stores. -/
theorem add_below (w : World) (o1 o2 : Obj) : Below w.heap.size w ((w.alloc o1).alloc o2) := ((Below.refl _ w).alloc (Nat.le_refl _) _).alloc (by simp) _

set_option maxHeartbeats 1000000 in
theorem add_at (d : Int) (w : World) (hd0 : -9223372036854775808 ≤ d) (hd1 : d ≤ 9223372036854775807) :
    Calls Yba.prog 6 #[.agg #[.int .u64 0, .int .i64 0, .pointer none], .int .i64 d] w fun e w' => e = .returned (T d) ∧ Below w.heap.size w w' := by
  have h1 := Int.mul_tdiv_add_tmod d 1000000000
  have h2 := Int.tmod_lt_of_pos d (b := 1000000000) (by decide)
  have h3 := Int.lt_tmod_of_pos d (b := 1000000000) (by decide)
  have hx : bits .andNot .u64 0 1073741823 = 0 := by decide
  unfold T
  have hge : ¬ 1000000000 ≤ d.tmod 1000000000 := by omega
  by_cases hneg : d.tmod 1000000000 < 0
  · obtain ⟨e1, e2⟩ := split_neg hneg
    rw [e1, e2]
    have hor := or_zero (d.tmod 1000000000 + 1000000000) (by omega) (by omega)
    have htop := and_top (d.tmod 1000000000 + 1000000000) (by omega) (by omega)
    go_enter Yba.func6, Yba.ntmps6
    go_wp2_with fail
    refine (nsec_at _ 0 _ (cell_first _ _ _ _ 0 _ rfl) (by decide) (by decide)).mono ?_
    rintro e w' ⟨rfl, rfl⟩
    go_wp2_with fail
    refine (addSec_at _ (d.tmod 1000000000 + 1000000000) (d.tdiv 1000000000 - 1) _ (cell_first _ _ _ _ 0 _ rfl) (cell_first _ _ _ _ 1 _ rfl) (frozen_first _ _ _ _ 1) (by omega) (by omega) (by omega) (by omega)).mono ?_
    rintro e w' ⟨rfl, rfl⟩
    go_wp2
    refine bodyPost_ret (results_cell_row rfl _ _ (w.heap.size + 1) 28 _ (0, 0) _ rfl (heap_alloc2_new _ _ _) Yba.underlying28 rfl (by kernel_rfl)) rfl ?_
    exact ⟨rfl, add_below _ _ _⟩
  · obtain ⟨e1, e2⟩ := split_pos hneg
    rw [e1, e2]
    have hor := or_zero (d.tmod 1000000000) (by omega) (by omega)
    have htop := and_top (d.tmod 1000000000) (by omega) (by omega)
    go_enter Yba.func6, Yba.ntmps6
    go_wp2_with fail
    refine (nsec_at _ 0 _ (cell_first _ _ _ _ 0 _ rfl) (by decide) (by decide)).mono ?_
    rintro e w' ⟨rfl, rfl⟩
    go_wp2_with fail
    refine (addSec_at _ (d.tmod 1000000000) (d.tdiv 1000000000) _ (cell_first _ _ _ _ 0 _ rfl) (cell_first _ _ _ _ 1 _ rfl) (frozen_first _ _ _ _ 1) (by omega) (by omega) (by omega) (by omega)).mono ?_
    rintro e w' ⟨rfl, rfl⟩
    go_wp2
    refine bodyPost_ret (results_cell_row rfl _ _ (w.heap.size + 1) 28 _ (0, 0) _ rfl (heap_alloc2_new _ _ _) Yba.underlying28 rfl (by kernel_rfl)) rfl ?_
    exact ⟨rfl, add_below _ _ _⟩

theorem lt_parts (a b : Int) : decide (a < b) = (decide (a / 1000000000 < b / 1000000000) || (a / 1000000000 == b / 1000000000 && decide (a % 1000000000 < b % 1000000000))) := by
  rw [Bool.eq_iff_iff]
  simp
  omega

set_option maxHeartbeats 1000000 in
theorem before_at (a b : Int) (w : World) :
    Calls Yba.prog 8 #[T a, T b] w fun e w' => e = .returned (.bool (decide (a < b))) ∧ Below w.heap.size w w' := by
  have ha := t_lo a
  have ha' := t_hi a
  have hb := t_lo b
  have hb' := t_hi b
  have hab := and_pair _ _ ha ha' hb hb'
  rw [lt_parts a b]
  unfold T
  generalize a % 1000000000 = x at *
  generalize b % 1000000000 = y at *
  generalize a / 1000000000 = p at *
  generalize b / 1000000000 = q at *
  by_cases h1 : p < q
  · have d1 : decide (p < q) = true := by simpa using h1
    go_enter Yba.func8, Yba.ntmps8
    go_wp2_with fail
    refine (sec_at _ x p _ (cell_first _ _ _ _ 0 _ rfl) (cell_first _ _ _ _ 1 _ rfl) ha ha').mono ?_
    rintro e w' ⟨rfl, rfl⟩
    go_wp2_with fail
    refine (sec_at _ y q _ (cell_second _ _ _ _ 0 _ rfl) (cell_second _ _ _ _ 1 _ rfl) hb hb').mono ?_
    rintro e w' ⟨rfl, rfl⟩
    go_wp2
    go_ret
    exact ⟨by simp [d1], add_below _ _ _⟩
  · have d1 : decide (p < q) = false := by simpa using h1
    by_cases h2 : p = q
    · subst h2
      go_enter Yba.func8, Yba.ntmps8
      go_wp2_with fail
      refine (sec_at _ x p _ (cell_first _ _ _ _ 0 _ rfl) (cell_first _ _ _ _ 1 _ rfl) ha ha').mono ?_
      rintro e w' ⟨rfl, rfl⟩
      go_wp2_with fail
      refine (sec_at _ y p _ (cell_second _ _ _ _ 0 _ rfl) (cell_second _ _ _ _ 1 _ rfl) hb hb').mono ?_
      rintro e w' ⟨rfl, rfl⟩
      go_wp2_with fail
      refine (nsec_at _ x _ (cell_first _ _ _ _ 0 _ rfl) ha ha').mono ?_
      rintro e w' ⟨rfl, rfl⟩
      go_wp2_with fail
      refine (nsec_at _ y _ (cell_second _ _ _ _ 0 _ rfl) hb hb').mono ?_
      rintro e w' ⟨rfl, rfl⟩
      go_wp2
      go_ret
      exact ⟨by simp, add_below _ _ _⟩
    · have d2 : (p == q) = false := by simpa using h2
      go_enter Yba.func8, Yba.ntmps8
      go_wp2_with fail
      refine (sec_at _ x p _ (cell_first _ _ _ _ 0 _ rfl) (cell_first _ _ _ _ 1 _ rfl) ha ha').mono ?_
      rintro e w' ⟨rfl, rfl⟩
      go_wp2_with fail
      refine (sec_at _ y q _ (cell_second _ _ _ _ 0 _ rfl) (cell_second _ _ _ _ 1 _ rfl) hb hb').mono ?_
      rintro e w' ⟨rfl, rfl⟩
      go_wp2
      go_ret
      exact ⟨by simp [d1, d2], add_below _ _ _⟩
end Go.Proofs.Ybulkbqjy
