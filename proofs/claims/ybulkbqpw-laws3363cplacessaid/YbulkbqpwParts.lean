/-
  LawS3363CPlaces: the parts of the walk.
-/
import Derived.Test.YbulkbqpwLocate
namespace Go.Proofs.Ybulkbqpw
open Go.RowKit

/-- The drawn registers, as they came in. -/
def RegsIn (w : World) (q : Option Addr) (R : List (Bool × Int)) : Prop :=
  ∀ j f x, R[j]? = some (f, x) → ∃ b o, q = some ⟨b, o, none⟩ ∧ w.cell? ⟨b, o + j * 2, none⟩ = some (.bool f) ∧ w.cell? ⟨b, o + j * 2 + 1, none⟩ = some (.int .u8 x) ∧ 0 ≤ x ∧ x ≤ 255
/-- The drawn slots, as they came in. -/
def SlotsIn (w : World) (p : Option Addr) (T : List (List (Bool × Int) × Int)) : Prop :=
  ∀ i R off, T[i]? = some (R, off) → ∃ b o q c, p = some ⟨b, o, none⟩ ∧ w.cell? ⟨b, o + i * 2, none⟩ = some (.slice q R.length c) ∧ w.cell? ⟨b, o + i * 2 + 1, none⟩ = some (.int .i64 off) ∧ RegsIn w q R

def tot (T : List (List (Bool × Int) × Int)) : Nat := (T.map (·.1.length)).sum
theorem tot_snoc (T : List (List (Bool × Int) × Int)) (k : Nat) (R : List (Bool × Int)) (off : Int) (h : T[k]? = some (R, off)) : tot (T.take (k + 1)) = tot (T.take k) + R.length := by
  rw [List.take_add_one, h]
  simp [tot]

def nIs : List ByteArray := [⟨#[65, 88]⟩, ⟨#[66, 88]⟩, ⟨#[67, 88]⟩, ⟨#[68, 73]⟩, ⟨#[83, 73]⟩, ⟨#[82, 56]⟩, ⟨#[82, 57]⟩, ⟨#[82, 49, 48]⟩]
def nFs : List ByteArray := [⟨#[88, 48]⟩, ⟨#[88, 49]⟩, ⟨#[88, 50]⟩, ⟨#[88, 51]⟩, ⟨#[88, 52]⟩, ⟨#[88, 53]⟩, ⟨#[88, 54]⟩, ⟨#[88, 55]⟩]
def nI (x : Nat) : ByteArray := nIs.getD x ⟨#[]⟩
def nF (x : Nat) : ByteArray := nFs.getD x ⟨#[]⟩

theorem names_at {w : World} {g : Nat} (l : List ByteArray) (hl : l.length = 8) (h : Blk w g 9 (l.map Value.string)) (x : Nat) (hx : x < 8) : w.cell? ⟨g, x, none⟩ = some (.string (l.getD x ⟨#[]⟩)) := by
  refine h.cell ?_
  simp [List.getD, List.getElem?_eq_getElem (show x < l.length by omega)]

theorem names4 (w : World) : Calls Yba.prog 4 #[] w fun e w' => e = .returned (.slice (some ⟨w.heap.size, 0, none⟩) 8 8) ∧ Blk w' w.heap.size 9 (nIs.map Value.string) ∧ Below w.heap.size w w' := by
  go_enter Yba.func4, Yba.ntmps4
  go_wp2
  go_ret
  exact ⟨rfl, heap_alloc_new w _, (Below.refl _ _).alloc (Nat.le_refl _) _⟩

theorem names5 (w : World) : Calls Yba.prog 5 #[] w fun e w' => e = .returned (.slice (some ⟨w.heap.size, 0, none⟩) 8 8) ∧ Blk w' w.heap.size 9 (nFs.map Value.string) ∧ Below w.heap.size w w' := by
  go_enter Yba.func5, Yba.ntmps5
  go_wp2
  go_ret
  exact ⟨rfl, heap_alloc_new w _, (Below.refl _ _).alloc (Nat.le_refl _) _⟩

theorem info35 : (Yba.prog.info? 35).map (fun i => (i.zero, i.size, i.bytes)) = some (some (.agg #[.slice none 0 0, .int .i64 0]), 2, 32) := by kernel_rfl
theorem info33 : (Yba.prog.info? 33).map (fun i => (i.zero, i.size, i.bytes)) = some (some (.agg #[.bool false, .int .i64 0]), 2, 16) := by kernel_rfl
theorem info38 : (Yba.prog.info? 38).map (fun i => (i.zero, i.size, i.bytes)) = some (some (.agg #[.string ⟨#[]⟩, .slice none 0 0, .int .i64 0, .int .i64 0, .bool false]), 5, 64) := by kernel_rfl

theorem tot_mem (T : List (List (Bool × Int) × Int)) : ∀ (k : Nat) (R : List (Bool × Int)) (off : Int), T[k]? = some (R, off) → R.length ≤ tot T := by
  induction T with
  | nil => intro k R off h; simp at h
  | cons x r ih =>
    intro k R off h
    cases k with
    | zero => simp at h; subst h; simp [tot]
    | succ k =>
      have := ih k R off (by simpa using h)
      simp only [tot, List.map_cons, List.sum_cons] at this ⊢
      omega

/-- A register's place, reduced. -/
def red (A B : Nat) (f : Bool) (x : Int) : Nat := (x % (if f then (B : Int) + 1 else (A : Int) + 1)).toNat
theorem red_lt (A B : Nat) (f : Bool) (x : Int) : red A B f x < (if f then B + 1 else A + 1) := by
  have h1 := Int.emod_lt_of_pos x (show (0 : Int) < (A : Int) + 1 by omega)
  have h2 := Int.emod_lt_of_pos x (show (0 : Int) < (B : Int) + 1 by omega)
  have h3 := Int.emod_nonneg x (show ((A : Int) + 1) ≠ 0 by omega)
  have h4 := Int.emod_nonneg x (show ((B : Int) + 1) ≠ 0 by omega)
  unfold red
  cases f
  · simp only [Bool.false_eq_true, if_false]; omega
  · simp only [if_true]; omega

/-- Behind k rounds of the second loop: the names, the slots made so far. -/
structure Mid (w wr : World) (I F Sb A B k n : Nat) (sc : List Value) (T : List (List (Bool × Int) × Int)) : Prop where
  ints : Blk wr I 9 (nIs.map Value.string)
  flts : Blk wr F 9 (nFs.map Value.string)
  slots : Blk wr Sb 35 sc
  len : sc.length = n * 2
  below : Below w.heap.size w wr
  ltI : I < Sb
  ltF : F < Sb
  done : ∀ i R off, i < k → T[i]? = some (R, off) → ∃ q c, sc[i * 2]? = some (.slice q R.length c) ∧ sc[i * 2 + 1]? = some (.int .i64 off) ∧
    (0 < R.length → ∃ g, q = some ⟨g, 0, none⟩ ∧ Sb < g ∧ g < wr.heap.size ∧ ∀ j f x, R[j]? = some (f, x) → wr.cell? ⟨g, j * 2, none⟩ = some (.bool f) ∧ wr.cell? ⟨g, j * 2 + 1, none⟩ = some (.int .i64 (red A B f x : Nat)))

theorem Mid.keptBy {w wr w' : World} {I F Sb A B k n : Nat} {sc : List Value} {T : List (List (Bool × Int) × Int)} (h : Mid w wr I F Sb A B k n sc T) (hg : wr.grownBy w' none) : Mid w w' I F Sb A B k n sc T := by
  refine ⟨h.ints.kept hg (by simp), h.flts.kept hg (by simp), h.slots.kept hg (by simp), h.len, h.below.grown hg (h.below.size) (by intro k hk; cases hk), h.ltI, h.ltF, ?_⟩
  intro i R off hi hd
  obtain ⟨q, c, h1, h2, h3⟩ := h.done i R off hi hd
  refine ⟨q, c, h1, h2, fun hp => ?_⟩
  obtain ⟨g, g1, g2, gl, g3⟩ := h3 hp
  exact ⟨g, g1, g2, Nat.lt_of_lt_of_le gl hg.size, fun j f x hj => ⟨grow_cell hg (g3 j f x hj).1 (by simp), grow_cell hg (g3 j f x hj).2 (by simp)⟩⟩

/-- One slot stored. -/
theorem mid_store {w wr : World} {I F Sb A B k n : Nat} {sc : List Value} {T : List (List (Bool × Int) × Int)} {R : List (Bool × Int)} {off : Int} {q : Option Addr} {c : Nat} (h : Mid w wr I F Sb A B k n sc T) (hSw : w.heap.size ≤ Sb) (hk : k < n) (hd : T[k]? = some (R, off))
    (hq : 0 < R.length → ∃ g, q = some ⟨g, 0, none⟩ ∧ Sb < g ∧ g < wr.heap.size ∧ ∀ j f x, R[j]? = some (f, x) → wr.cell? ⟨g, j * 2, none⟩ = some (.bool f) ∧ wr.cell? ⟨g, j * 2 + 1, none⟩ = some (.int .i64 (red A B f x : Nat))) :
    Mid w ((wr.setCell ⟨Sb, k * 2, none⟩ (.slice q R.length c)).setCell ⟨Sb, k * 2 + 1, none⟩ (.int .i64 off)) I F Sb A B (k + 1) n ((sc.set (k * 2) (.slice q R.length c)).set (k * 2 + 1) (.int .i64 off)) T := by
  have hlen := h.len
  have hlI := h.ltI
  have hlF := h.ltF
  have ne : ∀ j, j ≠ k * 2 → j ≠ k * 2 + 1 → ((sc.set (k * 2) (.slice q R.length c)).set (k * 2 + 1) (.int .i64 off))[j]? = sc[j]? := fun j h1 h2 => by rw [List.getElem?_set_ne (by omega), List.getElem?_set_ne (by omega)]
  have cellk : ∀ g j u, Sb < g → wr.cell? ⟨g, j, none⟩ = some u → ((wr.setCell ⟨Sb, k * 2, none⟩ (.slice q R.length c)).setCell ⟨Sb, k * 2 + 1, none⟩ (.int .i64 off)).cell? ⟨g, j, none⟩ = some u := by
    intro g j u hg hc
    have hne : ∀ i, (⟨Sb, i, none⟩ : Addr) ≠ ⟨g, j, none⟩ := fun i e => by have := congrArg Addr.block e; simp at this; omega
    rw [World.cell?_setCell_other _ _ _ _ (hne _), World.cell?_setCell_other _ _ _ _ (hne _)]
    exact hc
  refine ⟨(h.ints.other (by simp; omega) _).other (by simp; omega) _, (h.flts.other (by simp; omega) _).other (by simp; omega) _, (h.slots.set _ _).set _ _, by simpa using hlen, (h.below.setCell hSw _).setCell hSw _, hlI, hlF, ?_⟩
  intro i R' off' hi hd'
  by_cases e : i = k
  · subst e
    rw [hd] at hd'
    cases hd'
    refine ⟨q, c, ?_, ?_, fun hp => ?_⟩
    · rw [List.getElem?_set_ne (by omega), List.getElem?_set_self (by omega)]
    · rw [List.getElem?_set_self (by simp; omega)]
    · obtain ⟨g, g1, g2, gl, g3⟩ := hq hp
      exact ⟨g, g1, g2, by simpa using gl, fun j f x hj => ⟨cellk g _ _ g2 (g3 j f x hj).1, cellk g _ _ g2 (g3 j f x hj).2⟩⟩
  · obtain ⟨q', c', h1, h2, h3⟩ := h.done i R' off' (by omega) hd'
    refine ⟨q', c', by rw [ne _ (by omega) (by omega)]; exact h1, by rw [ne _ (by omega) (by omega)]; exact h2, fun hp => ?_⟩
    obtain ⟨g, g1, g2, gl, g3⟩ := h3 hp
    exact ⟨g, g1, g2, by simpa using gl, fun j f x hj => ⟨cellk g _ _ g2 (g3 j f x hj).1, cellk g _ _ g2 (g3 j f x hj).2⟩⟩

theorem Mid.alloc {w wr : World} {I F Sb A B k n : Nat} {sc : List Value} {T : List (List (Bool × Int) × Int)} (h : Mid w wr I F Sb A B k n sc T) (o : Obj) : Mid w (wr.alloc o) I F Sb A B k n sc T := h.keptBy (grow_alloc (grow_refl _ _) o)

/-- Behind j rounds of the third loop. -/
structure Filled (w4 wi : World) (Rb A B j L : Nat) (rc : List Value) (R : List (Bool × Int)) : Prop where
  blk : Blk wi Rb 33 rc
  len : rc.length = L * 2
  grown : w4.grownBy wi (some Rb)
  done : ∀ t f x, t < j → R[t]? = some (f, x) → rc[t * 2]? = some (.bool f) ∧ rc[t * 2 + 1]? = some (.int .i64 (red A B f x : Nat))

theorem filled_step {w4 wi : World} {Rb A B j L : Nat} {rc : List Value} {R : List (Bool × Int)} {f : Bool} {x v : Int} {o : Obj} (hv : v = (red A B f x : Nat)) (hj : j < L) (hfx : R[j]? = some (f, x)) (h : Filled w4 wi Rb A B j L rc R) :
    Filled w4 ((((wi.setCell ⟨Rb, j * 2, none⟩ (.bool f)).setCell ⟨Rb, j * 2 + 1, none⟩ (.int .i64 v)).alloc o).drew) Rb A B (j + 1) L ((rc.set (j * 2) (.bool f)).set (j * 2 + 1) (.int .i64 v)) R := by
  have hlen := h.len
  refine ⟨(((h.blk.set _ _).set _ _).alloc o).drew, by simpa using hlen, grow_drew (grow_alloc (grow_set (grow_set h.grown (Or.inl rfl) _) (Or.inl rfl) _) o), ?_⟩
  intro t f' x' ht hr
  by_cases e : t = j
  · subst e
    rw [hfx] at hr
    cases hr
    refine ⟨?_, ?_⟩
    · rw [List.getElem?_set_ne (by omega), List.getElem?_set_self (by omega)]
    · rw [List.getElem?_set_self (by simp; omega), hv]
  · obtain ⟨h1, h2⟩ := h.done t f' x' (by omega) hr
    refine ⟨?_, ?_⟩
    · rw [List.getElem?_set_ne (by omega), List.getElem?_set_ne (by omega)]; exact h1
    · rw [List.getElem?_set_ne (by omega), List.getElem?_set_ne (by omega)]; exact h2

theorem red_false (A B : Nat) (x : Int) : ((red A B false x : Nat) : Int) = x % ((A : Int) + 1) := by
  have h3 := Int.emod_nonneg x (show ((A : Int) + 1) ≠ 0 by omega)
  simp only [red, Bool.false_eq_true, if_false]
  omega
theorem red_true (A B : Nat) (x : Int) : ((red A B true x : Nat) : Int) = x % ((B : Int) + 1) := by
  have h3 := Int.emod_nonneg x (show ((B : Int) + 1) ≠ 0 by omega)
  simp only [red, if_true]
  omega
theorem grow_new {a b c : World} {r : Nat} (h : a.grownBy b none) (k : b.grownBy c (some r)) (hr : a.heap.size ≤ r) : a.grownBy c none :=
  ⟨k.os.trans h.os, k.tape.trans h.tape, k.output.trans h.output, Nat.le_trans h.size k.size, fun i hi hne => (k.block i (Nat.lt_of_lt_of_le hi h.size) (by simp; omega)).trans (h.block i hi hne)⟩

/-- vals behind k rounds of the fourth loop. -/
structure Vals (w5 wr : World) (V k m : Nat) (vc : List Value) (oldOff : Int) (keep : Bool) : Prop where
  blk : Blk wr V 38 vc
  len : vc.length = m * 5
  name : ∀ i, i < m → vc[i * 5]? = some (.string ⟨#[]⟩)
  mem : ∀ i, i < m → vc[i * 5 + 4]? = some (.bool false)
  todo : ∀ i, i < m → k ≤ i → vc[i * 5 + 1]? = some (.slice none 0 0)
  done : ∀ i, i < k → i < m → vc[i * 5 + 2]? = some (.int .i64 oldOff) ∧ vc[i * 5 + 3]? = some (.int .i64 (i : Nat)) ∧
    (keep = false → vc[i * 5 + 1]? = some (.slice none 0 0)) ∧ (keep = true → ∃ z, V < z ∧ vc[i * 5 + 1]? = some (.slice (some ⟨z, 0, none⟩) 1 1) ∧ wr.cell? ⟨z, 0, none⟩ = some (.string ⟨#[122, 122]⟩))
  grown : w5.grownBy wr (some V)

theorem made_get (z : Array Value) (N j : Nat) (hj : j < N) : (madeCells z N).toList[j]? = some (z[j % z.size]!) := by
  simp [madeCells, hj]

theorem vals_start {w5 : World} {V m base : Nat} (oldOff : Int) (keep : Bool) (h : w5.ownsRow base 38 5 (.slice (some ⟨V, 0, none⟩) m m) m (madeCells #[.string ⟨#[]⟩, .slice none 0 0, .int .i64 0, .int .i64 0, .bool false] (m * 5)).toList) :
    Vals w5 w5 V 0 m (madeCells #[.string ⟨#[]⟩, .slice none 0 0, .int .i64 0, .int .i64 0, .bool false] (m * 5)).toList oldOff keep := by
  have hb : Blk w5 V 38 (madeCells #[.string ⟨#[]⟩, .slice none 0 0, .int .i64 0, .int .i64 0, .bool false] (m * 5)).toList := by
    rcases h.2 with ⟨h', _⟩ | ⟨g', cap, cur, hv, _, hh, _, _, hcs, ht⟩
    · cases h'
    · simp only [Value.slice.injEq, Option.some.injEq, Addr.mk.injEq, and_true, true_and] at hv
      obtain ⟨rfl, rfl⟩ := hv
      rw [← ht, List.take_of_length_le (by simp; omega)]
      unfold Blk
      simpa using hh
  refine ⟨hb, by simp [size_madeCells], ?_, ?_, ?_, (fun i hi => absurd hi (Nat.not_lt_zero _)), grow_refl _ _⟩
  · intro i hi
    rw [made_get _ _ _ (by omega)]
    simp
  · intro i hi
    rw [made_get _ _ _ (by omega)]
    have : (i * 5 + 4) % 5 = 4 := by omega
    simp [this]
  · intro i hi _
    rw [made_get _ _ _ (by omega)]
    have : (i * 5 + 1) % 5 = 1 := by omega
    simp [this]

theorem vals_step_false {w5 wr : World} {V k m : Nat} {vc : List Value} {oldOff : Int} (hk : k < m) (h : Vals w5 wr V k m vc oldOff false) :
    Vals w5 ((wr.setCell ⟨V, k * 5 + 2, none⟩ (.int .i64 oldOff)).setCell ⟨V, k * 5 + 3, none⟩ (.int .i64 (k : Nat))) V (k + 1) m ((vc.set (k * 5 + 2) (.int .i64 oldOff)).set (k * 5 + 3) (.int .i64 (k : Nat))) oldOff false := by
  have hlen := h.len
  have ne : ∀ j, j ≠ k * 5 + 2 → j ≠ k * 5 + 3 → ((vc.set (k * 5 + 2) (.int .i64 oldOff)).set (k * 5 + 3) (.int .i64 (k : Nat)))[j]? = vc[j]? := fun j h1 h2 => by rw [List.getElem?_set_ne (by omega), List.getElem?_set_ne (by omega)]
  refine ⟨(h.blk.set _ _).set _ _, by simpa using hlen, ?_, ?_, ?_, ?_, grow_set (grow_set h.grown (Or.inl rfl) _) (Or.inl rfl) _⟩
  · intro i hi; rw [ne _ (by omega) (by omega)]; exact h.name i hi
  · intro i hi; rw [ne _ (by omega) (by omega)]; exact h.mem i hi
  · intro i hi hki; rw [ne _ (by omega) (by omega)]; exact h.todo i hi (by omega)
  · intro i hi him
    by_cases e : i = k
    · subst e
      refine ⟨by rw [List.getElem?_set_ne (by omega), List.getElem?_set_self (by omega)], by rw [List.getElem?_set_self (by simp; omega)], fun _ => ?_, fun h' => by cases h'⟩
      rw [ne _ (by omega) (by omega)]
      exact h.todo i him (Nat.le_refl _)
    · obtain ⟨d1, d2, d3, d4⟩ := h.done i (by omega) him
      refine ⟨by rw [ne _ (by omega) (by omega)]; exact d1, by rw [ne _ (by omega) (by omega)]; exact d2, fun _ => by rw [ne _ (by omega) (by omega)]; exact d3 rfl, fun h' => by cases h'⟩

theorem new_cell (W : World) (v : Value) (t : TypeId) (k : Nat) (hk : k = W.heap.size) : (W.alloc (.cells #[v] t)).cell? ⟨k, 0, none⟩ = some v := by
  subst hk
  simp

/-- The three cells of one value, laid. -/
theorem three_sets {vc : List Value} {a b c : Nat} {x y z : Value} (hab : a ≠ b) (hac : a ≠ c) (hbc : b ≠ c) (ha : a < vc.length) (hb : b < vc.length) (hc : c < vc.length) :
    (((vc.set a x).set b y).set c z)[a]? = some x ∧ (((vc.set a x).set b y).set c z)[b]? = some y ∧ (((vc.set a x).set b y).set c z)[c]? = some z ∧ ∀ j, j ≠ a → j ≠ b → j ≠ c → (((vc.set a x).set b y).set c z)[j]? = vc[j]? := by
  refine ⟨?_, ?_, ?_, fun j h1 h2 h3 => ?_⟩
  · rw [List.getElem?_set_ne (by omega), List.getElem?_set_ne (by omega), List.getElem?_set_self ha]
  · rw [List.getElem?_set_ne (by omega), List.getElem?_set_self (by simpa using hb)]
  · rw [List.getElem?_set_self (by simpa using hc)]
  · rw [List.getElem?_set_ne (by omega), List.getElem?_set_ne (by omega), List.getElem?_set_ne (by omega)]

theorem vals_step_gen {w5 wr W : World} {V k m N : Nat} {vc vd : List Value} {oldOff : Int} (hk : k < m) (hVN : V < N) (h : Vals w5 wr V k m vc oldOff true) (hB : Blk W V 38 vd) (hl : vd.length = vc.length) (hg : wr.grownBy W (some V))
    (c2 : vd[k * 5 + 2]? = some (.int .i64 oldOff)) (c3 : vd[k * 5 + 3]? = some (.int .i64 (k : Nat))) (c1 : vd[k * 5 + 1]? = some (.slice (some ⟨N, 0, none⟩) 1 1)) (ne : ∀ j, j ≠ k * 5 + 2 → j ≠ k * 5 + 3 → j ≠ k * 5 + 1 → vd[j]? = vc[j]?)
    (cz : W.cell? ⟨N, 0, none⟩ = some (.string ⟨#[122, 122]⟩)) : Vals w5 W V (k + 1) m vd oldOff true := by
  refine ⟨hB, by rw [hl]; exact h.len, ?_, ?_, ?_, ?_, grow_trans h.grown hg⟩
  · intro i hi; rw [ne _ (by omega) (by omega) (by omega)]; exact h.name i hi
  · intro i hi; rw [ne _ (by omega) (by omega) (by omega)]; exact h.mem i hi
  · intro i hi hki; rw [ne _ (by omega) (by omega) (by omega)]; exact h.todo i hi (by omega)
  · intro i hi him
    by_cases e : i = k
    · subst e
      exact ⟨c2, c3, (fun h' => by cases h'), fun _ => ⟨N, hVN, c1, cz⟩⟩
    · obtain ⟨d1, d2, d3, d4⟩ := h.done i (by omega) him
      refine ⟨by rw [ne _ (by omega) (by omega) (by omega)]; exact d1, by rw [ne _ (by omega) (by omega) (by omega)]; exact d2, (fun h' => by cases h'), fun _ => ?_⟩
      obtain ⟨z, z1, z2, z3⟩ := d4 rfl
      exact ⟨z, z1, by rw [ne _ (by omega) (by omega) (by omega)]; exact z2, grow_cell hg z3 (by simp; omega)⟩

theorem vals_step_true {w5 wr : World} {V k m : Nat} {vc : List Value} {oldOff : Int} (hk : k < m) (h : Vals w5 wr V k m vc oldOff true) :
    ∃ vd, Vals w5 ((((wr.setCell ⟨V, k * 5 + 2, none⟩ (.int .i64 oldOff)).setCell ⟨V, k * 5 + 3, none⟩ (.int .i64 (k : Nat))).setCell ⟨V, k * 5 + 1, none⟩ (.slice (some ⟨wr.heap.size, 0, none⟩) 1 1)).alloc (.cells #[.string ⟨#[122, 122]⟩] 9)) V (k + 1) m vd oldOff true := by
  have hlen := h.len
  have hVl := h.blk.lt
  obtain ⟨N, hN⟩ : ∃ N, N = wr.heap.size := ⟨_, rfl⟩
  rw [← hN]
  obtain ⟨q1, q2, q3, q4⟩ := three_sets (vc := vc) (a := k * 5 + 2) (b := k * 5 + 3) (c := k * 5 + 1) (x := .int .i64 oldOff) (y := .int .i64 (k : Nat)) (z := .slice (some ⟨N, 0, none⟩) 1 1) (by omega) (by omega) (by omega) (by omega) (by omega) (by omega)
  have hB := (((h.blk.set (k * 5 + 2) (.int .i64 oldOff)).set (k * 5 + 3) (.int .i64 (k : Nat))).set (k * 5 + 1) (.slice (some ⟨N, 0, none⟩) 1 1)).alloc (.cells #[.string ⟨#[122, 122]⟩] 9)
  have hg1 := grow_set (grow_refl wr (some V)) (p := ⟨V, k * 5 + 2, none⟩) (Or.inl rfl) (.int .i64 oldOff)
  have hg2 := grow_set hg1 (p := ⟨V, k * 5 + 3, none⟩) (Or.inl rfl) (.int .i64 (k : Nat))
  have hg3 := grow_set hg2 (p := ⟨V, k * 5 + 1, none⟩) (Or.inl rfl) (.slice (some ⟨N, 0, none⟩) 1 1)
  have hg4 := grow_alloc hg3 (.cells #[.string ⟨#[122, 122]⟩] 9)
  have hs : N = (((wr.setCell ⟨V, k * 5 + 2, none⟩ (.int .i64 oldOff)).setCell ⟨V, k * 5 + 3, none⟩ (.int .i64 (k : Nat))).setCell ⟨V, k * 5 + 1, none⟩ (.slice (some ⟨N, 0, none⟩) 1 1)).heap.size := by
    rw [World.size_setCell, World.size_setCell, World.size_setCell]; exact hN
  have hcz := new_cell _ (.string ⟨#[122, 122]⟩) 9 N hs
  exact ⟨_, vals_step_gen hk (by omega) h hB (by rw [List.length_set, List.length_set, List.length_set]) hg4 q1 q2 q3 q4 hcz⟩

/-- The registers with their places, as locate reads them. -/
def dred (A B : Nat) (T : List (List (Bool × Int) × Int)) : List (List (Bool × Nat) × Int) := T.map fun p => (p.1.map fun r => (r.1, red A B r.1 r.2), p.2)
theorem dred_length (A B : Nat) (T : List (List (Bool × Int) × Int)) : (dred A B T).length = T.length := by simp [dred]
theorem dred_get {A B : Nat} {T : List (List (Bool × Int) × Int)} {i : Nat} {rs : List (Bool × Nat)} {off : Int} (h : (dred A B T)[i]? = some (rs, off)) : ∃ R, T[i]? = some (R, off) ∧ rs = R.map fun r => (r.1, red A B r.1 r.2) := by
  rw [dred, List.getElem?_map] at h
  obtain ⟨⟨R, off'⟩, h1, h2⟩ := Option.map_eq_some_iff.1 h
  simp only [Prod.mk.injEq] at h2
  obtain ⟨h2, h3⟩ := h2
  subst h3
  exact ⟨R, h1, h2.symm⟩
theorem dred_of {A B : Nat} {T : List (List (Bool × Int) × Int)} {i : Nat} {R : List (Bool × Int)} {off : Int} (h : T[i]? = some (R, off)) : (dred A B T)[i]? = some (R.map fun r => (r.1, red A B r.1 r.2), off) := by
  rw [dred, List.getElem?_map, h]
  rfl
theorem dred_len (A B : Nat) (T : List (List (Bool × Int) × Int)) (h : tot T ≤ 8192) : ∀ p ∈ dred A B T, p.1.length ≤ 8192 := by
  intro p hp
  obtain ⟨i, hi, he⟩ := List.getElem_of_mem hp
  have h1 : (dred A B T)[i]? = some (p.1, p.2) := by rw [List.getElem?_eq_getElem hi, he]
  obtain ⟨R, h2, h3⟩ := dred_get h1
  have := tot_mem T i R p.2 h2
  rw [h3]
  simp
  omega

/-- No slot's registers lie in block V. -/
def GV (sc : List Value) (T : List (List (Bool × Int) × Int)) (V : Nat) : Prop :=
  ∀ i R off g c, T[i]? = some (R, off) → 0 < R.length → sc[i * 2]? = some (.slice (some ⟨g, 0, none⟩) R.length c) → g ≠ V

theorem gv_of_mid {w wr : World} {I F Sb A B n V : Nat} {sc : List Value} {T : List (List (Bool × Int) × Int)} (h : Mid w wr I F Sb A B n n sc T) (hn : T.length = n) (hV : wr.heap.size ≤ V) : GV sc T V := by
  intro i R off g c hd hp hs
  have hi : i < n := by have := (List.getElem?_eq_some_iff.1 hd).1; omega
  obtain ⟨q, c', h1, _, h3⟩ := h.done i R off hi hd
  obtain ⟨g', rfl, _, gl, _⟩ := h3 hp
  rw [h1] at hs
  simp only [Option.some.injEq, Value.slice.injEq, Addr.mk.injEq, and_true, true_and] at hs
  omega

theorem mid_grown {w w5 wr : World} {I F Sb A B n V : Nat} {sc : List Value} {T : List (List (Bool × Int) × Int)} (h : Mid w w5 I F Sb A B n n sc T) (hg : w5.grownBy wr (some V)) (hwV : w.heap.size ≤ V) (hS : Sb < V) (hGV : GV sc T V) : Mid w wr I F Sb A B n n sc T := by
  have hI := h.ltI
  have hF := h.ltF
  refine ⟨h.ints.kept hg (by simp; omega), h.flts.kept hg (by simp; omega), h.slots.kept hg (by simp; omega), h.len, h.below.trans ⟨hg.os, hg.tape, hg.output, hg.size, fun k hk => hg.block k (by have := h.below.size; omega) (by simp; omega)⟩, hI, hF, ?_⟩
  intro i R off hi hd
  obtain ⟨q, c, h1, h2, h3⟩ := h.done i R off hi hd
  refine ⟨q, c, h1, h2, fun hp => ?_⟩
  obtain ⟨g, rfl, g2, gl, g3⟩ := h3 hp
  have hgV := hGV i R off g c hd hp h1
  exact ⟨g, rfl, g2, Nat.lt_of_lt_of_le gl hg.size, fun j f x hj => ⟨grow_cell hg (g3 j f x hj).1 (by simpa using hgV), grow_cell hg (g3 j f x hj).2 (by simpa using hgV)⟩⟩

theorem ss_of_mid {w wr : World} {I F Sb A B n V : Nat} {sc : List Value} {T : List (List (Bool × Int) × Int)} (h : Mid w wr I F Sb A B n n sc T) (hn : T.length = n) (hGV : GV sc T V) : SsAt wr V (A + 1) (B + 1) sc (dred A B T) := by
  intro i rs off hd
  obtain ⟨R, hR, rfl⟩ := dred_get hd
  have hi : i < n := by have := (List.getElem?_eq_some_iff.1 hR).1; omega
  obtain ⟨q, c, h1, h2, h3⟩ := h.done i R off hi hR
  refine ⟨q, c, by rw [h1]; simp, h2, fun hp => ?_⟩
  have hp' : 0 < R.length := by simpa using hp
  obtain ⟨g, rfl, g2, _, g3⟩ := h3 hp'
  refine ⟨g, rfl, hGV i R off g c hR hp' h1, fun j f x hj => ?_⟩
  rw [List.getElem?_map] at hj
  obtain ⟨⟨f', x'⟩, r1, r2⟩ := Option.map_eq_some_iff.1 hj
  simp only [Prod.mk.injEq] at r2
  obtain ⟨rfl, rfl⟩ := r2
  obtain ⟨e1, e2⟩ := g3 j f' x' r1
  exact ⟨e1, e2, red_lt A B f' x'⟩

/-- What vals holds in the end. -/
structure Fin (w7 : World) (V m n A B : Nat) (cs : List Value) (T : List (List (Bool × Int) × Int)) (oldOff : Int) (keep : Bool) : Prop where
  blk : Blk w7 V 38 cs
  name : ∀ i, i < m → cs[i * 5]? = some (.string ⟨#[]⟩)
  size : ∀ i, i < m → cs[i * 5 + 3]? = some (.int .i64 (i : Nat))
  mem : ∀ i, i < m → cs[i * 5 + 4]? = some (.bool false)
  past : ∀ i, i < m → n ≤ i → cs[i * 5 + 2]? = some (.int .i64 oldOff)
  bare : ∀ i off, i < m → T[i]? = some ([], off) → cs[i * 5 + 2]? = some (.int .i64 off)
  off : ∀ i, i < m → (n ≤ i ∨ ∃ off, T[i]? = some ([], off)) → keep = false → cs[i * 5 + 1]? = some (.slice none 0 0)
  on : ∀ i, i < m → (n ≤ i ∨ ∃ off, T[i]? = some ([], off)) → keep = true → ∃ z, cs[i * 5 + 1]? = some (.slice (some ⟨z, 0, none⟩) 1 1) ∧ w7.cell? ⟨z, 0, none⟩ = some (.string ⟨#[122, 122]⟩)
  regs : ∀ i R off, i < m → T[i]? = some (R, off) → 0 < R.length → cs[i * 5 + 2]? = some (.int .i64 oldOff) ∧ ∃ g, cs[i * 5 + 1]? = some (.slice (some ⟨g, 0, none⟩) R.length R.length) ∧ ∀ j f x, R[j]? = some (f, x) → w7.cell? ⟨g, j, none⟩ = some (.string (nm nI nF f (red A B f x)))

theorem fin_of {w5 w6 w7 : World} {V m n A B : Nat} {vc cs : List Value} {T : List (List (Bool × Int) × Int)} {oldOff : Int} {keep : Bool} (hn : T.length = n) (h : Vals w5 w6 V m m vc oldOff keep) (hB : Blk w7 V 38 cs) (hp : Placed w6 w7 V n m vc cs (dred A B T) nI nF) (hg : w6.grownBy w7 (some V)) :
    Fin w7 V m n A B cs T oldOff keep := by
  have lt : ∀ {i : Nat} {R : List (Bool × Int)} {off : Int}, T[i]? = some (R, off) → i < n := fun h => by have := (List.getElem?_eq_some_iff.1 h).1; omega
  have one : ∀ i, (n ≤ i ∨ ∃ off, T[i]? = some ([], off)) → cs[i * 5 + 1]? = vc[i * 5 + 1]? := by
    intro i hi
    rcases hi with hi | ⟨off, hd⟩
    · exact (hp.past i hi).1
    · exact (hp.bare i off (lt hd) (by simpa using dred_of (A := A) (B := B) hd)).1
  refine ⟨hB, ?_, ?_, ?_, ?_, ?_, ?_, ?_, ?_⟩
  · intro i hi; rw [hp.name]; exact h.name i hi
  · intro i hi; rw [hp.size]; exact (h.done i hi hi).2.1
  · intro i hi; rw [hp.mem]; exact h.mem i hi
  · intro i hi hni; rw [(hp.past i hni).2]; exact (h.done i hi hi).1
  · intro i off hi hd
    exact (hp.bare i off (lt hd) (by simpa using dred_of (A := A) (B := B) hd)).2
  · intro i hi ho hk; rw [one i ho]; exact (h.done i hi hi).2.2.1 hk
  · intro i hi ho hk
    obtain ⟨z, z1, z2, z3⟩ := (h.done i hi hi).2.2.2 hk
    exact ⟨z, by rw [one i ho]; exact z2, grow_cell hg z3 (by simp; omega)⟩
  · intro i R off hi hd h0
    obtain ⟨q1, g, q2, q3, q4⟩ := hp.regs i _ off (lt hd) (dred_of (A := A) (B := B) hd) (by simpa using h0)
    refine ⟨by rw [q1]; exact (h.done i hi hi).1, g, by simpa using q3, fun j f x hj => q4 j f (red A B f x) (by rw [List.getElem?_map, hj]; rfl)⟩

end Go.Proofs.Ybulkbqpw
