/-
  (gathered).join: the pieces end to end, then rest.
-/
import Derived.Test.YbulkbqpiCat
namespace Go.Proofs.Ybulkbqpi
open Go.RowKit Go.Shelf

theorem join_flat (ls : List (List UInt8)) : Lib.join ls [] = ls.flatten := by
  cases ls with
  | nil => rfl
  | cons x r => rw [Lib.join_cons]; simp [Lib.joinTail]

theorem hb_of_fresh {B : Nat} {w : World} {v : Value} {l : List UInt8} (h : Lib.FreshBytes B w v l) : Lib.HoldsBytes w v l := by
  obtain ⟨g, cap, zs, rfl, _, hlc, _, hz, hr, hb, hc, _⟩ := h
  refine ⟨some ⟨g, 0, none⟩, cap, rfl, (fun e => by cases e), fun a ha i x hx => ?_⟩
  cases ha
  have hi : i < l.length := (List.getElem?_eq_some_iff.1 hx).1
  rw [Lib.add_plain2, Nat.zero_add, hc i (by omega)]
  have hzi : i < zs.length := by omega
  have e1 : (Lib.bytesOf (zs.take l.length))[i]? = some x := by rw [hb]; exact hx
  have hrng := hr zs[i] (List.getElem_mem hzi)
  have e2 : zs.getD i 0 = (x.toNat : Int) := by
    simp [Lib.bytesOf, hi, List.getElem?_eq_getElem hzi] at e1
    simp [List.getD, List.getElem?_eq_getElem hzi]
    rw [← e1]
    simp
    omega
  rw [e2]

/-- bytes.Join at two parts or more with no separator, over an owned row of slices. -/
theorem bjoin (B : Nat) (v : Value) (n : Nat) (vs : List Value) (ls : List (List UInt8)) (w : World) (hown : w.ownsRow B 23 1 v n vs) (hn : ls.length = n) (h2 : 2 ≤ n) (hn47 : n ≤ 140737488355328) (hlen : Lib.lens ls ≤ 140737488355328)
    (hh : ∀ (i : Nat) u l, vs[i]? = some u → ls[i]? = some l → Lib.HoldsBytes w u l) :
    Calls Yba.prog 10 #[v, .slice none 0 0] w fun e w' => ∃ v', e = .returned v' ∧ Lib.HoldsBytes w' v' ls.flatten ∧ Below w.heap.size w w' := by
  have hvl := hown.1
  rcases hown.2 with ⟨_, h0⟩ | ⟨g, cap, cur, rfl, hg, hb, hnc, _⟩
  · omega
  · have hP : Lib.PartsAt w ⟨g, 0, none⟩ vs ls := ⟨by omega, fun i u hu => hown.cells (g := g) rfl i u hu, hh⟩
    have hS : Lib.HoldsBytes w (.slice none 0 0) [] := ⟨none, 0, rfl, fun _ => rfl, fun a ha => by cases ha⟩
    have := Any.bytes_Join_many laysJ g 0 n cap vs ls (.slice none 0 0) [] w hn h2 hP hnc hS hn47 (by simpa using hlen)
    refine Calls.mono this ?_
    rintro e w' ⟨v', rfl, hf, hbel⟩
    rw [join_flat] at hf
    exact ⟨v', rfl, hb_of_fresh hf, hbel⟩

theorem snoc_get {α : Type} {xs : List α} {x y : α} {i : Nat} (h : (xs ++ [x])[i]? = some y) : xs[i]? = some y ∨ (i = xs.length ∧ y = x) := by
  rcases Nat.lt_trichotomy i xs.length with h' | h' | h'
  · left; rwa [List.getElem?_append_left h'] at h
  · right; subst h'; simp at h; exact ⟨rfl, h.symm⟩
  · rw [List.getElem?_eq_none (by simp; omega)] at h; cases h

/-- No piece: rest itself; nothing is read, nothing turns. -/
theorem join_none (p : Option Addr) (c : Nat) (rv : Value) (w : World) :
    Calls Yba.prog 6 #[.slice p 0 c, rv] w fun e w' => e = .returned rv ∧ w' = w := by
  go_enter Yba.func6, Yba.ntmps6
  go_wp2
  go_ret
  exact ⟨rfl, rfl⟩

set_option maxHeartbeats 400000 in
/-- One piece or more, over an owned row: the bytes end to end; but for the row itself nothing old has turned. -/
theorem join_own (B g n cap : Nat) (vs : List Value) (ls : List (List UInt8)) (rv : Value) (lr : List UInt8) (w : World) (hB : B ≤ w.heap.size) (hown : w.ownsRow B 23 1 (.slice (some ⟨g, 0, none⟩) n cap) n vs) (hn : ls.length = n) (h1 : 1 ≤ n) (hn47 : n ≤ 4096)
    (hlen : Lib.lens ls + lr.length ≤ 140737488355328) (hh : ∀ (i : Nat) u l, vs[i]? = some u → ls[i]? = some l → Lib.HoldsBytes w u l ∧ offRow u g) (hr : Lib.HoldsBytes w rv lr) (hro : offRow rv g) :
    Calls Yba.prog 6 #[.slice (some ⟨g, 0, none⟩) n cap, rv] w fun e w' => ∃ v', e = .returned v' ∧ Lib.HoldsBytes w' v' (ls.flatten ++ lr) ∧ w.grownBy w' (some g) := by
  obtain ⟨i0, hi, hz0, hz1, hz2⟩ := info_parts info23
  have f0 : ((n : Int) == 0) = false := beq_eq_false_iff_ne.2 (by omega)
  have hvl : vs.length = n := by have := hown.1; omega
  have HH : Hid (∀ (i : Nat) u l, vs[i]? = some u → ls[i]? = some l → Lib.HoldsBytes w u l ∧ offRow u g) := hh
  have HR : Hid (Lib.HoldsBytes w rv lr) := hr
  have HN : Hid (ls.length = n) := hn
  have HV : Hid (vs.length = n) := hvl
  clear hh hr hn hvl
  obtain ⟨p, c, rfl, _⟩ : ∃ p c, rv = .slice p lr.length c ∧ True := by obtain ⟨p, c, e, _⟩ := HR.out; exact ⟨p, c, e, trivial⟩
  go_enter Yba.func6, Yba.ntmps6
  go_wp2_with (at_builtin; refine wpList_append_own _ rfl (.tmp 9) (.tmp 11) 24 rfl B 23 i0 (.slice none 0 0) 1 24 Yba.underlying24 hi hz0 hz1 hz2 rfl (by decide) _ n vs rfl (hown.alloc _) ⟨w.heap.size, 0, none⟩ 1 1 [.slice p lr.length c] rfl rfl (cell_one_new _ _ _) ?j1 (by unfold maxLen; omega) (by omega) (by simp; omega) ?_)
  case j1 => intro u hu; simp at hu; subst hu; rfl
  intro v1 w1 hown1 hgrow1 _
  have hg1 : w.grownBy w1 (some g) := ⟨hgrow1.os, hgrow1.tape, hgrow1.output, by have := hgrow1.size; simp at this; omega, fun k hk hne => by rw [hgrow1.block k (by simp; omega) hne]; exact Below.heap_alloc _ _ _ hk⟩
  have hall : ∀ (i : Nat) u l, (vs ++ [.slice p lr.length c])[i]? = some u → (ls ++ [lr])[i]? = some l → Lib.HoldsBytes w1 u l := by
    intro i u l hu hl
    rcases snoc_get hu with h | ⟨he, rfl⟩
    · rcases snoc_get hl with h' | ⟨he', _⟩
      · obtain ⟨a, b⟩ := HH.out i u l h h'
        exact hb_grown a hg1 b
      · have := (List.getElem?_eq_some_iff.1 h).1
        have := HN.out
        have := HV.out
        omega
    · rcases snoc_get hl with h' | ⟨_, rfl⟩
      · have := (List.getElem?_eq_some_iff.1 h').1
        have := HN.out
        have := HV.out
        omega
      · exact hb_grown HR.out hg1 hro
  have HALL : Hid (∀ (i : Nat) u l, (vs ++ [.slice p lr.length c])[i]? = some u → (ls ++ [lr])[i]? = some l → Lib.HoldsBytes w1 u l) := hall
  have HO : Hid (w1.ownsRow B 23 1 v1 (n + 1) (vs ++ [.slice p lr.length c])) := hown1
  clear hall hown1 hgrow1
  go_wp2_with fail
  refine (bjoin B v1 (n + 1) _ (ls ++ [lr]) w1 HO.out (by simp [HN.out]) (by omega) (by omega) (by simp [Lib.lens] at hlen ⊢; omega) HALL.out).mono ?_
  rintro e w2 ⟨v2, rfl, hb2, hbel⟩
  have hfin : w.grownBy w2 (some g) := ⟨hbel.os.trans hg1.os, hbel.tape.trans hg1.tape, hbel.output.trans hg1.output, Nat.le_trans hg1.size hbel.size, fun k hk hne => by rw [hbel.block k (Nat.lt_of_lt_of_le hk hg1.size)]; exact hg1.block k hk hne⟩
  go_wp2
  go_ret
  exact ⟨_, rfl, by simpa using hb2, hfin⟩

set_option maxHeartbeats 400000 in
/-- The same where the row has no spare cell: nothing old has turned. -/
theorem join_full (B g n : Nat) (vs : List Value) (ls : List (List UInt8)) (rv : Value) (lr : List UInt8) (w : World) (hown : w.ownsRow B 23 1 (.slice (some ⟨g, 0, none⟩) n n) n vs) (hn : ls.length = n) (h1 : 1 ≤ n) (hn47 : n ≤ 4096)
    (hlen : Lib.lens ls + lr.length ≤ 140737488355328) (hh : ∀ (i : Nat) u l, vs[i]? = some u → ls[i]? = some l → Lib.HoldsBytes w u l) (hr : Lib.HoldsBytes w rv lr) :
    Calls Yba.prog 6 #[.slice (some ⟨g, 0, none⟩) n n, rv] w fun e w' => ∃ v', e = .returned v' ∧ Lib.HoldsBytes w' v' (ls.flatten ++ lr) ∧ Below w.heap.size w w' := by
  obtain ⟨i0, hi, hz0, hz1, hz2⟩ := info_parts info23
  have f0 : ((n : Int) == 0) = false := beq_eq_false_iff_ne.2 (by omega)
  have hvl : vs.length = n := by have := hown.1; omega
  have HH : Hid (∀ (i : Nat) u l, vs[i]? = some u → ls[i]? = some l → Lib.HoldsBytes w u l) := hh
  have HR : Hid (Lib.HoldsBytes w rv lr) := hr
  have HN : Hid (ls.length = n) := hn
  have HV : Hid (vs.length = n) := hvl
  clear hh hr hn hvl
  obtain ⟨p, c, rfl, _⟩ : ∃ p c, rv = .slice p lr.length c ∧ True := by obtain ⟨p, c, e, _⟩ := HR.out; exact ⟨p, c, e, trivial⟩
  go_enter Yba.func6, Yba.ntmps6
  go_wp2_with (at_builtin; refine wpList_append_grows _ rfl (.tmp 9) (.tmp 11) 24 rfl 23 i0 (.slice none 0 0) 1 24 Yba.underlying24 hi hz0 hz1 hz2 rfl (by decide) (some ⟨g, 0, none⟩) n n vs rfl (by intro h; cases h) hown.1 ?j0 ⟨w.heap.size, 0, none⟩ 1 1 [.slice p lr.length c] rfl rfl (cell_one_new _ _ _) ?j1 (by omega) (by unfold maxLen; omega) (by omega) ?_)
  case j0 => intro b hb; cases hb; exact (hown.alloc _).cells (g := g) rfl
  case j1 => intro u hu; simp at hu; subst hu; rfl
  intro v1 w1 hown1 hgrow1
  have hg1 : Below w.heap.size w w1 := ((Below.refl _ _).alloc (Nat.le_refl _) _).grown hgrow1 (by simp) (by intro k hk; cases hk)
  have hall : ∀ (i : Nat) u l, (vs ++ [.slice p lr.length c])[i]? = some u → (ls ++ [lr])[i]? = some l → Lib.HoldsBytes w1 u l := by
    intro i u l hu hl
    rcases snoc_get hu with h | ⟨he, rfl⟩
    · rcases snoc_get hl with h' | ⟨he', _⟩
      · exact hb_below (HH.out i u l h h') hg1
      · have := (List.getElem?_eq_some_iff.1 h).1
        have := HN.out
        have := HV.out
        omega
    · rcases snoc_get hl with h' | ⟨_, rfl⟩
      · have := (List.getElem?_eq_some_iff.1 h').1
        have := HN.out
        have := HV.out
        omega
      · exact hb_below HR.out hg1
  have HALL : Hid (∀ (i : Nat) u l, (vs ++ [.slice p lr.length c])[i]? = some u → (ls ++ [lr])[i]? = some l → Lib.HoldsBytes w1 u l) := hall
  have HO : Hid (w1.ownsRow (w.heap.size + 1) 23 1 v1 (n + 1) (vs ++ [.slice p lr.length c])) := hown1
  clear hall hown1 hgrow1
  go_wp2_with fail
  refine (bjoin (w.heap.size + 1) v1 (n + 1) _ (ls ++ [lr]) w1 HO.out (by simp [HN.out]) (by omega) (by omega) (by simp [Lib.lens] at hlen ⊢; omega) HALL.out).mono ?_
  rintro e w2 ⟨v2, rfl, hb2, hbel⟩
  have hfin : Below w.heap.size w w2 := hg1.trans (hbel.mono hg1.size)
  go_wp2
  go_ret
  exact ⟨_, rfl, by simpa using hb2, hfin⟩

end Go.Proofs.Ybulkbqpi
