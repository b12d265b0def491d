/-
  zzs3362bclone: a copy in new memory (nil stays nil).
-/
import Derived.Test.YbulkbqpiEq
namespace Go.Proofs.Ybulkbqpi
open Go.RowKit Go.Shelf

theorem info5 : (Yba.prog.info? 5).map (fun i => (i.zero, i.size, i.bytes)) = some (some (.int .u8 0), 1, 1) := by kernel_rfl
theorem info23 : (Yba.prog.info? 23).map (fun i => (i.zero, i.size, i.bytes)) = some (some (.slice none 0 0), 1, 24) := by kernel_rfl
theorem sz5 : (Yba.prog.info? 5).map (·.size) = some 1 := by kernel_rfl

/-- The cells of a list of bytes. -/
def bcells (l : List UInt8) : List Value := l.map fun x => Value.int .u8 (x.toNat : Int)
theorem bcells_length (l : List UInt8) : (bcells l).length = l.length := by simp [bcells]
theorem bcells_one (l : List UInt8) : ∀ u ∈ bcells l, u.oneCell' = true := by
  intro u hu
  obtain ⟨x, _, rfl⟩ := List.mem_map.1 hu
  rfl

/-- An owned row of bytes holds them. -/
theorem hb_of_own {w : World} {base : Nat} {v : Value} {n : Nat} {l : List UInt8} (h : w.ownsRow base 5 1 v n (bcells l)) : Lib.HoldsBytes w v l := by
  have hl := h.1
  rw [bcells_length] at hl
  rcases h.2 with ⟨rfl, hn⟩ | ⟨g, cap, cur, rfl, hg, hh, r⟩
  · have e : l = [] := List.eq_nil_of_length_eq_zero (by omega)
    subst e
    exact ⟨none, 0, rfl, fun _ => rfl, fun a ha => by cases ha⟩
  · refine ⟨some ⟨g, 0, none⟩, cap, (by congr 1; omega), (fun e => by cases e), fun a ha i x hx => ?_⟩
    cases ha
    exact h.cells (g := g) rfl i _ (by simp [bcells, hx])

set_option maxHeartbeats 400000 in
theorem clone_nil (n c : Nat) (w : World) :
    Calls Yba.prog 5 #[.slice none n c] w fun e w' => e = .returned (.slice none 0 0) ∧ w' = w := by
  have q23 : ∀ (w : World) (a : Option Addr) (n c n' c' : Nat), (binOp .eql 23 (.slice a n c) (.slice none n' c')).run Yba.prog w = .ok (.bool a.isNone) w := fun w a n c n' c' => Lib.run_eql_slice_nil w _ _ a n c n' c' Yba.underlying23
  go_enter Yba.func5, Yba.ntmps5
  go_wp2
  go_ret
  exact ⟨rfl, rfl⟩

set_option maxHeartbeats 400000 in
theorem clone_some (a : Addr) (c : Nat) (l : List UInt8) (w : World) (hl : l.length ≤ 140737488355328) (hc : ∀ (i : Nat) x, l[i]? = some x → w.cell? (a.add i) = some (.int .u8 (x.toNat : Int))) :
    Calls Yba.prog 5 #[.slice (some a) l.length c] w fun e w' => ∃ v', e = .returned v' ∧ w'.ownsRow w.heap.size 5 1 v' l.length (bcells l) ∧ Below w.heap.size w w' := by
  have q23 : ∀ (w : World) (a : Option Addr) (n c n' c' : Nat), (binOp .eql 23 (.slice a n c) (.slice none n' c')).run Yba.prog w = .ok (.bool a.isNone) w := fun w a n c n' c' => Lib.run_eql_slice_nil w _ _ a n c n' c' Yba.underlying23
  obtain ⟨i0, hi, hz0, hz1, hz2⟩ := info_parts info5
  obtain ⟨n, hn⟩ : ∃ n, l.length = n := ⟨_, rfl⟩
  have HC : Hid (∀ (i : Nat) x, l[i]? = some x → w.cell? (a.add i) = some (.int .u8 (x.toNat : Int))) := hc
  have HN : Hid (l.length = n) := hn
  rw [hn] at hl ⊢
  clear hc hn
  go_enter Yba.func5, Yba.ntmps5
  go_wp2_with (at_make; refine wpList_make_full _ rfl (.tmp 7) (.tmp 7) 23 rfl w.heap.size 5 i0 (.int .u8 0) 1 Yba.underlying23 hi hz0 hz1 .i64 .i64 _ _ n rfl rfl rfl rfl (by rw [hz2]; omega) (by unfold maxLen; omega) (Nat.le_refl _) ?_)
  intro w1 hown hgrow
  have hb1 : Below w.heap.size w w1 := (Below.refl _ _).grown hgrow (Nat.le_refl _) (by intro k hk; cases hk)
  rcases hown.2 with ⟨h', _⟩ | ⟨g, cap, cur, hv, hg, hh, hnc, hcm, hcs, ht⟩
  · cases h'
  · simp only [Value.slice.injEq, Option.some.injEq, Addr.mk.injEq, and_true, true_and] at hv
    obtain ⟨rfl, rfl⟩ := hv
    have hcl : cur.toList.length = n := by simp; omega
    have hhe : w1.heap[w.heap.size]? = some (.cells cur.toList.toArray 5 (0, 0)) := by simpa using hh
    clear hown hgrow hh
    have HH : Hid (w1.heap[w.heap.size]? = some (.cells cur.toList.toArray 5 (0, 0))) := hhe
    clear hhe
    go_wp2_with (refine wpList_copy_splice rfl (.tmp 9) (.tmp 10) 23 23 rfl 5 Yba.underlying23 sz5 _ _ _ _ _ _ rfl rfl w.heap.size 0 cur.toList 5 HH.out (bcells l) ?k1 ?k2 ?k3 (bcells_one l) w.heap.size w hb1 (Nat.le_refl _) ?_)
    case k1 => rw [bcells_length, HN.out]; simp
    case k2 =>
      intro _ j v hj
      rw [bcells, List.getElem?_map] at hj
      obtain ⟨x, hx, rfl⟩ := Option.map_eq_some_iff.1 hj
      have hu := HC.out j x hx
      rw [hb1.cell (cell_lt hu)]
      exact hu
    case k3 => rw [bcells_length, HN.out]; omega
    intro w2 HG hb2
    have hs : splice cur.toList 0 (bcells l) = bcells l := by
      have e1 : (bcells l).length = n := by rw [bcells_length, HN.out]
      simp [splice, e1, List.drop_eq_nil_of_le (show cur.toList.length ≤ n by omega)]
    rw [hs] at HG
    go_wp2
    go_ret
    refine ⟨_, rfl, ⟨by rw [bcells_length, HN.out]; omega, Or.inr ⟨w.heap.size, n, (bcells l).toArray, rfl, Nat.le_refl _, HG.out, Nat.le_refl _, hcm, by simp [bcells_length, HN.out], by rw [Nat.mul_one, List.take_of_length_le (by simp [bcells_length, HN.out])]⟩⟩, hb2⟩

/-- zzs3362bclone, at every slice of bytes: the same bytes, in memory of the call's own. -/
theorem clone_any (v : Value) (l : List UInt8) (w : World) (hl : l.length ≤ 140737488355328) (h : Lib.HoldsBytes w v l) :
    Calls Yba.prog 5 #[v] w fun e w' => ∃ v', e = .returned v' ∧ Lib.HoldsBytes w' v' l ∧ Below w.heap.size w w' ∧ ∀ row, row < w.heap.size → offRow v' row := by
  obtain ⟨p, cap, rfl, hn, hc⟩ := h
  cases p with
  | none =>
    obtain rfl := hn rfl
    refine (clone_nil _ _ w).mono ?_
    rintro e w' ⟨rfl, rfl⟩
    exact ⟨_, rfl, ⟨none, 0, rfl, fun _ => rfl, fun a ha => by cases ha⟩, Below.refl _ _, fun row _ a n c e => by cases e⟩
  | some a =>
    refine (clone_some a cap l w hl (hc a rfl)).mono ?_
    rintro e w' ⟨v', rfl, hown, hb⟩
    refine ⟨v', rfl, hb_of_own hown, hb, fun row hr a n c e => ?_⟩
    have := (hown.lt a.block (by rw [e]; rfl)).1
    omega

end Go.Proofs.Ybulkbqpi
