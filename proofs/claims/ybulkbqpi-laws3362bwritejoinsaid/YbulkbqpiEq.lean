/-
  zzs3362beq: at two slices of the same bytes it answers true and only reads.
-/
import Derived.Test.YbulkbqpiBase
namespace Go.Proofs.Ybulkbqpi
open Go.RowKit Go.Shelf

/-- A slice of the bytes l, taken apart: empty, or at a plain address. -/
theorem hb_cases {w : World} {v : Value} {l : List UInt8} (h : Lib.HoldsBytes w v l) :
    (l = [] ∧ ∃ p cap, v = .slice p 0 cap) ∨ (0 < l.length ∧ ∃ b off cap, v = .slice (some ⟨b, off, none⟩) l.length cap ∧ ∀ i, i < l.length → w.cell? ⟨b, off + i, none⟩ = some (.int .u8 ((l.getD i 0).toNat : Int))) := by
  obtain ⟨p, cap, rfl, hn, hc⟩ := h
  cases hl : l with
  | nil => exact Or.inl ⟨rfl, p, cap, rfl⟩
  | cons x r =>
    right
    rw [← hl]
    have hpos : 0 < l.length := by rw [hl]; simp
    cases p with
    | none => rw [hn rfl] at hpos; simp at hpos
    | some a =>
      have h0 : w.cell? (a.add 0) = some (.int .u8 ((l.getD 0 0).toNat : Int)) := hc a rfl 0 _ (by simp [List.getD, List.getElem?_eq_getElem hpos])
      obtain ⟨b, off, spot⟩ := a
      have hspot : spot = none := by simpa [Addr.add] using World.cell?_spot h0
      subst hspot
      refine ⟨hpos, b, off, cap, rfl, fun i hi => ?_⟩
      have := hc _ rfl i (l.getD i 0) (by simp [List.getD, List.getElem?_eq_getElem hi])
      rwa [Lib.add_plain2] at this

set_option maxHeartbeats 400000 in
theorem eq_pos (b1 o1 c1 b2 o2 c2 : Nat) (l : List UInt8) (w : World) (hn : l.length ≤ 140737488355328) (hpos : 0 < l.length)
    (h1 : ∀ i, i < l.length → w.cell? ⟨b1, o1 + i, none⟩ = some (.int .u8 ((l.getD i 0).toNat : Int))) (h2 : ∀ i, i < l.length → w.cell? ⟨b2, o2 + i, none⟩ = some (.int .u8 ((l.getD i 0).toNat : Int))) :
    Calls Yba.prog 7 #[.slice (some ⟨b1, o1, none⟩) l.length c1, .slice (some ⟨b2, o2, none⟩) l.length c2] w fun e w' => e = .returned (.bool true) ∧ ∃ q, w' = w.drewN q := by
  obtain ⟨n, hl⟩ : ∃ n, l.length = n := ⟨_, rfl⟩
  rw [hl] at hn hpos h1 h2 ⊢
  have H1 : Hid (∀ i, i < n → w.cell? ⟨b1, o1 + i, none⟩ = some (.int .u8 ((l.getD i 0).toNat : Int))) := h1
  have H2 : Hid (∀ i, i < n → w.cell? ⟨b2, o2 + i, none⟩ = some (.int .u8 ((l.getD i 0).toNat : Int))) := h2
  clear h1 h2 hl
  go_enter Yba.func7, Yba.ntmps7
  go_wp2
  go_loopw [5] (fun i wr => ∃ k : Nat, k ≤ n ∧ i = .int .i64 k ∧ ∃ q, wr = w.drewN q) (fun i _ => n - (intOf i).toNat)
  case atStart => exact ⟨0, Nat.zero_le _, rfl, 0, rfl⟩
  case round =>
    obtain ⟨k, hk, rfl, q, rfl⟩ := hrel
    by_cases hlt : k < n
    · have g1 := H1.out k hlt
      have g2 := H2.out k hlt
      generalize (l.getD k 0).toNat = x at g1 g2
      have hlt' : (k : Int) < (n : Int) := by omega
      go_wp2
      go_quiet (fail)
      go_wp2
      go_roundw
      case rel => exact ⟨k + 1, by omega, by go_num, _, rfl⟩
      case measure => simp [intOf]; omega
    · go_wp2
      go_ret
      exact ⟨rfl, _, rfl⟩

theorem eq_none (p1 p2 : Option Addr) (c1 c2 : Nat) (w : World) :
    Calls Yba.prog 7 #[.slice p1 0 c1, .slice p2 0 c2] w fun e w' => e = .returned (.bool true) ∧ ∃ q, w' = w.drewN q := by
  go_enter Yba.func7, Yba.ntmps7
  go_wp2
  refine wp_loop_rounds 1 ?_
  rw [rounds_succ]
  go_wp2
  go_ret
  exact ⟨rfl, 0, rfl⟩

/-- zzs3362beq at two slices that hold the same bytes. -/
theorem eq_any (v1 v2 : Value) (l : List UInt8) (w : World) (hn : l.length ≤ 140737488355328) (h1 : Lib.HoldsBytes w v1 l) (h2 : Lib.HoldsBytes w v2 l) :
    Calls Yba.prog 7 #[v1, v2] w fun e w' => e = .returned (.bool true) ∧ ∃ q, w' = w.drewN q := by
  rcases hb_cases h1 with ⟨rfl, p1, c1, rfl⟩ | ⟨hp, b1, o1, c1, rfl, g1⟩
  · rcases hb_cases h2 with ⟨_, p2, c2, rfl⟩ | ⟨hp, _⟩
    · exact eq_none p1 p2 c1 c2 w
    · simp at hp
  · rcases hb_cases h2 with ⟨rfl, _⟩ | ⟨_, b2, o2, c2, rfl, g2⟩
    · simp at hp
    · exact eq_pos b1 o1 c1 b2 o2 c2 l w hn hp g1 g2

/-! ### What holds bytes goes on holding them. -/

theorem cell_lt {w : World} {a : Addr} {v : Value} (h : w.cell? a = some v) : a.block < w.heap.size := by
  rcases Nat.lt_or_ge a.block w.heap.size with h' | h'
  · exact h'
  · simp [World.cell?, Array.getElem?_eq_none h'] at h

theorem hb_kept {w w' : World} {v : Value} {l : List UInt8} (h : Lib.HoldsBytes w v l) (hc : ∀ a u, w.cell? a = some u → w'.cell? a = some u) : Lib.HoldsBytes w' v l := by
  obtain ⟨p, cap, rfl, hn, hh⟩ := h
  exact ⟨p, cap, rfl, hn, fun a ha i x hx => hc _ _ (hh a ha i x hx)⟩

theorem hb_below {w w' : World} {v : Value} {l : List UInt8} (h : Lib.HoldsBytes w v l) (hb : Below w.heap.size w w') : Lib.HoldsBytes w' v l :=
  hb_kept h fun a u hu => by rw [hb.cell (cell_lt hu)]; exact hu

/-- The block in which a slice's bytes lie is another than row. -/
def offRow (v : Value) (row : Nat) : Prop := ∀ a n c, v = .slice (some a) n c → a.block ≠ row

theorem hb_grown {w w' : World} {v : Value} {l : List UInt8} {row : Nat} (h : Lib.HoldsBytes w v l) (hg : w.grownBy w' (some row)) (ho : offRow v row) : Lib.HoldsBytes w' v l := by
  obtain ⟨p, cap, rfl, hn, hh⟩ := h
  refine ⟨p, cap, rfl, hn, fun a ha i x hx => ?_⟩
  subst ha
  have hu := hh a rfl i x hx
  have hlt := cell_lt hu
  have e : (a.add i).block = a.block := by unfold Addr.add; split <;> rfl
  rw [World.cell?_of_block (w := w) (hg.block _ hlt (by rw [e]; simpa using ho a _ _ rfl))]
  exact hu

end Go.Proofs.Ybulkbqpi
