/-
  THE GROUND OF LawS3352CForget: blocks that are known whole.
-/
import Derived.Test.YbulkbqjyRows
import Derived.WalkKit
import Derived.WalkSpells
import Derived.WalkLawsBesides
import Derived.Deep.QuietTactic
import Derived.BigQuiet
import Derived.BigRegion
import Derived.Deep.RegionWith
namespace Go.Proofs.Ybulkbqjy
open Go.RowKit

/-- Block V holds just the cells cs, of element type t, none frozen. -/
def Blk (w : World) (V : Nat) (t : TypeId) (cs : List Value) : Prop := w.heap[V]? = some (.cells cs.toArray t (0, 0))

theorem Blk.lt {w : World} {V : Nat} {t : TypeId} {cs : List Value} (h : Blk w V t cs) : V < w.heap.size := by
  rcases Nat.lt_or_ge V w.heap.size with h' | h'
  · exact h'
  · unfold Blk at h; rw [Array.getElem?_eq_none h'] at h; cases h

theorem Blk.cell {w : World} {V : Nat} {t : TypeId} {cs : List Value} (h : Blk w V t cs) {j : Nat} {v : Value} (hj : cs[j]? = some v) : w.cell? ⟨V, j, none⟩ = some v := by
  unfold Blk at h
  rw [cell_of_row w V j cs.toArray t (0, 0) h]
  simpa using hj

theorem Blk.free {w : World} {V : Nat} {t : TypeId} {cs : List Value} (h : Blk w V t cs) (j : Nat) : w.frozen? ⟨V, j, none⟩ = false := by
  unfold Blk at h
  simp [World.frozen?, h]

theorem Blk.set {w : World} {V : Nat} {t : TypeId} {cs : List Value} (h : Blk w V t cs) (j : Nat) (v : Value) : Blk (w.setCell ⟨V, j, none⟩ v) V t (cs.set j v) := by
  unfold Blk at h ⊢
  simp only [World.setCell, Array.getElem?_modify, if_true, h, Option.map_some]
  simp

theorem Blk.other {w : World} {V : Nat} {t : TypeId} {cs : List Value} (h : Blk w V t cs) {p : Addr} (hp : p.block ≠ V) (v : Value) : Blk (w.setCell p v) V t cs := by
  unfold Blk at h ⊢
  rw [Below.heap_setCell _ _ _ _ (by omega)]
  exact h

theorem Blk.alloc {w : World} {V : Nat} {t : TypeId} {cs : List Value} (h : Blk w V t cs) (o : Obj) : Blk (w.alloc o) V t cs := by
  have hl := h.lt
  unfold Blk at h ⊢
  rw [Below.heap_alloc _ _ _ hl]
  exact h

theorem Blk.drew {w : World} {V : Nat} {t : TypeId} {cs : List Value} (h : Blk w V t cs) : Blk w.drew V t cs := h

theorem Blk.kept {w w' : World} {V : Nat} {row : Option Nat} {t : TypeId} {cs : List Value} (h : Blk w V t cs) (hg : w.grownBy w' row) (hne : some V ≠ row) : Blk w' V t cs := by
  have hl := h.lt
  unfold Blk at h ⊢
  rw [hg.block V hl hne]
  exact h

/-! ### grownBy, step by step -/
theorem grow_refl (w : World) (row : Option Nat) : w.grownBy w row := ⟨rfl, rfl, rfl, Nat.le_refl _, fun _ _ _ => rfl⟩
theorem grow_trans {a b c : World} {row : Option Nat} (h : a.grownBy b row) (k : b.grownBy c row) : a.grownBy c row :=
  ⟨k.os.trans h.os, k.tape.trans h.tape, k.output.trans h.output, Nat.le_trans h.size k.size, fun i hi hne => (k.block i (Nat.lt_of_lt_of_le hi h.size) hne).trans (h.block i hi hne)⟩
theorem grow_alloc {a b : World} {row : Option Nat} (h : a.grownBy b row) (o : Obj) : a.grownBy (b.alloc o) row :=
  grow_trans h ⟨rfl, rfl, rfl, by simp, fun i hi _ => Below.heap_alloc _ _ _ hi⟩
theorem grow_drew {a b : World} {row : Option Nat} (h : a.grownBy b row) : a.grownBy b.drew row := ⟨h.os, h.tape, h.output, h.size, h.block⟩
/-- A store into the row, or into a block that is new. -/
theorem grow_set {a b : World} {row : Option Nat} (h : a.grownBy b row) {p : Addr} (hp : some p.block = row ∨ a.heap.size ≤ p.block) (v : Value) : a.grownBy (b.setCell p v) row :=
  ⟨h.os, h.tape, h.output, by simpa [World.setCell] using h.size, fun i hi hne => by
    have hip : i ≠ p.block := by
      intro e
      subst e
      rcases hp with hp | hp
      · exact hne hp
      · omega
    rw [Below.heap_setCell _ _ _ _ hip]
    exact h.block i hi hne⟩
theorem grow_below {a b : World} {row : Option Nat} (h : Below a.heap.size a b) : a.grownBy b row := ⟨h.os, h.tape, h.output, h.size, fun i hi _ => h.block i hi⟩
theorem grow_cell {a b : World} {row : Option Nat} (h : a.grownBy b row) {p : Addr} {u : Value} (hc : a.cell? p = some u) (hne : some p.block ≠ row) : b.cell? p = some u := by
  have hl : p.block < a.heap.size := by
    rcases Nat.lt_or_ge p.block a.heap.size with h' | h'
    · exact h'
    · simp [World.cell?, Array.getElem?_eq_none h'] at hc
  rw [World.cell?_of_block (w := a) (h.block _ hl hne)]
  exact hc

theorem cell_lt {w : World} {a : Addr} {v : Value} (h : w.cell? a = some v) : a.block < w.heap.size := by
  rcases Nat.lt_or_ge a.block w.heap.size with h' | h'
  · exact h'
  · simp [World.cell?, Array.getElem?_eq_none h'] at h

theorem grow_row {a b : World} {row : Option Nat} (h : a.grownBy b none) : a.grownBy b row := ⟨h.os, h.tape, h.output, h.size, fun i hi _ => h.block i hi (by simp)⟩

/-- An owned row that fills its block, as a block known whole. -/
theorem blk_of_own {w : World} {base g n : Nat} {e : TypeId} {size : Nat} {xs : List Value} (h : w.ownsRow base e size (.slice (some ⟨g, 0, none⟩) n n) n xs) : ∃ cs : List Value, cs.length = n * size ∧ Blk w g e cs := by
  rcases h.2 with ⟨h', _⟩ | ⟨g', cap, cur, hv, hb, hh, hnc, hcm, hcs, ht⟩
  · cases h'
  · simp only [Value.slice.injEq, Option.some.injEq, Addr.mk.injEq, and_true, true_and] at hv
    obtain ⟨rfl, rfl⟩ := hv
    exact ⟨cur.toList, by simpa using hcs, by unfold Blk; simpa using hh⟩

end Go.Proofs.Ybulkbqjy
