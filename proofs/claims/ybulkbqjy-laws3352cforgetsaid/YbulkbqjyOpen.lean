/-
  FROM THE ROW's READING OF ds AND flags TO WHAT THE WALK ASKS.
-/
import Derived.Test.YbulkbqjyParts
import Derived.ProofKit
import Derived.SizedLaws
import Derived.Deep.Grids
namespace Go.Proofs.Ybulkbqjy
open Go.ChangeShapes Go.WideShapes Go.ChangeAt Go.RowKit Go.Deep

theorem cells2 : Yba.prog.cellsOf 2 = 1 := by kernel_rfl
theorem cells4 : Yba.prog.cellsOf 4 = 1 := by kernel_rfl

theorem plain_addr {w : World} {a : Addr} (h0 : ∃ u, w.cell? (a.add 0) = some u) : ∃ b o, a = ⟨b, o, none⟩ := by
  obtain ⟨u, hu⟩ := h0
  obtain ⟨b, o, spot⟩ := a
  have hspot : spot = none := by simpa [Addr.add] using World.cell?_spot hu
  subst hspot
  exact ⟨b, o, rfl⟩

theorem add_plain (b o i : Nat) : (⟨b, o, none⟩ : Addr).add i = ⟨b, o + i, none⟩ := by unfold Addr.add; split <;> simp_all

theorem i64_bounds {k : Int} (wk : (Lit.int .i64 k).wf = true) : -9223372036854775808 ≤ k ∧ k ≤ 9223372036854775807 := by
  simpa [Lit.wf, IntKind.min, IntKind.max, IntKind.signed, IntKind.bits] using wk

theorem view_ints {H : Type} {enc : TypeId × Value → H} {W : World} {a : Option Addr} {len cap : Nat} {d : DataW H} {p : List MemPlace}
    (h : DataW.Trod enc Yba.prog W 0 (fun _ => true) true 22 (.slice a len cap) d p) :
    ∃ D : List Int, D.length = len ∧ len ≤ 9223372036854775807 ∧ ∀ i x, D[i]? = some x → -9223372036854775808 ≤ x ∧ x ≤ 9223372036854775807 ∧ ∃ b o, a = some ⟨b, o, none⟩ ∧ W.cell? ⟨b, o + i, none⟩ = some (.int .i64 x) := by
  obtain ⟨fuel, hf⟩ := h
  rcases open_ints Yba.underlying22 Yba.underlying2 cells2 hf with ⟨hcs, _⟩ | ⟨a', len', cap', zs, hcs, _, hl, hm, hzl, _, hc, hw⟩
  · simp [Value.cells] at hcs
    obtain ⟨rfl, rfl, rfl⟩ := hcs
    exact ⟨[], rfl, by omega, fun i x h => by simp at h⟩
  · simp [Value.cells] at hcs
    obtain ⟨rfl, rfl, rfl⟩ := hcs
    simp only [if_true] at hzl
    refine ⟨zs.take len, by simp; omega, by unfold maxLen at hm; omega, fun i x hx => ?_⟩
    have hil : i < len := by have := (List.getElem?_eq_some_iff.1 hx).1; simp at this; omega
    rw [List.getElem?_take, if_pos hil] at hx
    have hiz : i < zs.length := (List.getElem?_eq_some_iff.1 hx).1
    have hb := i64_bounds (hw x (List.mem_of_getElem? hx))
    obtain ⟨b, o, rfl⟩ := plain_addr ⟨_, hc 0 (by omega)⟩
    have := hc i hiz
    rw [add_plain] at this
    simp [List.getD, hx] at this
    exact ⟨hb.1, hb.2, b, o, rfl, this⟩

theorem view_bools {H : Type} {enc : TypeId × Value → H} {W : World} {a : Option Addr} {len cap : Nat} {d : DataW H} {p : List MemPlace}
    (h : DataW.Trod enc Yba.prog W 0 (fun _ => true) true 23 (.slice a len cap) d p) :
    ∃ F : List Bool, F.length = len ∧ ∀ i x, F[i]? = some x → ∃ b o, a = some ⟨b, o, none⟩ ∧ W.cell? ⟨b, o + i, none⟩ = some (.bool x) := by
  obtain ⟨fuel, hf⟩ := h
  rcases open_bools Yba.underlying23 Yba.underlying4 cells4 hf with ⟨hcs, _⟩ | ⟨a', len', cap', B, hcs, _, hl, hm, _, hc⟩
  · simp [Value.cells] at hcs
    obtain ⟨rfl, rfl, rfl⟩ := hcs
    exact ⟨[], rfl, fun i x h => by simp at h⟩
  · simp [Value.cells] at hcs
    obtain ⟨rfl, rfl, rfl⟩ := hcs
    refine ⟨(List.range len).map B, by simp, fun i x hx => ?_⟩
    have hil : i < len := by have := (List.getElem?_eq_some_iff.1 hx).1; simpa using this
    simp [hil] at hx
    subst hx
    obtain ⟨b, o, rfl⟩ := plain_addr ⟨_, hc 0 (by omega)⟩
    have := hc i (by omega)
    rw [add_plain] at this
    exact ⟨b, o, rfl, this⟩
end Go.Proofs.Ybulkbqjy
