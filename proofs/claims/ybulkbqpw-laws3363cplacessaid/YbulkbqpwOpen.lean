/-
  FROM THE ROW's READING OF slots TO WHAT THE WALK ASKS.
-/
import Derived.Test.YbulkbqpwParts
import Derived.ProofKit
import Derived.SizedLaws
import Derived.Deep.SlicePairs
namespace Go.Proofs.Ybulkbqpw
open Go.ChangeShapes Go.WideShapes Go.ChangeAt Go.RowKit Go.Deep

theorem cells25 : Yba.prog.cellsOf 25 = 2 := by kernel_rfl
theorem cells31 : Yba.prog.cellsOf 31 = 2 := by kernel_rfl
theorem cells23 : Yba.prog.cellsOf 23 = 1 := by kernel_rfl
theorem cells2 : Yba.prog.cellsOf 2 = 1 := by kernel_rfl
theorem cells4 : Yba.prog.cellsOf 4 = 1 := by kernel_rfl
theorem cells5 : Yba.prog.cellsOf 5 = 1 := by kernel_rfl
theorem bytes31 : Yba.prog.bytesOf 31 = 2 := by kernel_rfl

theorem plain_addr {w : World} {a : Addr} {v : Value} {j : Nat} (h : w.cell? (a.add j) = some v) (h0 : ∃ u, w.cell? (a.add 0) = some u) : ∃ b o, a = ⟨b, o, none⟩ := by
  obtain ⟨u, hu⟩ := h0
  obtain ⟨b, o, spot⟩ := a
  have hspot : spot = none := by simpa [Addr.add] using World.cell?_spot hu
  subst hspot
  exact ⟨b, o, rfl⟩

theorem add_plain' (b o i : Nat) : (⟨b, o, none⟩ : Addr).add i = ⟨b, o + i, none⟩ := by unfold Addr.add; split <;> simp_all

/-- One slot's registers. -/
theorem view_regs {H : Type} {enc : TypeId × Value → H} {W : World} {n : Nat} {v : Value} {d : DataW H} {p : List MemPlace}
    (h : DataW.trod enc Yba.prog W 0 (fun _ => true) true n 23 [v] = some (d, p)) :
    ∃ q c R, v = .slice q R.length c ∧ RegsIn W q R ∧ (d = .nil ∧ R.length = 0 ∨ ∃ elems spare, d = .slice elems spare ∧ elems.length = R.length) := by
  rcases open_slice_pairs Yba.underlying23 Yba.underlying31 cells31 rfl rfl cells4 cells5 h with ⟨hcs, hx⟩ | ⟨a, len, cap, m, k, V0, V1, D0, D1, P0, P1, hcs, _, hl, hm, hmm, hx, hc⟩
  · simp only [List.cons.injEq, and_true] at hcs
    subst hcs
    simp only [Prod.mk.injEq] at hx
    exact ⟨none, 0, [], rfl, (fun j f x h => by simp at h), Or.inl ⟨hx.1, rfl⟩⟩
  · simp only [List.cons.injEq, and_true] at hcs
    subst hcs
    simp only [if_true] at hmm
    have hmm' := hmm
    subst hmm'
    have each : ∀ i, i < m → ∃ r : Bool × Int, V0 i = .bool r.1 ∧ V1 i = .int .u8 r.2 ∧ 0 ≤ r.2 ∧ r.2 ≤ 255 := by
      intro i hi
      obtain ⟨_, _, h1, h2⟩ := hc i hi
      have h1' := h1
      obtain ⟨f, e0, _⟩ := DataW.trod_bool Yba.underlying4 h1'
      obtain ⟨x, e1, _, wx⟩ := DataW.trod_int Yba.underlying5 h2
      simp only [List.cons.injEq, and_true] at e0 e1
      have hb : 0 ≤ x ∧ x ≤ 255 := by simpa [Lit.wf, IntKind.min, IntKind.max, IntKind.signed, IntKind.bits] using wx
      exact ⟨(f, x), e0, e1, hb⟩
    obtain ⟨r, hr⟩ := choose_lt each
    refine ⟨some a, m, (List.range len).map r, by simp, ?_, Or.inr ⟨_, _, (Prod.mk.inj hx).1, by simp⟩⟩
    intro j f x hj
    have hjl : j < len := by have := (List.getElem?_eq_some_iff.1 hj).1; simpa using this
    simp [hjl] at hj
    obtain ⟨hc0, hc1, _, _⟩ := hc j (by omega)
    obtain ⟨h00, _⟩ := hc 0 (by omega)
    obtain ⟨b, o, rfl⟩ := plain_addr hc0 ⟨_, by simpa using h00⟩
    obtain ⟨q0, q1, q2, q3⟩ := hr j (by omega)
    rw [hj] at q0 q1 q2 q3
    rw [add_plain'] at hc0 hc1
    exact ⟨b, o, rfl, by rw [hc0, q0], by rw [show o + j * 2 + 1 = o + (j * 2 + 1) by omega, hc1, q1], q2, q3⟩

theorem weights_all {H : Type} {P : Program} {e : TypeId} : ∀ {l : List (DataW H)} {d : DataW H}, d ∈ l → ∀ n ∈ d.weights P e, n ∈ DataW.weightsAll P e l := by
  intro l
  induction l with
  | nil => intro d h; cases h
  | cons x r ih =>
    intro d h n hn
    simp only [DataW.weightsAll, List.mem_append]
    rcases List.mem_cons.1 h with rfl | h
    · exact Or.inl hn
    · exact Or.inr (ih h n hn)

/-- The drawn slots. -/
theorem view_slots {H : Type} {enc : TypeId × Value → H} {W : World} {d : DataW H} {p : List MemPlace} {a : Option Addr} {len cap : Nat}
    (h : DataW.Trod enc Yba.prog W 0 (fun _ => true) true 22 (.slice a len cap) d p) (hw : ∀ n ∈ d.weights Yba.prog 22, n ≤ reachBytes) :
    len ≤ 9223372036854775807 ∧ ∃ T : List (List (Bool × Int) × Int), T.length = len ∧ SlotsIn W a T ∧ ∀ q ∈ T, q.1.length ≤ 140737488351232 := by
  obtain ⟨fuel, hf⟩ := h
  rcases open_slice_pairs Yba.underlying22 Yba.underlying25 cells25 rfl rfl cells23 cells2 hf with ⟨hcs, _⟩ | ⟨a', len', cap', m, k, V0, V1, D0, D1, P0, P1, hcs, _, hl, hm, hmm, hx, hc⟩
  · simp [Value.cells] at hcs
    obtain ⟨rfl, rfl, rfl⟩ := hcs
    exact ⟨by omega, [], rfl, (fun i R off h => by simp at h), fun q h => by cases h⟩
  · simp [Value.cells] at hcs
    obtain ⟨rfl, rfl, rfl⟩ := hcs
    simp only [if_true] at hmm
    have hmm' := hmm
    subst hmm'
    unfold maxLen at hm
    have hd := (Prod.mk.inj hx).1
    have each : ∀ i, i < m → ∃ r : Option Addr × Nat × List (Bool × Int) × Int, V0 i = .slice r.1 r.2.2.1.length r.2.1 ∧ RegsIn W r.1 r.2.2.1 ∧ V1 i = .int .i64 r.2.2.2 ∧ (i < len → r.2.2.1.length ≤ 140737488351232) := by
      intro i hi
      obtain ⟨_, _, h1, h2⟩ := hc i hi
      obtain ⟨q, c, R, e0, hR, hdd⟩ := view_regs h1
      obtain ⟨x, e1, _, _⟩ := DataW.trod_int Yba.underlying2 h2
      simp only [List.cons.injEq, and_true] at e1
      refine ⟨(q, c, R, x), e0, hR, e1, fun hil => ?_⟩
      rcases hdd with ⟨_, h0⟩ | ⟨elems, spare, hel, hlen⟩
      · simp only; omega
      · have hmem : DataW.agg [D0 i, D1 i] ∈ (List.range len).map fun i => DataW.agg [D0 i, D1 i] := List.mem_map.2 ⟨i, List.mem_range.2 hil, rfl⟩
        have hr : reachBytes = 140737488351232 := by decide
        have := hw ((elems.length + spare.length) * Yba.prog.bytesOf 31) (by
          rw [hd]
          simp only [DataW.weights, Yba.underlying22]
          refine List.mem_cons_of_mem _ (List.mem_append_left _ (weights_all hmem _ ?_))
          simp only [DataW.weights, Yba.underlying25, DataW.weightsEach, List.map_cons, List.map_nil, hel, Yba.underlying23]
          simp)
        rw [bytes31] at this
        simp only
        omega
    obtain ⟨r, hr⟩ := choose_lt each
    refine ⟨by omega, (List.range len).map fun i => ((r i).2.2.1, (r i).2.2.2), by simp, ?_, ?_⟩
    · intro i R off hi
      have hil : i < len := by have := (List.getElem?_eq_some_iff.1 hi).1; simpa using this
      simp [hil] at hi
      obtain ⟨hc0, hc1, _, _⟩ := hc i (by omega)
      obtain ⟨h00, _⟩ := hc 0 (by omega)
      obtain ⟨b, o, rfl⟩ := plain_addr hc0 ⟨_, by simpa using h00⟩
      obtain ⟨q0, q1, q2, _⟩ := hr i (by omega)
      rw [hi.1] at q0 q1
      rw [hi.2] at q2
      rw [add_plain'] at hc0 hc1
      exact ⟨b, o, _, _, rfl, by rw [hc0, q0], by rw [show o + i * 2 + 1 = o + (i * 2 + 1) by omega, hc1, q2], q1⟩
    · intro q hq
      obtain ⟨i, hi, rfl⟩ := List.mem_map.1 hq
      have hil := List.mem_range.1 hi
      exact (hr i (by omega)).2.2.2 hil

end Go.Proofs.Ybulkbqpw
