/-
  FROM THE ROW's READING OF pieces AND rest TO WHAT THE WALKS ASK.
-/
import Derived.Test.YbulkbqpiCat
import Derived.ProofKit
import Derived.Deep.Matrix
namespace Go.Proofs.Ybulkbqpi
open Go.ChangeShapes Go.WideShapes Go.ChangeAt Go.RowKit Go.Deep

theorem cells23 : Yba.prog.cellsOf 23 = 1 := by kernel_rfl
theorem cells5 : Yba.prog.cellsOf 5 = 1 := by kernel_rfl

/-- The bytes of numbers. -/
def bytes (zs : List Int) : List UInt8 := zs.map fun z => UInt8.ofNat z.toNat

theorem hb_of_ints {w : World} {A : Option Addr} {L C : Nat} {Z : List Int} (hL : L ≤ C) (hZ : Z.length = C) (hw : ∀ n ∈ Z, (Lit.int .u8 n).wf = true) (hn : A = none → C = 0)
    (hc : ∀ a', A = some a' → ∀ c, c < C → w.cell? (a'.add c) = some (.int .u8 (Z.getD c 0))) : Lib.HoldsBytes w (.slice A L C) (bytes (Z.take L)) := by
  have hlen : (bytes (Z.take L)).length = L := by simp [bytes]; omega
  refine ⟨A, C, by rw [hlen], fun h => ?_, fun a ha i x hx => ?_⟩
  · have := hn h
    exact List.eq_nil_of_length_eq_zero (by omega)
  · have hi : i < L := by have := (List.getElem?_eq_some_iff.1 hx).1; omega
    rw [hc a ha i (by omega)]
    have hiz : i < Z.length := by omega
    have hwf := hw Z[i] (List.getElem_mem hiz)
    have hb : 0 ≤ Z[i] ∧ Z[i] ≤ 255 := by simpa [Lit.wf, IntKind.min, IntKind.max, IntKind.signed, IntKind.bits] using hwf
    have e : x = UInt8.ofNat Z[i].toNat := by
      simp [bytes, hi, List.getElem?_eq_getElem hiz] at hx
      exact hx.symm
    have e2 : ((UInt8.ofNat Z[i].toNat).toNat : Int) = Z[i] := by
      simp
      omega
    rw [e, e2]
    simp [List.getD, List.getElem?_eq_getElem hiz]

/-- A []byte that came in. -/
theorem view_bytes {H : Type} {enc : TypeId × Value → H} {W : World} {d : DataW H} {p : List MemPlace} {a : Option Addr} {len cap : Nat}
    (h : DataW.Trod enc Yba.prog W 0 (fun _ => true) true 23 (.slice a len cap) d p) : len ≤ 9223372036854775807 ∧ ∃ l, l.length = len ∧ Lib.HoldsBytes W (.slice a len cap) l := by
  obtain ⟨fuel, hf⟩ := h
  rcases open_ints Yba.underlying23 Yba.underlying5 cells5 hf with ⟨hcs, _⟩ | ⟨a', len', cap', zs, hcs, _, hl, hm, hz, _, hcell, hwz⟩
  · simp [Value.cells] at hcs
    obtain ⟨rfl, rfl, rfl⟩ := hcs
    exact ⟨by omega, [], rfl, none, 0, rfl, fun _ => rfl, fun a ha => by cases ha⟩
  · simp [Value.cells] at hcs
    obtain ⟨rfl, rfl, rfl⟩ := hcs
    simp only [if_true] at hz
    unfold maxLen at hm
    have hb := hb_of_ints (w := W) (A := some a') hl hz hwz (fun h => by cases h) (fun a'' ha c hc => by cases ha; exact hcell c (by omega))
    exact ⟨by omega, _, by simp [bytes]; omega, hb⟩

/-- A [][]byte that came in. -/
theorem view_parts {H : Type} {enc : TypeId × Value → H} {W : World} {d : DataW H} {p : List MemPlace} {a : Option Addr} {len cap : Nat}
    (h : DataW.Trod enc Yba.prog W 0 (fun _ => true) true 22 (.slice a len cap) d p) : len ≤ 9223372036854775807 ∧ ∃ ls : List (List UInt8), ls.length = len ∧ Parts W a ls ∧ ∀ l ∈ ls, l.length ≤ 9223372036854775807 := by
  obtain ⟨fuel, hf⟩ := h
  rcases open_int_rows Yba.underlying22 Yba.underlying23 Yba.underlying5 cells23 cells5 hf with ⟨hcs, _⟩ | ⟨a', len', cap', A, L, C, Z, hcs, _, hl, hm, _, hr⟩
  · simp [Value.cells] at hcs
    obtain ⟨rfl, rfl, rfl⟩ := hcs
    exact ⟨by omega, [], rfl, (fun i l h => by simp at h), fun l h => by cases h⟩
  · simp [Value.cells] at hcs
    obtain ⟨rfl, rfl, rfl⟩ := hcs
    unfold maxLen at hm
    refine ⟨by omega, (List.range len).map fun r => bytes ((Z r).take (L r)), by simp, ?_, ?_⟩
    · intro i l hi
      have hil : i < len := by have := (List.getElem?_eq_some_iff.1 hi).1; simpa using this
      simp [hil] at hi
      subst hi
      obtain ⟨hc0, _⟩ := hr 0 (by omega)
      obtain ⟨b, off, spot⟩ := a'
      have hspot : spot = none := by simpa [Addr.add] using World.cell?_spot hc0
      subst hspot
      obtain ⟨hci, h1, h2, h3, h4, h5, h6⟩ := hr i (by omega)
      rw [Lib.add_plain2] at hci
      exact ⟨b, off, _, rfl, hci, hb_of_ints h1 h3 h4 h5 fun a'' ha c hc => (h6 a'' ha).2 c hc⟩
    · intro l hlm
      obtain ⟨r, hrm, rfl⟩ := List.mem_map.1 hlm
      obtain ⟨_, h1, h2, h3, _⟩ := hr r (by have := List.mem_range.1 hrm; omega)
      unfold maxLen at h2
      simp [bytes]
      omega

end Go.Proofs.Ybulkbqpi
