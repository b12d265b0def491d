/-
  THE ROW OVER LawS3362BWriteJoin, PROVED.
-/
import Derived.Test.YbulkbqpiOpen
import Derived.Test.YbulkbqpiLaw4
namespace Go.Proofs.Ybulkbqpi
open Go.ChangeShapes Go.WideShapes Go.ChangeAt Go.RowKit

theorem own4 : ownKnob Yba.prog.godebug = none := by kernel_rfl
theorem laidOut4 : laidOutB Yba.prog = true := by kernel_rfl

theorem law4_all (pa ra : Option Addr) (n m cp cr : Nat) (ls : List (List UInt8)) (lr : List UInt8) (w : World) (hn : ls.length = n) (hm : lr.length = m) (hn1 : n ≤ 9223372036854775807) (hm1 : m ≤ 9223372036854775807)
    (hP : Parts w pa ls) (hLs : ∀ l ∈ ls, l.length ≤ 9223372036854775807) (hR : Lib.HoldsBytes w (.slice ra m cr) lr) :
    Calls Yba.prog 4 #[.slice pa n cp, .slice ra m cr] w fun e w' => e = .returned (.bool true) ∧ Below w.heap.size w w' := by
  by_cases h : 1024 < n ∨ 4096 < m
  · exact early4 pa ra n m cp cr w h hn1 hm1
  · exact law4_many pa ra n m cp cr ls lr w hn hm (by omega) (by omega) hP hLs hR

set_option maxRecDepth 100000 in
theorem lawS3362BWriteJoin_lifted (os : Os) (started : os.Started) (H : Type) (enc : TypeId × Value → H) :
    ReturnsInHanded {} Yba.checked os 4 .any (Rows.lawS3362BWriteJoinSpec.pre6 enc Yba.prog Yba.f4 Rows.lawS3362BWriteJoinRow.domain false) (Rows.lawS3362BWriteJoinSpec.post enc Yba.prog Yba.f4 false true false false) := by
  refine returnsInHanded_of_change (C := Yba.checked) own4 started (by kernel_rfl) Yba.func4
    (ChangeSpec.witness6 (enc := enc) (C := Yba.checked) false ⟨#[], #[.slice none 0 0, .slice none 0 0], []⟩ 8 (by kernel_rfl) (by kernel_rfl) (by kernel_rfl) (by kernel_rfl)) ?_
  intro W base args ds gs before hval0 hW hcnd _
  have hval : ∀ (j : Nat) t v, Yba.f4.params[j]? = some t → args[j]? = some v → Value.okWide Yba.prog W .any base t v := hval0
  have hW' := hW
  obtain ⟨p, q, hA0, hV, rfl, hfz, hnd⟩ := hW
  have hA : DataW.TrodAll enc Yba.prog W 0 (fun _ => true) true Yba.f4.params.toList args.toList ds p := hA0
  rw [Yba.params4] at hA hval
  obtain ⟨v0, v1, d0, d1, p0, p1, rfl, rfl, rfl, h0, h1⟩ := trodAll_two hA
  obtain ⟨rfl, rfl⟩ := trodVars_none hV
  obtain ⟨a0, len0, cap0, rfl⟩ := okWide_slice Yba.underlying22 (hval 0 22 v0 rfl rfl)
  obtain ⟨a1, len1, cap1, rfl⟩ := okWide_slice Yba.underlying23 (hval 1 23 v1 rfl rfl)
  clear hA0 hval0
  simp only [List.append_nil] at hW'
  have hlt : ∀ x ∈ p0 ++ p1, x.block < W.heap.size := fun x hx => by simpa using hW'.lt x hx
  obtain ⟨hn1, ls, hls, hP, hLs⟩ := view_parts h0
  obtain ⟨hm1, lr, hlr, hR⟩ := view_bytes h1
  refine (law4_all a0 a1 len0 len1 cap0 cap1 ls lr W hls hlr hn1 hm1 hP hLs hR).mono fun e W' ⟨he, hb⟩ => ?_
  subst he
  have r0 := Below.trod laidOut4 (by kernel_rfl) (of_decide_eq_true (by kernel_rfl)) h0 hb (fun x hx => hlt x (List.mem_append_left _ hx))
  have r1 := Below.trod laidOut4 (by kernel_rfl) (of_decide_eq_true (by kernel_rfl)) h1 hb (fun x hx => hlt x (List.mem_append_right _ hx))
  refine ⟨_, rfl, _, _, _, [], p0 ++ p1, [], hW', ?_, ?_, rfl, hb.frame _, fun h => by cases h⟩
  · exact trodAll_mk1 (shut_bool Yba.underlying4 true)
  · exact trodAll_mk2 r0 r1

theorem lawS3362BWriteJoin_holds : Rows.LawS3362BWriteJoinSaid :=
  OpenClaim.holds_of_wide 4 Yba.f4 rfl rfl rfl rfl rfl rfl rfl ⟨rfl, rfl, rfl, rfl, rfl⟩ rfl rfl rfl rfl rfl (by kernel_rfl) Yba.func4 (by kernel_rfl)
    (of_decide_eq_true (by kernel_rfl)) (by unfold Func.isWrapper; first | (rw [if_pos (by decide +kernel)]; kernel_rfl) | (rw [if_neg (by decide +kernel)]; exact ⟨rfl, rfl⟩))
    (fun os started H enc _ => lawS3362BWriteJoin_lifted os started H enc)
#print axioms lawS3362BWriteJoin_holds
end Go.Proofs.Ybulkbqpi
