/-
  THE ROW OVER LawS3352CForget, PROVED.
-/
import Derived.Test.YbulkbqjyOpen
import Derived.Test.YbulkbqjyLaw
import Derived.OpenShut
namespace Go.Proofs.Ybulkbqjy
open Go.ChangeShapes Go.WideShapes Go.ChangeAt Go.RowKit

theorem c_own : ownKnob Yba.prog.godebug = none := by kernel_rfl
theorem c_laidOut : laidOutB Yba.prog = true := by kernel_rfl
theorem u16_bounds {k : Int} (wk : (Lit.int .u16 k).wf = true) : 0 ≤ k ∧ k ≤ 65535 := by
  simpa [Lit.wf, IntKind.min, IntKind.max, IntKind.signed, IntKind.bits] using wk

set_option maxRecDepth 100000 in
theorem law_early (pa pb : Option Addr) (n cp m cm : Nat) (nv back : Int) (w : World) (hn : 1024 < n) (hn1 : n ≤ 9223372036854775807) :
    Calls Yba.prog 3 #[.slice pa n cp, .slice pb m cm, .int .i64 nv, .int .u16 back] w fun e w' => e = .returned (.bool true) ∧ Below w.heap.size w w' := by
  have g1 : (1024 : Int) < (n : Int) := by omega
  go_enter Yba.func3, Yba.ntmps3
  go_wp2
  go_ret
  exact ⟨rfl, Below.refl _ _⟩

theorem law_all (pa pb : Option Addr) (n cp m cm : Nat) (nv back : Int) (D : List Int) (F : List Bool) (w : World) (hn : D.length = n) (hn1 : n ≤ 9223372036854775807) (hF : F.length = m) (hI : IntsIn w pa D) (hB : BoolsIn w pb F)
    (hnv : -9223372036854775808 ≤ nv ∧ nv ≤ 9223372036854775807) (hbk : 0 ≤ back ∧ back ≤ 65535) :
    Calls Yba.prog 3 #[.slice pa n cp, .slice pb m cm, .int .i64 nv, .int .u16 back] w fun e w' => e = .returned (.bool true) ∧ Below w.heap.size w w' := by
  by_cases h : 1024 < n
  · exact law_early pa pb n cp m cm nv back w h hn1
  · exact law_many pa pb n cp m cm nv back D F w hn (by omega) hF hI hB hnv hbk

set_option maxRecDepth 100000 in
theorem lifted (os : Os) (started : os.Started) (H : Type) (enc : TypeId × Value → H) :
    ReturnsInHanded {} Yba.checked os 3 .any (Rows.lawS3352CForgetSpec.pre6 enc Yba.prog Yba.f3 Rows.lawS3352CForgetRow.domain false) (Rows.lawS3352CForgetSpec.post enc Yba.prog Yba.f3 false true false false) := by
  refine returnsInHanded_of_change_sized (C := Yba.checked) c_own started (by kernel_rfl) Yba.func3
    (ChangeSpec.witness6 (enc := enc) (C := Yba.checked) false ⟨#[], #[.slice none 0 0, .slice none 0 0, .int .i64 0, .int .u16 0], []⟩ 8 (by kernel_rfl) (by kernel_rfl) (by kernel_rfl) (by kernel_rfl)) ?_
  intro W base args ds gs before hval0 hW hcnd hsz0 _
  have hval : ∀ (j : Nat) t v, Yba.f3.params[j]? = some t → args[j]? = some v → Value.okWide Yba.prog W .any base t v := hval0
  have hW' := hW
  obtain ⟨p, q, hA0, hV, rfl, hfz, hnd⟩ := hW
  have hA : DataW.TrodAll enc Yba.prog W 0 (fun _ => true) true Yba.f3.params.toList args.toList ds p := hA0
  rw [Yba.params3] at hA hval
  obtain ⟨v0, vs0, d0, ds0, p0, q0, hargs, rfl, rfl, h0, r0⟩ := trodAll_cons hA
  obtain ⟨v1, vs1, d1, ds1, p1, q1, rfl, rfl, rfl, h1, r1⟩ := trodAll_cons r0
  obtain ⟨v2, vs2, d2, ds2, p2, q2, rfl, rfl, rfl, h2, r2⟩ := trodAll_cons r1
  obtain ⟨v3, vs3, d3, ds3, p3, q3, rfl, rfl, rfl, h3, r3⟩ := trodAll_cons r2
  obtain ⟨rfl, rfl, rfl⟩ := trodAll_nil r3
  obtain rfl : args = #[v0, v1, v2, v3] := by cases args; simp_all
  obtain ⟨rfl, rfl⟩ := trodVars_none hV
  obtain ⟨a0, len0, cap0, rfl⟩ := okWide_slice Yba.underlying22 (hval 0 22 v0 rfl rfl)
  obtain ⟨a1, len1, cap1, rfl⟩ := okWide_slice Yba.underlying23 (hval 1 23 v1 rfl rfl)
  obtain ⟨nv, rfl, rfl, rfl, w2⟩ := open_int Yba.underlying2 (hval 2 2 v2 rfl rfl) h2
  obtain ⟨back, rfl, rfl, rfl, w3⟩ := open_int Yba.underlying24 (hval 3 24 v3 rfl rfl) h3
  clear hA0 hval0
  simp only [List.append_nil] at hW'
  have hlt0 : ∀ x ∈ p0, x.block < W.heap.size := fun x hx => by simpa using hW'.lt x (by simp [hx])
  have hlt1 : ∀ x ∈ p1, x.block < W.heap.size := fun x hx => by simpa using hW'.lt x (by simp [hx])
  obtain ⟨D, hD, hn1, hI⟩ := view_ints h0
  obtain ⟨F, hF, hB⟩ := view_bools h1
  refine (law_all a0 a1 len0 cap0 len1 cap1 nv back D F W hD hn1 hF hI hB (i64_bounds w2) (u16_bounds w3)).mono fun e W' ⟨he, hb⟩ => ?_
  subst he
  have r0' := Below.trod c_laidOut (by kernel_rfl) (of_decide_eq_true (by kernel_rfl)) h0 hb hlt0
  have r1' := Below.trod c_laidOut (by kernel_rfl) (of_decide_eq_true (by kernel_rfl)) h1 hb hlt1
  refine ⟨_, rfl, _, _, _, [], p0 ++ p1, [], hW', ?_, ?_, rfl, hb.frame _, fun h => by cases h⟩
  · exact trodAll_mk1 (shut_bool Yba.underlying4 true)
  · have := trodAll_cons_mk r0' (trodAll_cons_mk r1' (trodAll_cons_mk (shut_int Yba.underlying2 w2) (trodAll_cons_mk (shut_int Yba.underlying24 w3) trodAll_mk0)))
    simp only [List.append_nil] at this
    exact this

theorem proved : Rows.LawS3352CForgetSaid :=
  OpenClaim.holds_of_wide 3 Yba.f3 rfl rfl rfl rfl rfl rfl rfl ⟨rfl, rfl, rfl, rfl, rfl⟩ rfl rfl rfl rfl rfl (by kernel_rfl) Yba.func3 (by kernel_rfl)
    (of_decide_eq_true (by kernel_rfl)) (by unfold Func.isWrapper; first | (rw [if_pos (by decide +kernel)]; kernel_rfl) | (rw [if_neg (by decide +kernel)]; exact ⟨rfl, rfl⟩))
    (fun os started H enc _ => lifted os started H enc)
#print axioms proved
end Go.Proofs.Ybulkbqjy
