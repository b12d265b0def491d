/-
  THE ROW OVER LawS3363CPlaces, PROVED.
-/
import Derived.Test.YbulkbqpwOpen
import Derived.Test.YbulkbqpwLaw
import Derived.OpenShut
namespace Go.Proofs.Ybulkbqpw
open Go.ChangeShapes Go.WideShapes Go.ChangeAt Go.RowKit

theorem c_own : ownKnob Yba.prog.godebug = none := by kernel_rfl
theorem c_laidOut : laidOutB Yba.prog = true := by kernel_rfl
theorem u8_bounds {k : Int} (wk : (Lit.int .u8 k).wf = true) : 0 ≤ k ∧ k ≤ 255 := by
  simpa [Lit.wf, IntKind.min, IntKind.max, IntKind.signed, IntKind.bits] using wk

set_option maxRecDepth 100000 in
theorem law_early (pa : Option Addr) (n cp : Nat) (ni nf ex oldOff : Int) (keep : Bool) (w : World) (hn : 1024 < n) (hn1 : n ≤ 9223372036854775807) :
    Calls Yba.prog 3 #[.slice pa n cp, .int .u8 ni, .int .u8 nf, .int .u8 ex, .int .i64 oldOff, .bool keep] w fun e w' => e = .returned (.bool true) ∧ Below w.heap.size w w' := by
  have g1 : (1024 : Int) < (n : Int) := by omega
  go_enter Yba.func3, Yba.ntmps3
  go_wp2
  go_ret
  exact ⟨rfl, Below.refl _ _⟩

theorem law_all (pa : Option Addr) (n cp : Nat) (ni nf ex oldOff : Int) (keep : Bool) (T : List (List (Bool × Int) × Int)) (w : World) (hn : T.length = n) (hn1 : n ≤ 9223372036854775807)
    (ni0 : 0 ≤ ni ∧ ni ≤ 255) (nf0 : 0 ≤ nf ∧ nf ≤ 255) (ex0 : 0 ≤ ex ∧ ex ≤ 255) (hT : SlotsIn w pa T) (hBig : ∀ p ∈ T, p.1.length ≤ 140737488351232) :
    Calls Yba.prog 3 #[.slice pa n cp, .int .u8 ni, .int .u8 nf, .int .u8 ex, .int .i64 oldOff, .bool keep] w fun e w' => e = .returned (.bool true) ∧ Below w.heap.size w w' := by
  by_cases h : 1024 < n
  · exact law_early pa n cp ni nf ex oldOff keep w h hn1
  · exact law_many pa n cp ni nf ex oldOff keep T w hn (by omega) ni0.1 ni0.2 nf0.1 nf0.2 ex0.1 ex0.2 hT hBig

set_option maxRecDepth 100000 in
theorem lifted (os : Os) (started : os.Started) (H : Type) (enc : TypeId × Value → H) :
    ReturnsInHanded {} Yba.checked os 3 .any (Rows.lawS3363CPlacesSpec.pre6 enc Yba.prog Yba.f3 Rows.lawS3363CPlacesRow.domain false) (Rows.lawS3363CPlacesSpec.post enc Yba.prog Yba.f3 false true false false) := by
  refine returnsInHanded_of_change_sized (C := Yba.checked) c_own started (by kernel_rfl) Yba.func3
    (ChangeSpec.witness6 (enc := enc) (C := Yba.checked) false ⟨#[], #[.slice none 0 0, .int .u8 0, .int .u8 0, .int .u8 0, .int .i64 0, .bool false], []⟩ 8 (by kernel_rfl) (by kernel_rfl) (by kernel_rfl) (by kernel_rfl)) ?_
  intro W base args ds gs before hval0 hW hcnd hsz0 _
  have hval : ∀ (j : Nat) t v, Yba.f3.params[j]? = some t → args[j]? = some v → Value.okWide Yba.prog W .any base t v := hval0
  have hsz : (DataW.weightsEach Yba.prog (Yba.f3.params.toList ++ Rows.lawS3363CPlacesSpec.plain.varTypes Yba.prog) (ds ++ gs)).all (· ≤ reachBytes) = true := hsz0
  have hW' := hW
  obtain ⟨p, q, hA0, hV, rfl, hfz, hnd⟩ := hW
  have hA : DataW.TrodAll enc Yba.prog W 0 (fun _ => true) true Yba.f3.params.toList args.toList ds p := hA0
  rw [Yba.params3] at hA hval hsz
  obtain ⟨v0, vs0, d0, ds0, p0, q0, hargs, rfl, rfl, h0, r0⟩ := trodAll_cons hA
  obtain ⟨v1, vs1, d1, ds1, p1, q1, rfl, rfl, rfl, h1, r1⟩ := trodAll_cons r0
  obtain ⟨v2, vs2, d2, ds2, p2, q2, rfl, rfl, rfl, h2, r2⟩ := trodAll_cons r1
  obtain ⟨v3, vs3, d3, ds3, p3, q3, rfl, rfl, rfl, h3, r3⟩ := trodAll_cons r2
  obtain ⟨v4, vs4, d4, ds4, p4, q4, rfl, rfl, rfl, h4, r4⟩ := trodAll_cons r3
  obtain ⟨v5, vs5, d5, ds5, p5, q5, rfl, rfl, rfl, h5, r5⟩ := trodAll_cons r4
  obtain ⟨rfl, rfl, rfl⟩ := trodAll_nil r5
  obtain rfl : args = #[v0, v1, v2, v3, v4, v5] := by cases args; simp_all
  obtain ⟨rfl, rfl⟩ := trodVars_none hV
  obtain ⟨a0, len0, cap0, rfl⟩ := okWide_slice Yba.underlying22 (hval 0 22 v0 rfl rfl)
  obtain ⟨ni, rfl, rfl, rfl, w1⟩ := open_int Yba.underlying5 (hval 1 5 v1 rfl rfl) h1
  obtain ⟨nf, rfl, rfl, rfl, w2⟩ := open_int Yba.underlying5 (hval 2 5 v2 rfl rfl) h2
  obtain ⟨ex, rfl, rfl, rfl, w3⟩ := open_int Yba.underlying5 (hval 3 5 v3 rfl rfl) h3
  obtain ⟨oldOff, rfl, rfl, rfl, w4⟩ := open_int Yba.underlying2 (hval 4 2 v4 rfl rfl) h4
  obtain ⟨keep, rfl, rfl, rfl⟩ := open_bool Yba.underlying4 (hval 5 4 v5 rfl rfl) h5
  clear hA0 hval0
  simp only [List.append_nil] at hW'
  have hlt : ∀ x ∈ p0, x.block < W.heap.size := fun x hx => by simpa using hW'.lt x (by simp [hx])
  have hwt : ∀ n ∈ d0.weights Yba.prog 22, n ≤ reachBytes := by
    intro n hn
    have := List.all_eq_true.1 hsz n (DataW.weights_mem_each (j := 0) rfl rfl n hn)
    simpa using this
  obtain ⟨hn1, T, hT1, hT2, hT3⟩ := view_slots h0 hwt
  refine (law_all a0 len0 cap0 ni nf ex oldOff keep T W hT1 hn1 (u8_bounds w1) (u8_bounds w2) (u8_bounds w3) hT2 hT3).mono fun e W' ⟨he, hb⟩ => ?_
  subst he
  have r0' := Below.trod c_laidOut (by kernel_rfl) (of_decide_eq_true (by kernel_rfl)) h0 hb hlt
  refine ⟨_, rfl, _, _, _, [], p0, [], hW', ?_, ?_, rfl, hb.frame _, fun h => by cases h⟩
  · exact trodAll_mk1 (shut_bool Yba.underlying4 true)
  · have := trodAll_cons_mk r0' (trodAll_cons_mk (shut_int Yba.underlying5 w1) (trodAll_cons_mk (shut_int Yba.underlying5 w2) (trodAll_cons_mk (shut_int Yba.underlying5 w3) (trodAll_cons_mk (shut_int Yba.underlying2 w4) (trodAll_cons_mk (shut_bool Yba.underlying4 keep) trodAll_mk0)))))
    simp only [List.append_nil] at this
    exact this

theorem proved : Rows.LawS3363CPlacesSaid :=
  OpenClaim.holds_of_wide 3 Yba.f3 rfl rfl rfl rfl rfl rfl rfl ⟨rfl, rfl, rfl, rfl, rfl⟩ rfl rfl rfl rfl rfl (by kernel_rfl) Yba.func3 (by kernel_rfl)
    (of_decide_eq_true (by kernel_rfl)) (by unfold Func.isWrapper; first | (rw [if_pos (by decide +kernel)]; kernel_rfl) | (rw [if_neg (by decide +kernel)]; exact ⟨rfl, rfl⟩))
    (fun os started H enc _ => lifted os started H enc)
#print axioms proved
end Go.Proofs.Ybulkbqpw
