/-
  THE THREE LAWS' WALKS: for every F each returns true, and nothing that was there has turned.
-/
import Derived.Test.YbulkbqjyFmtWalks
namespace Go.Proofs.YbulkbqjyFmt
open Go.RowKit Go.Extern.Stop Go.Stop Go.Extern

set_option maxHeartbeats 400000 in
theorem exactA (F : Interp) (s : ByteArray) (k : Int) (w : World) (hF : F.answers w.tape) (hs : s.size ≤ 140737488351232) (k0 : 0 ≤ k) (k1 : k ≤ 255) :
    Calls Ybaf.prog 3 #[.string s, .int .u8 k] w fun e w' => e = .returned (.bool true) ∧ Below w.heap.size w w' := by
  go_enter Ybaf.func3, Ybaf.ntmps3
  go_wp2_with fail
  refine (pickA s k w hs k0 k1).mono ?_
  rintro e w1 ⟨t, rfl, rfl⟩
  cases hg : good t
  · have HG : Hid (good t = false) := hg
    unfold good at hg
    have hh := Bool.or_eq_false_iff.1 hg
    have h1 := hh.1
    have h2 := hh.2
    clear hg hh
    go_wp2_with fail
    refine (check_else F t _ hF HG.out).mono ?_
    rintro e w2 ⟨rfl, hb⟩
    go_wp2
    go_ret
    exact ⟨rfl, hb⟩
  · have HG : Hid (good t = true) := hg
    unfold good at hg
    cases h1 : t.toList == [98, 121, 116, 101, 115]
    · rw [h1, Bool.false_or] at hg
      go_wp2_with fail
      refine (check_good t _ HG.out).mono ?_
      rintro e w2 ⟨rfl, rfl⟩
      go_wp2
      go_ret
      exact ⟨rfl, Below.refl _ _⟩
    · clear hg
      go_wp2_with fail
      refine (check_good t _ HG.out).mono ?_
      rintro e w2 ⟨rfl, rfl⟩
      go_wp2
      go_ret
      exact ⟨rfl, Below.refl _ _⟩

set_option maxHeartbeats 400000 in
theorem parseA (F : Interp) (s : ByteArray) (k : Int) (w : World) (hF : F.answers w.tape) (hs : s.size ≤ 140737488351232) (k0 : 0 ≤ k) (k1 : k ≤ 255) :
    Calls Ybaf.prog 4 #[.string s, .int .u8 k] w fun e w' => e = .returned (.bool true) ∧ Below w.heap.size w w' := by
  go_enter Ybaf.func4, Ybaf.ntmps4
  go_wp2_with fail
  refine (pickA s k w hs k0 k1).mono ?_
  rintro e w1 ⟨t, rfl, rfl⟩
  cases hg : good t
  · have HG : Hid (good t = false) := hg
    clear hg
    go_wp2_with fail
    refine (check_else F t _ hF HG.out).mono ?_
    rintro e w2 ⟨rfl, hb⟩
    go_wp2_with fail
    refine (parse_else F t _ (by rw [hb.tape]; exact hF) HG.out).mono ?_
    rintro e w3 ⟨a, rfl, hb2⟩
    go_wp2
    go_ret
    exact ⟨rfl, hb.trans (hb2.mono hb.size)⟩
  · have HG : Hid (good t = true) := hg
    clear hg
    go_wp2_with fail
    refine (check_good t _ HG.out).mono ?_
    rintro e w2 ⟨rfl, rfl⟩
    go_wp2_with fail
    refine (parse_good t _ HG.out).mono ?_
    rintro e w3 ⟨rfl, rfl⟩
    go_wp2
    go_ret
    exact ⟨rfl, Below.refl _ _⟩

set_option maxHeartbeats 400000 in
theorem exactB (F : Interp) (s : ByteArray) (k : Int) (w : World) (hF : F.answers w.tape) (k0 : 0 ≤ k) (k1 : k ≤ 255) :
    Calls Ybaf.prog 5 #[.int .u8 k, .string s] w fun e w' => e = .returned (.bool true) ∧ Below w.heap.size w w' := by
  go_enter Ybaf.func5, Ybaf.ntmps5
  go_wp2_with fail
  refine (pickB s k w k0 k1).mono ?_
  rintro e w1 ⟨t, rfl, rfl⟩
  cases hg : good t
  · have HG : Hid (good t = false) := hg
    unfold good at hg
    have hh := Bool.or_eq_false_iff.1 hg
    have h1 := hh.1
    have h2 := hh.2
    clear hg hh
    go_wp2_with fail
    refine (parse_else F t _ hF HG.out).mono ?_
    rintro e w2 ⟨a, rfl, hb⟩
    go_wp2
    go_ret
    exact ⟨rfl, hb⟩
  · have HG : Hid (good t = true) := hg
    unfold good at hg
    cases h1 : t.toList == [98, 121, 116, 101, 115]
    · rw [h1, Bool.false_or] at hg
      go_wp2_with fail
      refine (parse_good t _ HG.out).mono ?_
      rintro e w2 ⟨rfl, rfl⟩
      go_wp2
      go_ret
      exact ⟨rfl, Below.refl _ _⟩
    · clear hg
      go_wp2_with fail
      refine (parse_good t _ HG.out).mono ?_
      rintro e w2 ⟨rfl, rfl⟩
      go_wp2
      go_ret
      exact ⟨rfl, Below.refl _ _⟩

end Go.Proofs.YbulkbqjyFmt
