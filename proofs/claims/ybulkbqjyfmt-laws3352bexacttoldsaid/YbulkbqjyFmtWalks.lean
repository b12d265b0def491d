/-
  THE WALKS over the three told laws: zzs3352apick, zzs3352bpick, checkOrder, ParseOrder, and the laws.
-/
import Derived.Test.YbulkbqjyFmtRows
import Derived.Test.YbulkbqjyFmtFacts
import Derived.WalkKit
import Derived.WalkSpells
import Derived.WalkLawsBesides
namespace Go.Proofs.YbulkbqjyFmt
open Go.RowKit Go.Extern.Stop Go.Stop Go.Extern

/-- checkOrder at "bytes" or "fold": nil, nothing turns. -/
theorem check_bytes (s : ByteArray) (w : World) (h : (s.toList == [98, 121, 116, 101, 115]) = true) :
    Calls Ybaf.prog 7 #[.string s] w fun e w' => e = .returned .nilIface ∧ w' = w := by
  go_enter Ybaf.func7, Ybaf.ntmps7
  go_wp2
  go_ret
  exact ⟨rfl, rfl⟩

theorem check_fold (s : ByteArray) (w : World) (h1 : (s.toList == [98, 121, 116, 101, 115]) = false) (h : (s.toList == [102, 111, 108, 100]) = true) :
    Calls Ybaf.prog 7 #[.string s] w fun e w' => e = .returned .nilIface ∧ w' = w := by
  go_enter Ybaf.func7, Ybaf.ntmps7
  go_wp2
  go_ret
  exact ⟨rfl, rfl⟩

set_option maxHeartbeats 400000 in
/-- checkOrder at every other string: an error that is not nil, in new memory, whatever fmt's text. -/
theorem check_bad (F : Interp) (s : ByteArray) (w : World) (hF : F.answers w.tape) (h1 : (s.toList == [98, 121, 116, 101, 115]) = false) (h : (s.toList == [102, 111, 108, 100]) = false) :
    Calls Ybaf.prog 7 #[.string s] w fun e w' => e = .returned (.iface 36 (.pointer (some ⟨w.heap.size + 1, 0, none⟩))) ∧ Below w.heap.size w w' := by
  have hF' := answers_open hF
  go_enter Ybaf.func7, Ybaf.ntmps7
  go_wp2
  go_ret
  exact ⟨rfl, (((Below.refl _ _).alloc (Nat.le_refl _) _).alloc (by simp) _).drew⟩

set_option maxHeartbeats 400000 in
/-- zzs3352apick gives some string, and turns nothing. -/
theorem pickA (s : ByteArray) (k : Int) (w : World) (hs : s.size ≤ 140737488351232) (k0 : 0 ≤ k) (k1 : k ≤ 255) :
    Calls Ybaf.prog 6 #[.string s, .int .u8 k] w fun e w' => ∃ t : ByteArray, e = .returned (.string t) ∧ w' = w := by
  go_enter Ybaf.func6, Ybaf.ntmps6
  go_wp2
  all_goals
    go_ret
    exact ⟨_, rfl, rfl⟩

set_option maxHeartbeats 400000 in
theorem pickB (s : ByteArray) (k : Int) (w : World) (k0 : 0 ≤ k) (k1 : k ≤ 255) :
    Calls Ybaf.prog 9 #[.int .u8 k, .string s] w fun e w' => ∃ t : ByteArray, e = .returned (.string t) ∧ w' = w := by
  go_enter Ybaf.func9, Ybaf.ntmps9
  go_wp2
  all_goals
    go_ret
    exact ⟨_, rfl, rfl⟩

/-- The string is one of the two names. -/
def good (s : ByteArray) : Bool := s.toList == [98, 121, 116, 101, 115] || s.toList == [102, 111, 108, 100]

/-- checkOrder, all in one: nil at the two names, else an error that is not nil. -/
theorem check_good (s : ByteArray) (w : World) (hg : good s = true) :
    Calls Ybaf.prog 7 #[.string s] w fun e w' => e = .returned .nilIface ∧ w' = w := by
  unfold good at hg
  cases h1 : s.toList == [98, 121, 116, 101, 115]
  · rw [h1, Bool.false_or] at hg
    exact check_fold s w h1 hg
  · exact check_bytes s w h1

theorem check_else (F : Interp) (s : ByteArray) (w : World) (hF : F.answers w.tape) (hg : good s = false) :
    Calls Ybaf.prog 7 #[.string s] w fun e w' => e = .returned (.iface 36 (.pointer (some ⟨w.heap.size + 1, 0, none⟩))) ∧ Below w.heap.size w w' := by
  unfold good at hg
  have hh := Bool.or_eq_false_iff.1 hg
  exact check_bad F s w hF hh.1 hh.2

theorem parse_good (s : ByteArray) (w : World) (hg : good s = true) :
    Calls Ybaf.prog 8 #[.string s] w fun e w' => e = .returned (.tuple #[.string s, .nilIface]) ∧ w' = w := by
  go_enter Ybaf.func8, Ybaf.ntmps8
  go_wp2_with (go_at_call 7; refine (check_good s _ hg).mono ?_; rintro e w' ⟨rfl, rfl⟩)
  go_ret2
  exact ⟨rfl, rfl⟩

theorem parse_else (F : Interp) (s : ByteArray) (w : World) (hF : F.answers w.tape) (hg : good s = false) :
    Calls Ybaf.prog 8 #[.string s] w fun e w' => ∃ a : Addr, e = .returned (.tuple #[.string ⟨#[]⟩, .iface 36 (.pointer (some a))]) ∧ Below w.heap.size w w' := by
  go_enter Ybaf.func8, Ybaf.ntmps8
  go_wp2_with (go_at_call 7; refine (check_else F s _ hF hg).mono ?_; rintro e w' ⟨rfl, hb⟩)
  go_ret2
  exact ⟨_, rfl, hb⟩

end Go.Proofs.YbulkbqjyFmt
