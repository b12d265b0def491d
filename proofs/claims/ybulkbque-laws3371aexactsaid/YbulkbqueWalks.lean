import Derived.Test.YbulkbqueRows
import Derived.WalkKit
import Derived.WalkSpells
import Derived.WalkLawsBesides
import Derived.Deep.QuietTactic
import Derived.BigQuiet
import Derived.Deep.RegionWith
import Derived.Lib.AppendStr
namespace Go.Proofs.Ybulkbque
open Go.RowKit

theorem ret_int {k : IntKind} {a b : Int} (h : a = b) : Ending.returned (.int k a) = .returned (.int k b) := by rw [h]

def hexd (c : Int) : Int := if c < 10 then 48 + c else 87 + c

set_option maxHeartbeats 400000 in
theorem hex4 (c : Int) (w : World) (h0 : 0 ≤ c) (h1 : c ≤ 15) :
    Calls Yba.prog 4 #[.int .u8 c] w fun e w' => e = .returned (.int .u8 (hexd c)) ∧ w = w' := by
  by_cases h : c < 10
  · go_enter Yba.func4, Yba.ntmps4
    go_wp2
    go_ret
    exact ⟨ret_int (by unfold hexd; rw [if_pos h]), rfl⟩
  · go_enter Yba.func4, Yba.ntmps4
    go_wp2
    go_ret
    exact ⟨ret_int (by unfold hexd; rw [if_neg (by omega)]; omega), rfl⟩


theorem conv4 (w : World) (x y : Int) : (convert 22 9 (.slice (some ⟨w.heap.size, 0, none⟩) 4 4)).run Yba.prog (w.alloc (.cells #[.int .u8 48, .int .u8 120, .int .u8 x, .int .u8 y] 5)).drew = .ok (.string (strOfNums [48, 120, x, y])) (w.alloc (.cells #[.int .u8 48, .int .u8 120, .int .u8 x, .int .u8 y] 5)).drew := by
  refine run_convert_bytes_arg _ 22 5 Yba.underlying22 Yba.underlying5 _ 0 4 4 [48, 120, x, y] rfl ?_ 9 Yba.underlying9
  intro i hi
  match i, hi with
  | 0, _ => simp
  | 1, _ => simp
  | 2, _ => simp
  | 3, _ => simp

theorem hex_tab (n : Nat) (h : n < 16) : (((⟨#[48, 49, 50, 51, 52, 53, 54, 55, 56, 57, 97, 98, 99, 100, 101, 102]⟩ : ByteArray)[n]'h).toNat : Int) = hexd n := by
  have h1 : ∀ m : Fin 16, (((⟨#[48, 49, 50, 51, 52, 53, 54, 55, 56, 57, 97, 98, 99, 100, 101, 102]⟩ : ByteArray)[m.val]'m.isLt).toNat : Int) = hexd m.val := by decide +kernel
  exact h1 ⟨n, h⟩

theorem hex_at (c : Int) (h0 : 0 ≤ c) (h : c.toNat < 16) : (((⟨#[48, 49, 50, 51, 52, 53, 54, 55, 56, 57, 97, 98, 99, 100, 101, 102]⟩ : ByteArray)[c.toNat]'h).toNat : Int) = hexd c := by
  rw [hex_tab c.toNat h, Int.toNat_of_nonneg h0]

theorem ret_str {a b : ByteArray} (h : a = b) : Ending.returned (.string a) = .returned (.string b) := by rw [h]

set_option maxHeartbeats 400000 in
theorem hexByte (c : Int) (w : World) (h0 : 0 ≤ c) (h1 : c ≤ 255) :
    Calls Yba.prog 6 #[.int .u8 c] w fun e w' => e = .returned (.string (strOfNums [48, 120, hexd (c / 16), hexd (c % 16)])) ∧ Below w.heap.size w w' := by
  have a1 : 0 ≤ c / 16 := by omega
  have a2 : c / 16 < 16 := by omega
  have b1 : 0 ≤ c % 16 := by omega
  have b2 : c % 16 < 16 := by omega
  have hcv := conv4 w
  go_enter Yba.func6, Yba.ntmps6
  go_wp2
  go_region
  all_goals go_wp2
  all_goals go_ret
  refine ⟨ret_str ?_, ?_⟩
  · rw [hex_at (c / 16) a1, hex_at (c % 16) b1]
  · exact ((Below.refl _ _).alloc (Nat.le_refl _) _).drew

theorem strOfNums_size (xs : List Int) : (strOfNums xs).size = xs.length := by
  simp [strOfNums, ByteArray.size]

theorem cat_hex (x y : Int) : (⟨#[98, 121, 116, 101, 32]⟩ : ByteArray) ++ strOfNums [48, 120, x, y] = strOfNums [98, 121, 116, 101, 32, 48, 120, x, y] := by
  apply ByteArray.ext
  rw [ByteArray.data_append]
  simp [strOfNums]

theorem cat_chr (c : Int) : (⟨#[99, 104, 97, 114, 97, 99, 116, 101, 114, 32, 39]⟩ : ByteArray) ++ ⟨#[UInt8.ofNat c.toNat]⟩ ++ ⟨#[39]⟩ = strOfNums [99, 104, 97, 114, 97, 99, 116, 101, 114, 32, 39, c, 39] := by
  apply ByteArray.ext
  rw [ByteArray.data_append, ByteArray.data_append]
  simp [strOfNums]

set_option maxHeartbeats 400000 in
theorem describe_hex (c : Int) (w : World) (h0 : 0 ≤ c) (h1 : c ≤ 255) (h : c ≤ 32 ∨ 127 ≤ c) :
    Calls Yba.prog 5 #[.int .u8 c] w fun e w' => e = .returned (.string (strOfNums [98, 121, 116, 101, 32, 48, 120, hexd (c / 16), hexd (c % 16)])) ∧ Below w.heap.size w w' := by
  have hs : (strOfNums [48, 120, hexd (c / 16), hexd (c % 16)]).size = 4 := strOfNums_size _
  by_cases hc : c ≤ 32
  · clear h
    go_enter Yba.func5, Yba.ntmps5
    go_wp2_with (go_at_call 6; refine (hexByte c _ h0 h1).mono ?_; rintro e w' ⟨rfl, hg⟩)
    go_ret
    exact ⟨ret_str (cat_hex _ _), hg⟩
  · have hd : 127 ≤ c := by omega
    clear h
    go_enter Yba.func5, Yba.ntmps5
    go_wp2_with (go_at_call 6; refine (hexByte c _ h0 h1).mono ?_; rintro e w' ⟨rfl, hg⟩)
    go_ret
    exact ⟨ret_str (cat_hex _ _), hg⟩

theorem encode_ascii (c : Int) (h0 : 0 ≤ c) (h1 : c ≤ 126) : Utf8.encode c = ⟨#[UInt8.ofNat c.toNat]⟩ := by
  have hv : Utf8.valid c = true := by simp [Utf8.valid]; omega
  have h : c.toNat < 128 := by omega
  simp [Utf8.encode, hv, h]

set_option maxHeartbeats 400000 in
theorem describe_chr (c : Int) (w : World) (h0 : 33 ≤ c) (h1 : c ≤ 126) :
    Calls Yba.prog 5 #[.int .u8 c] w fun e w' => e = .returned (.string (strOfNums [99, 104, 97, 114, 97, 99, 116, 101, 114, 32, 39, c, 39])) ∧ w' = w := by
  have he := encode_ascii c (by omega) h1
  go_enter Yba.func5, Yba.ntmps5
  go_wp2
  go_ret
  exact ⟨ret_str (cat_chr c), rfl⟩

theorem info5 : (Yba.prog.info? 5).map (fun i => (i.zero, i.size, i.bytes)) = some (some (.int .u8 0), 1, 1) := by kernel_rfl

/-- 'string(want)' of a row that the call owns, in whatever later world. -/
theorem conv_own (base : Nat) (v : Value) (n : Nat) (w W : World) (xs : List Int) (h : w.ownsRow base 5 1 v n (xs.map (Value.int .u8))) (hb : Below w.heap.size w W) :
    (convert 22 9 v).run Yba.prog W = .ok (.string (strOfNums xs)) W := by
  have hlen := h.1
  rcases h.2 with ⟨rfl, hn⟩ | ⟨g, cap, cur, rfl, hg, hh, hnc, hcm, hcs, ht⟩
  · have e : xs = [] := by
      simp [hn] at hlen
      exact hlen
    subst e
    rw [run_convert_bytes_nil _ 22 5 Yba.underlying22 Yba.underlying5 0 0 9 Yba.underlying9]
    rfl
  · have hgs : g < w.heap.size := by
      rcases Nat.lt_or_ge g w.heap.size with h' | h'
      · exact h'
      · rw [Array.getElem?_eq_none h'] at hh; cases hh
    refine run_convert_bytes_arg _ 22 5 Yba.underlying22 Yba.underlying5 g 0 n cap xs (by simpa using hlen) ?_ 9 Yba.underlying9
    intro i hi
    have hc := h.cellAt i (by omega)
    have hil : i < xs.length := by simp at hlen; omega
    rw [Nat.zero_add, hb.cell (p := ⟨g, i, none⟩) hgs, hc]
    simp [List.getD, List.getElem?_eq_getElem hil]

theorem own_base {w : World} {base : Nat} {v : Value} {n : Nat} {xs : List Value} (h : w.ownsRow base 5 1 v n xs) : ∀ k, v.ownBlock = some k → base ≤ k := by
  intro k hk
  rcases h.2 with ⟨rfl, _⟩ | ⟨g, cap, cur, rfl, hg, _⟩
  · cases hk
  · simp [Value.ownBlock] at hk; omega

set_option maxHeartbeats 400000 in
theorem law_chr (c : Int) (w : World) (h0 : 33 ≤ c) (h1 : c ≤ 126) :
    Calls Yba.prog 3 #[.int .u8 c] w fun e w' => e = .returned (.bool true) ∧ Below w.heap.size w w' := by
  obtain ⟨i0, hi, hz0, hz1, hz2⟩ := info_parts info5
  go_enter Yba.func3, Yba.ntmps3
  go_wp2_with (at_builtin; refine Lib.wpList_append_own_string _ rfl (.tmp 10) (.const (.string ⟨#[99, 104, 97, 114, 97, 99, 116, 101, 114, 32, 39]⟩)) 22 9 rfl w.heap.size 5 i0 Yba.underlying22 Yba.underlying9 hi hz0 hz1 hz2 (.slice none 0 0) 0 [] rfl (World.ownsRow_nil _ _ _ _) _ rfl (by decide) (by decide) (Nat.le_refl _) ?_)
  intro v1 w1 hown1 hgrow1 _
  have hb1 : Below w.heap.size w w1 := (Below.refl _ _).grown hgrow1 (Nat.le_refl _) (by intro k hk; cases hk)
  have hz := hb1.size
  clear hgrow1
  go_wp2_with (at_builtin; refine wpList_append_own _ rfl (.tmp 12) (.tmp 14) 22 rfl w.heap.size 5 i0 (.int .u8 0) 1 1 Yba.underlying22 hi hz0 hz1 hz2 rfl (by decide) v1 11 _ rfl (hown1.alloc _) ⟨w1.heap.size, 0, none⟩ 2 2 [.int .u8 c, .int .u8 39] rfl rfl ?c1 ?c2 (by decide) (by decide) (by simp; omega) ?_)
  case c1 =>
    intro j u hj
    match j, hj with
    | 0, hj => simp at hj; subst hj; simp [Addr.add]
    | 1, hj => simp at hj; subst hj; simp [Addr.add]
  case c2 =>
    intro u hu
    simp at hu
    rcases hu with rfl | rfl <;> rfl
  · intro v2 w2 hown2 hgrow2 _
    have hb2 : Below w.heap.size w w2 := (hb1.alloc hz _).grown hgrow2 (by simp; omega) (own_base hown1)
    have hown : w2.ownsRow w.heap.size 5 1 v2 13 (([99, 104, 97, 114, 97, 99, 116, 101, 114, 32, 39, c, 39] : List Int).map (Value.int .u8)) := hown2
    have hcv := fun W hW => conv_own w.heap.size v2 13 w2 W [99, 104, 97, 114, 97, 99, 116, 101, 114, 32, 39, c, 39] hown hW
    have hd0 : Below w2.heap.size w2 w2.drew := (Below.refl _ _).drew
    clear hown1 hown2 hgrow2 hown
    go_wp2
    go_region_with (go_at_call 5; refine (describe_chr c _ h0 h1).mono ?_; rintro e w' ⟨rfl, rfl⟩)
    all_goals go_wp2
    all_goals go_ret
    all_goals exact ⟨rfl, hb2.drew⟩

set_option maxHeartbeats 400000 in
theorem law_lo (c : Int) (w : World) (h0 : 0 ≤ c) (h1 : c ≤ 255) (h : c ≤ 32) :
    Calls Yba.prog 3 #[.int .u8 c] w fun e w' => e = .returned (.bool true) ∧ Below w.heap.size w w' := by
  obtain ⟨i0, hi, hz0, hz1, hz2⟩ := info_parts info5
  go_enter Yba.func3, Yba.ntmps3
  go_wp2_with (at_builtin; refine Lib.wpList_append_own_string _ rfl (.tmp 16) (.const (.string ⟨#[98, 121, 116, 101, 32, 48, 120]⟩)) 22 9 rfl w.heap.size 5 i0 Yba.underlying22 Yba.underlying9 hi hz0 hz1 hz2 (.slice none 0 0) 0 [] rfl (World.ownsRow_nil _ _ _ _) _ rfl (by decide) (by decide) (Nat.le_refl _) ?_)
  intro v1 w1 hown1 hgrow1 _
  have hb1 : Below w.heap.size w w1 := (Below.refl _ _).grown hgrow1 (Nat.le_refl _) (by intro k hk; cases hk)
  have hz := hb1.size
  clear hgrow1
  go_wp2_with fail
  refine (hex4 (c / 16) _ (by omega) (by omega)).mono ?_
  rintro e w' ⟨rfl, rfl⟩
  go_wp2_with fail
  refine (hex4 (c % 16) _ (by omega) (by omega)).mono ?_
  rintro e w' ⟨rfl, rfl⟩
  go_wp2_with (at_builtin; refine wpList_append_own _ rfl (.tmp 18) (.tmp 25) 22 rfl w.heap.size 5 i0 (.int .u8 0) 1 1 Yba.underlying22 hi hz0 hz1 hz2 rfl (by decide) v1 7 _ rfl (hown1.alloc _) ⟨w1.heap.size, 0, none⟩ 2 2 [.int .u8 (hexd (c / 16)), .int .u8 (hexd (c % 16))] rfl rfl (cell_two_new _ _ _ _) ?c2 (by decide) (by decide) (by simp; omega) ?_)
  case c2 =>
    intro u hu
    simp at hu
    rcases hu with rfl | rfl <;> rfl
  · intro v2 w2 hown2 hgrow2 _
    have hb2 : Below w.heap.size w w2 := (hb1.alloc hz _).grown hgrow2 (by simp; omega) (own_base hown1)
    have hown : w2.ownsRow w.heap.size 5 1 v2 9 (([98, 121, 116, 101, 32, 48, 120, hexd (c / 16), hexd (c % 16)] : List Int).map (Value.int .u8)) := hown2
    have hcv := fun W hW => conv_own w.heap.size v2 9 w2 W [98, 121, 116, 101, 32, 48, 120, hexd (c / 16), hexd (c % 16)] hown hW
    have hd0 : Below w2.heap.size w2 w2.drew := (Below.refl _ _).drew
    have hz2' := hb2.size
    clear hown1 hown2 hgrow2 hown
    go_wp2
    go_region_with (go_at_call 5; refine (describe_hex c _ h0 h1 (by omega)).mono ?_; rintro e w' ⟨rfl, hb3⟩; have hb4 : Below w2.heap.size w2 w' := hd0.trans hb3)
    all_goals go_wp2
    all_goals go_ret
    all_goals exact ⟨rfl, hb2.trans (hb4.mono hz2')⟩

set_option maxHeartbeats 400000 in
theorem law_hi (c : Int) (w : World) (h0 : 0 ≤ c) (h1 : c ≤ 255) (h : 127 ≤ c) :
    Calls Yba.prog 3 #[.int .u8 c] w fun e w' => e = .returned (.bool true) ∧ Below w.heap.size w w' := by
  obtain ⟨i0, hi, hz0, hz1, hz2⟩ := info_parts info5
  go_enter Yba.func3, Yba.ntmps3
  go_wp2_with (at_builtin; refine Lib.wpList_append_own_string _ rfl (.tmp 16) (.const (.string ⟨#[98, 121, 116, 101, 32, 48, 120]⟩)) 22 9 rfl w.heap.size 5 i0 Yba.underlying22 Yba.underlying9 hi hz0 hz1 hz2 (.slice none 0 0) 0 [] rfl (World.ownsRow_nil _ _ _ _) _ rfl (by decide) (by decide) (Nat.le_refl _) ?_)
  intro v1 w1 hown1 hgrow1 _
  have hb1 : Below w.heap.size w w1 := (Below.refl _ _).grown hgrow1 (Nat.le_refl _) (by intro k hk; cases hk)
  have hz := hb1.size
  clear hgrow1
  go_wp2_with fail
  refine (hex4 (c / 16) _ (by omega) (by omega)).mono ?_
  rintro e w' ⟨rfl, rfl⟩
  go_wp2_with fail
  refine (hex4 (c % 16) _ (by omega) (by omega)).mono ?_
  rintro e w' ⟨rfl, rfl⟩
  go_wp2_with (at_builtin; refine wpList_append_own _ rfl (.tmp 18) (.tmp 25) 22 rfl w.heap.size 5 i0 (.int .u8 0) 1 1 Yba.underlying22 hi hz0 hz1 hz2 rfl (by decide) v1 7 _ rfl (hown1.alloc _) ⟨w1.heap.size, 0, none⟩ 2 2 [.int .u8 (hexd (c / 16)), .int .u8 (hexd (c % 16))] rfl rfl (cell_two_new _ _ _ _) ?c2 (by decide) (by decide) (by simp; omega) ?_)
  case c2 =>
    intro u hu
    simp at hu
    rcases hu with rfl | rfl <;> rfl
  · intro v2 w2 hown2 hgrow2 _
    have hb2 : Below w.heap.size w w2 := (hb1.alloc hz _).grown hgrow2 (by simp; omega) (own_base hown1)
    have hown : w2.ownsRow w.heap.size 5 1 v2 9 (([98, 121, 116, 101, 32, 48, 120, hexd (c / 16), hexd (c % 16)] : List Int).map (Value.int .u8)) := hown2
    have hcv := fun W hW => conv_own w.heap.size v2 9 w2 W [98, 121, 116, 101, 32, 48, 120, hexd (c / 16), hexd (c % 16)] hown hW
    have hd0 : Below w2.heap.size w2 w2.drew := (Below.refl _ _).drew
    have hz2' := hb2.size
    clear hown1 hown2 hgrow2 hown
    go_wp2
    go_region_with (go_at_call 5; refine (describe_hex c _ h0 h1 (by omega)).mono ?_; rintro e w' ⟨rfl, hb3⟩; have hb4 : Below w2.heap.size w2 w' := hd0.trans hb3)
    all_goals go_wp2
    all_goals go_ret
    all_goals exact ⟨rfl, hb2.trans (hb4.mono hz2')⟩

theorem law_any (c : Int) (w : World) (h0 : 0 ≤ c) (h1 : c ≤ 255) :
    Calls Yba.prog 3 #[.int .u8 c] w fun e w' => e = .returned (.bool true) ∧ Below w.heap.size w w' := by
  by_cases ha : c ≤ 32
  · exact law_lo c w h0 h1 ha
  · by_cases hb : 127 ≤ c
    · exact law_hi c w h0 h1 hb
    · exact law_chr c w (by omega) (by omega)

end Go.Proofs.Ybulkbque
