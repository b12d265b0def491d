/-
  container/heap: up, down.
-/
import Derived.Test.YbulkbqjyHeap
namespace Go.Proofs.Ybulkbqjy
open Go.RowKit

theorem zero41 : (Yba.prog.info? 41).map (·.zero) = some (some (.agg #[.int .i32 0, .int .u32 0, .map none, .slice none 0 0])) := by kernel_rfl

/-- The Replays at block X: its map, its heap's row. -/
structure St (w : World) (X M g cap : Nat) (l : List Ent) : Prop where
  blk : Blk w X 41 [.int .i32 0, .int .u32 0, .map (some M), .slice (some ⟨g, 0, none⟩) l.length cap]
  lt : X < g
  row : ∃ cs, Row w g cap l cs

theorem St.kept {w w' : World} {X M g cap : Nat} {l l' : List Ent} (h : St w X M g cap l) (hg : w.grownBy w' (some g)) (hl : l'.length = l.length) (hr : ∃ cs, Row w' g cap l' cs) : St w' X M g cap l' :=
  ⟨by rw [hl]; exact h.blk.kept hg (by simpa using Nat.ne_of_lt h.lt), h.lt, hr⟩
theorem St.same {w w' : World} {X M g cap : Nat} {l : List Ent} (h : St w X M g cap l) (hg : w.grownBy w' none) : St w' X M g cap l := by
  obtain ⟨cs, hr⟩ := h.row
  exact ⟨h.blk.kept hg (by simp), h.lt, cs, hr.kept hg (by simp)⟩
theorem St.cell {w : World} {X M g cap : Nat} {l : List Ent} (h : St w X M g cap l) : w.cell? ⟨X, 3, none⟩ = some (.slice (some ⟨g, 0, none⟩) l.length cap) := h.blk.cell rfl

set_option maxHeartbeats 1000000 in
theorem up_at (X M g cap j0 : Nat) (l0 : List Ent) (w : World) (hst : St w X M g cap l0) (hj0 : j0 < l0.length) (hu : UpInv l0 j0) (hl0 : l0.length ≤ 4096) :
    Calls Yba.prog 9 #[.iface 46 (.pointer (some ⟨X, 3, none⟩)), .int .i64 j0] w fun e w' => e = .returned (.tuple #[]) ∧ ∃ l, St w' X M g cap l ∧ l.Perm l0 ∧ OrdN l l.length ∧ w.grownBy w' (some g) := by
  have HS : Hid (St w X M g cap l0) := hst
  have HU : Hid (UpInv l0 j0) := hu
  clear hst hu
  go_enter Yba.func9, Yba.ntmps9
  go_wp2
  go_loopw [1] (fun i wr => ∃ j : Nat, i = .int .i64 j ∧ ∃ l, Hid (St wr X M g cap l ∧ l.Perm l0 ∧ j < l.length ∧ UpInv l j ∧ w.grownBy wr (some g))) (fun i _ => (intOf i).toNat)
  case atStart => exact ⟨j0, rfl, l0, (show Hid _ from ⟨HS.out, List.Perm.refl _, hj0, HU.out, grow_refl _ _⟩)⟩
  case round =>
    obtain ⟨j, rfl, l, HX⟩ := hrel
    obtain ⟨hst, hpm, hjl, hui, hgr⟩ := HX.out
    have hll : l.length ≤ 4096 := by rw [hpm.length_eq]; exact hl0
    have hcell := hst.cell
    obtain ⟨cs, hrow⟩ := hst.row
    obtain ⟨pj, hpj⟩ : ∃ p, l[j]? = some p := ⟨_, List.getElem?_eq_getElem hjl⟩
    obtain ⟨i, hi⟩ : ∃ i, (j - 1) / 2 = i := ⟨_, rfl⟩
    have hq : ((j : Int) - 1).tdiv 2 = (i : Int) := by
      by_cases e : j = 0
      · subst e; subst hi; rfl
      · rw [Int.tdiv_eq_ediv_of_nonneg (by omega)]; omega
    have hil : i < l.length := by omega
    obtain ⟨pi, hpi⟩ : ∃ p, l[i]? = some p := ⟨_, List.getElem?_eq_getElem hil⟩
    have hml := method_less hcell
    have HST : Hid (St wr X M g cap l) := hst
    have HROW : Hid (Row wr g cap l cs) := hrow
    have HPJ : Hid (l[j]? = some pj) := hpj
    have HPI : Hid (l[i]? = some pi) := hpi
    have HUI : Hid (UpInv l j) := hui
    have HGR : Hid (w.grownBy wr (some g)) := hgr
    have HI : Hid ((j - 1) / 2 = i) := hi
    have HPM : Hid (l.Perm l0) := hpm
    by_cases hj : j = 0
    · have hi0 : i = 0 := by omega
      subst hj
      subst hi0
      clear hst hrow hpj hpi hui hgr hi hpm HX
      go_wp2
      go_end0
      exact ⟨rfl, l, HST.out, HPM.out, up_zero HUI.out, HGR.out⟩
    · have hne : ¬ ((i : Int) = (j : Int)) := by omega
      have hneb : ((i : Int) == (j : Int)) = false := by simpa using hne
      have hj1 : 1 ≤ j := by omega
      have hij : i < j := by omega
      by_cases hlt : pj.2 < pi.2
      · clear hst hrow hpj hpi hui hgr hi hpm HX
        go_wp2_with fail
        refine (less_at g cap l.length j i l cs pj pi _ HROW.out rfl HPJ.out HPI.out).mono ?_
        rintro e w1 ⟨rfl, hb1⟩
        have hst1 : St w1 X M g cap l := HST.out.same (grow_below hb1)
        obtain ⟨cs1, hrow1⟩ := hst1.row
        have hms := method_swap hst1.cell
        have HROW1 : Hid (Row w1 g cap l cs1) := hrow1
        have HST1 : Hid (St w1 X M g cap l) := hst1
        have HB1 : Hid (Below wr.heap.size wr w1) := hb1
        clear hst1 hrow1 hb1
        go_wp2_with fail
        refine (swap_at g cap l.length i j l cs1 pi pj _ HROW1.out rfl HPI.out HPJ.out).mono ?_
        rintro e w2 ⟨rfl, hrow2, hg2⟩
        have hst2 : St w2 X M g cap (sw l i j) := HST1.out.kept hg2 (sw_length _ _ _) hrow2
        have hgr2 : w.grownBy w2 (some g) := grow_trans (grow_trans HGR.out (grow_below HB1.out)) hg2
        have hui2 : UpInv (sw l i j) i := by
          have := up_step HUI.out hj1 hjl (by rw [HI.out, ky_of HPJ.out, ky_of HPI.out]; exact hlt)
          rw [HI.out] at this; exact this
        have HN : Hid (St w2 X M g cap (sw l i j) ∧ (sw l i j).Perm l0 ∧ i < (sw l i j).length ∧ UpInv (sw l i j) i ∧ w.grownBy w2 (some g)) :=
          ⟨hst2, (sw_perm l i j hil hjl).trans HPM.out, by rw [sw_length]; exact hil, hui2, hgr2⟩
        clear hst2 hgr2 hui2 hrow2 hg2
        go_wp2
        go_roundw
        case rel => exact ⟨i, rfl, _, HN⟩
        case measure => simp [intOf]; omega
      · have hd : decide (pj.2 < pi.2) = false := by simpa using hlt
        have HLT : Hid (¬ pj.2 < pi.2) := hlt
        clear hst hrow hpj hpi hui hgr hi hpm HX hlt
        go_wp2_with fail
        refine (less_at g cap l.length j i l cs pj pi _ HROW.out rfl HPJ.out HPI.out).mono ?_
        rintro e w1 ⟨rfl, hb1⟩
        have hst1 : St w1 X M g cap l := HST.out.same (grow_below hb1)
        have hgr1 : w.grownBy w1 (some g) := grow_trans HGR.out (grow_below hb1)
        have HN : Hid (St w1 X M g cap l ∧ l.Perm l0 ∧ OrdN l l.length ∧ w.grownBy w1 (some g)) :=
          ⟨hst1, HPM.out, up_end HUI.out (by rw [HI.out, ky_of HPJ.out, ky_of HPI.out]; have := HLT.out; omega), hgr1⟩
        clear hst1 hgr1 hb1
        go_wp2
        go_end0
        exact ⟨rfl, l, HN.out⟩

set_option maxHeartbeats 1000000 in
theorem down_at (X M g cap n : Nat) (l0 : List Ent) (w : World) (hst : St w X M g cap l0) (hn : n ≤ l0.length) (hu : DownInv l0 0 n) (hl0 : l0.length ≤ 4096) :
    Calls Yba.prog 16 #[.iface 46 (.pointer (some ⟨X, 3, none⟩)), .int .i64 0, .int .i64 n] w fun e w' => (∃ b, e = .returned (.bool b)) ∧ ∃ l, St w' X M g cap l ∧ l.Perm l0 ∧ OrdN l n ∧ (∀ k, n ≤ k → l[k]? = l0[k]?) ∧ w.grownBy w' (some g) := by
  have HS : Hid (St w X M g cap l0) := hst
  have HU : Hid (DownInv l0 0 n) := hu
  clear hst hu
  go_enter Yba.func16, Yba.ntmps16
  go_wp2
  go_loopw [7] (fun i wr => ∃ j : Nat, i = .int .i64 j ∧ j ≤ n ∧ ∃ l, Hid (St wr X M g cap l ∧ l.Perm l0 ∧ DownInv l j n ∧ (∀ k, n ≤ k → l[k]? = l0[k]?) ∧ w.grownBy wr (some g))) (fun i _ => n - (intOf i).toNat)
  case atStart => exact ⟨0, rfl, Nat.zero_le _, l0, (show Hid _ from ⟨HS.out, List.Perm.refl _, HU.out, fun _ _ => rfl, grow_refl _ _⟩)⟩
  case round =>
    obtain ⟨i, rfl, hin, l, HX⟩ := hrel
    obtain ⟨hst, hpm, hui, hkp, hgr⟩ := HX.out
    have hll : l.length ≤ 4096 := by rw [hpm.length_eq]; exact hl0
    have hnl : n ≤ l.length := by rw [hpm.length_eq]; exact hn
    have hcell := hst.cell
    obtain ⟨cs, hrow⟩ := hst.row
    have HST : Hid (St wr X M g cap l) := hst
    have HROW : Hid (Row wr g cap l cs) := hrow
    have HUI : Hid (DownInv l i n) := hui
    have HGR : Hid (w.grownBy wr (some g)) := hgr
    have HPM : Hid (l.Perm l0) := hpm
    have HKP : Hid (∀ k, n ≤ k → l[k]? = l0[k]?) := hkp
    have hml := method_less hcell
    by_cases hj : 2 * i + 1 < n
    · have hj' : 2 * (i : Int) + 1 < (n : Int) := by omega
      have hjb : decide ((n : Int) ≤ 2 * (i : Int) + 1) = false := by simpa using hj'
      obtain ⟨pi, hpi⟩ : ∃ p, l[i]? = some p := ⟨_, List.getElem?_eq_getElem (by omega)⟩
      obtain ⟨p1, hp1⟩ : ∃ p, l[2 * i + 1]? = some p := ⟨_, List.getElem?_eq_getElem (by omega)⟩
      have HPI : Hid (l[i]? = some pi) := hpi
      have HP1 : Hid (l[2 * i + 1]? = some p1) := hp1
      by_cases hj2 : 2 * i + 2 < n
      · have hj2' : 2 * (i : Int) + 1 + 1 < (n : Int) := by omega
        obtain ⟨p2, hp2⟩ : ∃ p, l[2 * i + 2]? = some p := ⟨_, List.getElem?_eq_getElem (by omega)⟩
        have HP2 : Hid (l[2 * i + 2]? = some p2) := hp2
        by_cases hc : p2.2 < p1.2
        · have hcd : decide (p2.2 < p1.2) = true := by simpa using hc
          have HMIN : Hid (∀ c, 1 ≤ c → c < n → (c - 1) / 2 = i → ky l (2 * i + 2) ≤ ky l c) := by
            intro c c1 c2 c3
            have e2 := ky_of hp2
            have e1 := ky_of hp1
            rcases (by omega : c = 2 * i + 1 ∨ c = 2 * i + 2) with rfl | rfl <;> omega
          clear hst hpm hui hkp hgr hrow HX hpi hp1 hp2 hc
          go_wp2_with fail
          refine (less_at g cap l.length (2 * i + 2) (2 * i + 1) l cs p2 p1 _ HROW.out rfl HP2.out HP1.out).mono ?_
          rintro e w1 ⟨rfl, hb1⟩
          have hst1 : St w1 X M g cap l := HST.out.same (grow_below hb1)
          obtain ⟨cs1, hrow1⟩ := hst1.row
          have HROW1 : Hid (Row w1 g cap l cs1) := hrow1
          have HST1 : Hid (St w1 X M g cap l) := hst1
          have HGR1 : Hid (w.grownBy w1 (some g)) := grow_trans HGR.out (grow_below hb1)
          clear hst1 hrow1 hb1
          have hmA := method_less HST1.out.cell
          by_cases hlt : p2.2 < pi.2
          · have hlt1 : decide (p2.2 < pi.2) = true := by simpa using hlt
            have HLT : Hid (p2.2 < pi.2) := hlt
            clear hlt
            go_wp2_with fail
            refine (less_at g cap l.length (2 * i + 2) i l _ p2 pi _ HROW1.out rfl HP2.out HPI.out).mono ?_
            rintro e w3 ⟨rfl, hb3⟩
            have hst3 : St w3 X M g cap l := HST1.out.same (grow_below hb3)
            obtain ⟨cs3, hrow3⟩ := hst3.row
            have hms := method_swap hst3.cell
            have HROW3 : Hid (Row w3 g cap l cs3) := hrow3
            have HST3 : Hid (St w3 X M g cap l) := hst3
            have HB3 : Hid (Below w1.heap.size w1 w3) := hb3
            clear hst3 hrow3 hb3
            go_wp2_with fail
            refine (swap_at g cap l.length i (2 * i + 2) l cs3 pi p2 _ HROW3.out rfl HPI.out HP2.out).mono ?_
            rintro e w4 ⟨rfl, hrow4, hg4⟩
            have HN : Hid (St w4 X M g cap (sw l i (2 * i + 2)) ∧ (sw l i (2 * i + 2)).Perm l0 ∧ DownInv (sw l i (2 * i + 2)) (2 * i + 2) n ∧ (∀ k, n ≤ k → (sw l i (2 * i + 2))[k]? = l0[k]?) ∧ w.grownBy w4 (some g)) :=
              ⟨HST3.out.kept hg4 (sw_length _ _ _) hrow4, (sw_perm l i (2 * i + 2) (by omega) (by omega)).trans HPM.out,
                down_step HUI.out hnl (by omega) (by omega) (by omega) HMIN.out (by rw [ky_of HP2.out, ky_of HPI.out]; have := HLT.out; omega),
                (fun k hk => by rw [sw_at l i (2 * i + 2) k (by omega) (by omega), if_neg (by omega), if_neg (by omega)]; exact HKP.out k hk),
                grow_trans (grow_trans HGR1.out (grow_below HB3.out)) hg4⟩
            clear hrow4 hg4
            go_wp2
            go_roundw
            case rel => exact ⟨2 * i + 2, by go_num, by omega, _, HN⟩
            case measure => simp [intOf]; omega
          · have hlt1 : decide (p2.2 < pi.2) = false := by simpa using hlt
            have HLT : Hid (¬ p2.2 < pi.2) := hlt
            clear hlt
            go_wp2_with fail
            refine (less_at g cap l.length (2 * i + 2) i l _ p2 pi _ HROW1.out rfl HP2.out HPI.out).mono ?_
            rintro e w3 ⟨rfl, hb3⟩
            have HN : Hid (St w3 X M g cap l ∧ l.Perm l0 ∧ OrdN l n ∧ (∀ k, n ≤ k → l[k]? = l0[k]?) ∧ w.grownBy w3 (some g)) :=
              ⟨HST1.out.same (grow_below hb3), HPM.out, down_end HUI.out (fun c c1 c2 c3 => by have h1 := HMIN.out c c1 c2 c3; have h2 := HLT.out; have h3 := ky_of HP2.out; have h4 := ky_of HPI.out; omega), HKP.out, grow_trans HGR1.out (grow_below hb3)⟩
            clear hb3
            go_wp2
            go_ret
            exact ⟨⟨_, rfl⟩, l, HN.out⟩
        · have hcd : decide (p2.2 < p1.2) = false := by simpa using hc
          have HMIN : Hid (∀ c, 1 ≤ c → c < n → (c - 1) / 2 = i → ky l (2 * i + 1) ≤ ky l c) := by
            intro c c1 c2 c3
            have e2 := ky_of hp2
            have e1 := ky_of hp1
            rcases (by omega : c = 2 * i + 1 ∨ c = 2 * i + 2) with rfl | rfl <;> omega
          clear hst hpm hui hkp hgr hrow HX hpi hp1 hp2 hc
          go_wp2_with fail
          refine (less_at g cap l.length (2 * i + 2) (2 * i + 1) l cs p2 p1 _ HROW.out rfl HP2.out HP1.out).mono ?_
          rintro e w1 ⟨rfl, hb1⟩
          have hst1 : St w1 X M g cap l := HST.out.same (grow_below hb1)
          obtain ⟨cs1, hrow1⟩ := hst1.row
          have HROW1 : Hid (Row w1 g cap l cs1) := hrow1
          have HST1 : Hid (St w1 X M g cap l) := hst1
          have HGR1 : Hid (w.grownBy w1 (some g)) := grow_trans HGR.out (grow_below hb1)
          clear hst1 hrow1 hb1
          have hmA := method_less HST1.out.cell
          by_cases hlt : p1.2 < pi.2
          · have hlt1 : decide (p1.2 < pi.2) = true := by simpa using hlt
            have HLT : Hid (p1.2 < pi.2) := hlt
            clear hlt
            go_wp2_with fail
            refine (less_at g cap l.length (2 * i + 1) i l _ p1 pi _ HROW1.out rfl HP1.out HPI.out).mono ?_
            rintro e w3 ⟨rfl, hb3⟩
            have hst3 : St w3 X M g cap l := HST1.out.same (grow_below hb3)
            obtain ⟨cs3, hrow3⟩ := hst3.row
            have hms := method_swap hst3.cell
            have HROW3 : Hid (Row w3 g cap l cs3) := hrow3
            have HST3 : Hid (St w3 X M g cap l) := hst3
            have HB3 : Hid (Below w1.heap.size w1 w3) := hb3
            clear hst3 hrow3 hb3
            go_wp2_with fail
            refine (swap_at g cap l.length i (2 * i + 1) l cs3 pi p1 _ HROW3.out rfl HPI.out HP1.out).mono ?_
            rintro e w4 ⟨rfl, hrow4, hg4⟩
            have HN : Hid (St w4 X M g cap (sw l i (2 * i + 1)) ∧ (sw l i (2 * i + 1)).Perm l0 ∧ DownInv (sw l i (2 * i + 1)) (2 * i + 1) n ∧ (∀ k, n ≤ k → (sw l i (2 * i + 1))[k]? = l0[k]?) ∧ w.grownBy w4 (some g)) :=
              ⟨HST3.out.kept hg4 (sw_length _ _ _) hrow4, (sw_perm l i (2 * i + 1) (by omega) (by omega)).trans HPM.out,
                down_step HUI.out hnl (by omega) (by omega) (by omega) HMIN.out (by rw [ky_of HP1.out, ky_of HPI.out]; have := HLT.out; omega),
                (fun k hk => by rw [sw_at l i (2 * i + 1) k (by omega) (by omega), if_neg (by omega), if_neg (by omega)]; exact HKP.out k hk),
                grow_trans (grow_trans HGR1.out (grow_below HB3.out)) hg4⟩
            clear hrow4 hg4
            go_wp2
            go_roundw
            case rel => exact ⟨2 * i + 1, by go_num, by omega, _, HN⟩
            case measure => simp [intOf]; omega
          · have hlt1 : decide (p1.2 < pi.2) = false := by simpa using hlt
            have HLT : Hid (¬ p1.2 < pi.2) := hlt
            clear hlt
            go_wp2_with fail
            refine (less_at g cap l.length (2 * i + 1) i l _ p1 pi _ HROW1.out rfl HP1.out HPI.out).mono ?_
            rintro e w3 ⟨rfl, hb3⟩
            have HN : Hid (St w3 X M g cap l ∧ l.Perm l0 ∧ OrdN l n ∧ (∀ k, n ≤ k → l[k]? = l0[k]?) ∧ w.grownBy w3 (some g)) :=
              ⟨HST1.out.same (grow_below hb3), HPM.out, down_end HUI.out (fun c c1 c2 c3 => by have h1 := HMIN.out c c1 c2 c3; have h2 := HLT.out; have h3 := ky_of HP1.out; have h4 := ky_of HPI.out; omega), HKP.out, grow_trans HGR1.out (grow_below hb3)⟩
            clear hb3
            go_wp2
            go_ret
            exact ⟨⟨_, rfl⟩, l, HN.out⟩
      · have hj2b : decide (2 * (i : Int) + 1 + 1 < (n : Int)) = false := by simp; omega
        have HMIN : Hid (∀ c, 1 ≤ c → c < n → (c - 1) / 2 = i → ky l (2 * i + 1) ≤ ky l c) := by
          intro c c1 c2 c3
          obtain rfl : c = 2 * i + 1 := by omega
          exact Int.le_refl _
        clear hst hpm hui hkp hgr hrow HX hpi hp1
        have hmA := method_less HST.out.cell
        by_cases hlt : p1.2 < pi.2
        · have hlt1 : decide (p1.2 < pi.2) = true := by simpa using hlt
          have HLT : Hid (p1.2 < pi.2) := hlt
          clear hlt
          go_wp2_with fail
          refine (less_at g cap l.length (2 * i + 1) i l _ p1 pi _ HROW.out rfl HP1.out HPI.out).mono ?_
          rintro e w3 ⟨rfl, hb3⟩
          have hst3 : St w3 X M g cap l := HST.out.same (grow_below hb3)
          obtain ⟨cs3, hrow3⟩ := hst3.row
          have hms := method_swap hst3.cell
          have HROW3 : Hid (Row w3 g cap l cs3) := hrow3
          have HST3 : Hid (St w3 X M g cap l) := hst3
          have HB3 : Hid (Below wr.heap.size wr w3) := hb3
          clear hst3 hrow3 hb3
          go_wp2_with fail
          refine (swap_at g cap l.length i (2 * i + 1) l cs3 pi p1 _ HROW3.out rfl HPI.out HP1.out).mono ?_
          rintro e w4 ⟨rfl, hrow4, hg4⟩
          have HN : Hid (St w4 X M g cap (sw l i (2 * i + 1)) ∧ (sw l i (2 * i + 1)).Perm l0 ∧ DownInv (sw l i (2 * i + 1)) (2 * i + 1) n ∧ (∀ k, n ≤ k → (sw l i (2 * i + 1))[k]? = l0[k]?) ∧ w.grownBy w4 (some g)) :=
            ⟨HST3.out.kept hg4 (sw_length _ _ _) hrow4, (sw_perm l i (2 * i + 1) (by omega) (by omega)).trans HPM.out,
              down_step HUI.out hnl (by omega) (by omega) (by omega) HMIN.out (by rw [ky_of HP1.out, ky_of HPI.out]; have := HLT.out; omega),
              (fun k hk => by rw [sw_at l i (2 * i + 1) k (by omega) (by omega), if_neg (by omega), if_neg (by omega)]; exact HKP.out k hk),
              grow_trans (grow_trans HGR.out (grow_below HB3.out)) hg4⟩
          clear hrow4 hg4
          go_wp2
          go_roundw
          case rel => exact ⟨2 * i + 1, by go_num, by omega, _, HN⟩
          case measure => simp [intOf]; omega
        · have hlt1 : decide (p1.2 < pi.2) = false := by simpa using hlt
          have HLT : Hid (¬ p1.2 < pi.2) := hlt
          clear hlt
          go_wp2_with fail
          refine (less_at g cap l.length (2 * i + 1) i l _ p1 pi _ HROW.out rfl HP1.out HPI.out).mono ?_
          rintro e w3 ⟨rfl, hb3⟩
          have HN : Hid (St w3 X M g cap l ∧ l.Perm l0 ∧ OrdN l n ∧ (∀ k, n ≤ k → l[k]? = l0[k]?) ∧ w.grownBy w3 (some g)) :=
            ⟨HST.out.same (grow_below hb3), HPM.out, down_end HUI.out (fun c c1 c2 c3 => by have h1 := HMIN.out c c1 c2 c3; have h2 := HLT.out; have h3 := ky_of HP1.out; have h4 := ky_of HPI.out; omega), HKP.out, grow_trans HGR.out (grow_below hb3)⟩
          clear hb3
          go_wp2
          go_ret
          exact ⟨⟨_, rfl⟩, l, HN.out⟩
    · have hj' : (n : Int) ≤ 2 * (i : Int) + 1 := by omega
      have HN : Hid (St wr X M g cap l ∧ l.Perm l0 ∧ OrdN l n ∧ (∀ k, n ≤ k → l[k]? = l0[k]?) ∧ w.grownBy wr (some g)) :=
        ⟨hst, hpm, down_end hui fun c c1 c2 c3 => absurd c3 (by omega), hkp, hgr⟩
      clear hst hpm hui hkp hgr hrow HX
      go_wp2
      go_ret
      exact ⟨⟨_, rfl⟩, l, HN.out⟩
end Go.Proofs.Ybulkbqjy
