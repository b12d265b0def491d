/-
  LawS3363CPlaces: the walk.
-/
import Derived.Test.YbulkbqpwParts
namespace Go.Proofs.Ybulkbqpw
open Go.RowKit

set_option maxRecDepth 100000 in
set_option maxHeartbeats 2000000 in
theorem law_many (pa : Option Addr) (n cp : Nat) (ni nf ex oldOff : Int) (keep : Bool) (T : List (List (Bool × Int) × Int)) (w : World) (hn : T.length = n) (hn1 : n ≤ 1024)
    (ni0 : 0 ≤ ni) (ni1 : ni ≤ 255) (nf0 : 0 ≤ nf) (nf1 : nf ≤ 255) (ex0 : 0 ≤ ex) (ex1 : ex ≤ 255)
    (hT : SlotsIn w pa T) (hBig : ∀ p ∈ T, p.1.length ≤ 140737488351232) :
    Calls Yba.prog 3 #[.slice pa n cp, .int .u8 ni, .int .u8 nf, .int .u8 ex, .int .i64 oldOff, .bool keep] w fun e w' => e = .returned (.bool true) ∧ Below w.heap.size w w' := by
  obtain ⟨i35, hi35, hz350, hz351, hz352⟩ := info_parts info35
  obtain ⟨i33, hi33, hz330, hz331, hz332⟩ := info_parts info33
  obtain ⟨i38, hi38, hz380, hz381, hz382⟩ := info_parts info38
  have g1 : ¬ (1024 : Int) < (n : Int) := by omega
  have HT : Hid (SlotsIn w pa T) := hT
  have HN : Hid (T.length = n) := hn
  have HB : Hid (∀ p ∈ T, p.1.length ≤ 140737488351232) := hBig
  clear hT hn hBig
  go_enter Yba.func3, Yba.ntmps3
  go_wp2
  go_loopw [13, 41] (fun t i wr => ∃ k : Nat, ∃ s : Nat, k ≤ n ∧ s ≤ 8192 ∧ t = .int .i64 s ∧ i = .int .i64 k ∧ Hid (s = tot (T.take k)) ∧ Below w.heap.size w wr) (fun _ i _ => n - (intOf i).toNat)
  case atStart => exact ⟨0, 0, Nat.zero_le _, Nat.zero_le _, rfl, rfl, (show Hid _ from rfl), Below.refl _ _⟩
  case round =>
    obtain ⟨k, s, hk, hs, rfl, rfl, HSK, hb⟩ := hrel
    by_cases hlt : k < n
    · obtain ⟨R, off, hd⟩ : ∃ R off, T[k]? = some (R, off) := ⟨_, _, List.getElem?_eq_getElem (by rw [HN.out]; exact hlt)⟩
      obtain ⟨b, o, q, c, hpa, c0, c1, hR⟩ := HT.out k R off hd
      subst hpa
      have hll := HB.out _ (List.mem_of_getElem? hd)
      have e0 : wr.cell? ⟨b, o + k * 2, none⟩ = some (.slice q R.length c) := by rw [hb.cell (cell_lt c0)]; exact c0
      have e1 : wr.cell? ⟨b, o + k * 2 + 1, none⟩ = some (.int .i64 off) := by rw [hb.cell (cell_lt c1)]; exact c1
      have hlt' : (k : Int) < (n : Int) := by omega
      have hsn := tot_snoc T k R off hd
      rw [← HSK.out] at hsn
      have HSN : Hid (tot (T.take (k + 1)) = s + R.length) := hsn
      have hbl : b < wr.heap.size := cell_lt e0
      have hbz := hb.size
      simp only at hll
      obtain ⟨L, hL⟩ : ∃ L, R.length = L := ⟨_, rfl⟩
      rw [hL] at hll e0 HSN
      clear hd c0 c1 hR hsn hL
      by_cases hbg : 8192 < s + L
      · have hbg' : (8192 : Int) < (s : Int) + (L : Int) := by omega
        go_wp2
        go_ret
        exact ⟨rfl, hb.alloc hbz _⟩
      · have hbg' : ¬ (8192 : Int) < (s : Int) + (L : Int) := by omega
        go_wp2
        go_roundw
        case rel => exact ⟨k + 1, s + L, by omega, by omega, by go_num, by go_num, (show Hid _ from HSN.out.symm), hb.alloc hbz _⟩
        case measure => simp [intOf]; omega
    · obtain rfl : n = k := by omega
      have hT8 : tot T ≤ 8192 := by
        have := HSK.out
        rw [List.take_of_length_le (by rw [HN.out]; exact Nat.le_refl _)] at this
        omega
      have HT8 : Hid (tot T ≤ 8192) := hT8
      clear hT8 HSK HB
      go_wp2_with fail
      refine (names4 wr).mono ?_
      rintro e w1 ⟨rfl, hI1, hb1⟩
      go_wp2_with fail
      refine (names5 w1).mono ?_
      rintro e w2 ⟨rfl, hF2, hb2⟩
      obtain ⟨I, hIe⟩ : ∃ I, wr.heap.size = I := ⟨_, rfl⟩
      obtain ⟨F, hFe⟩ : ∃ F, w1.heap.size = F := ⟨_, rfl⟩
      have hI2 : Blk w2 I 9 (nIs.map Value.string) := by rw [← hIe]; exact hI1.kept (grow_below hb2 (row := none)) (by simp)
      rw [hFe] at hF2
      have hIw : w.heap.size ≤ I := by have := hb.size; omega
      have hFw : w.heap.size ≤ F := by have := hb.size; have := hb1.size; omega
      have hW2 : Below w.heap.size w w2 := (hb.trans (hb1.mono (by omega))).trans (hb2.mono (by omega))
      have HNM : Hid (Blk w2 I 9 (nIs.map Value.string) ∧ Blk w2 F 9 (nFs.map Value.string) ∧ Below w.heap.size w w2) := ⟨hI2, hF2, hW2⟩
      rw [hIe, hFe]
      have hw2 := hW2.size
      clear hI1 hb1 hF2 hb2 hI2 hW2 hIe hFe hb
      obtain ⟨A, hA, hA7⟩ : ∃ A : Nat, ni % 8 = (A : Int) ∧ A ≤ 7 := ⟨(ni % 8).toNat, by omega, by omega⟩
      obtain ⟨B, hB, hB7⟩ : ∃ B : Nat, nf % 8 = (B : Int) ∧ B ≤ 7 := ⟨(nf % 8).toNat, by omega, by omega⟩
      go_wp2_with (at_make; refine wpList_make_full _ rfl (.tmp 68) (.tmp 68) 28 rfl w2.heap.size 35 i35 (.agg #[.slice none 0 0, .int .i64 0]) 2 Yba.underlying28 hi35 hz350 hz351 .i64 .i64 _ _ n rfl rfl rfl rfl (by rw [hz352]; omega) (by unfold maxLen; omega) (Nat.le_refl _) ?_)
      intro w3 hown3 hgrow3
      obtain ⟨sc0, hsl0, hS0⟩ := blk_of_own hown3
      obtain ⟨Sb, hSe⟩ : ∃ Sb, w2.heap.size = Sb := ⟨_, rfl⟩
      rw [hSe] at hS0 ⊢
      have hSw : w.heap.size ≤ Sb := by omega
      have HM3 : Hid (Mid w w3 I F Sb A B 0 n sc0 T) := by
        obtain ⟨a1, a2, a3⟩ := HNM.out
        exact ⟨a1.kept hgrow3 (by simp), a2.kept hgrow3 (by simp), hS0, hsl0, a3.grown hgrow3 (by omega) (by intro k hk; cases hk), by have := a1.lt; omega, by have := a2.lt; omega, fun i R off h => absurd h (Nat.not_lt_zero _)⟩
      clear hown3 hgrow3 hsl0 hS0 hSe HNM hw2
      go_wp2
      go_loopw [72] (fun i wr => ∃ k : Nat, k ≤ n ∧ i = .int .i64 k ∧ ∃ sc, Hid (Mid w wr I F Sb A B k n sc T)) (fun i _ => n - (intOf i).toNat)
      case atStart => exact ⟨0, Nat.zero_le _, rfl, sc0, HM3⟩
      case round =>
        obtain ⟨k, hk, rfl, sc, HX⟩ := hrel
        by_cases hlt : k < n
        · obtain ⟨R, off, hd⟩ : ∃ R off, T[k]? = some (R, off) := ⟨_, _, List.getElem?_eq_getElem (by rw [HN.out]; exact hlt)⟩
          obtain ⟨b, o, q, c, hpa, c0, c1, hR⟩ := HT.out k R off hd
          subst hpa
          have hbl : b < w.heap.size := cell_lt c0
          have e0 : wr.cell? ⟨b, o + k * 2, none⟩ = some (.slice q R.length c) := by rw [HX.out.below.cell hbl]; exact c0
          have e1 : wr.cell? ⟨b, o + k * 2 + 1, none⟩ = some (.int .i64 off) := by rw [HX.out.below.cell hbl]; exact c1
          have hlt' : (k : Int) < (n : Int) := by omega
          have hbw : w.heap.size ≤ wr.heap.size := HX.out.below.size
          have hbl2 : b < wr.heap.size := by omega
          have hll : R.length ≤ 8192 := by have := tot_mem T k R off hd; have := HT8.out; omega
          have HRI : Hid (RegsIn w q R) := hR
          have HDK : Hid (T[k]? = some (R, off)) := hd
          have hSlt := HX.out.slots.lt
          obtain ⟨os0, ho0⟩ : ∃ v, wr.cell? ⟨Sb, k * 2, none⟩ = some v := ⟨_, HX.out.slots.cell (List.getElem?_eq_getElem (by rw [HX.out.len]; omega))⟩
          obtain ⟨os1, ho1⟩ : ∃ v, wr.cell? ⟨Sb, k * 2 + 1, none⟩ = some v := ⟨_, HX.out.slots.cell (List.getElem?_eq_getElem (by rw [HX.out.len]; omega))⟩
          have hf0 := HX.out.slots.free (k * 2)
          have hf1 := HX.out.slots.free (k * 2 + 1)
          clear c0 c1 hR hd
          by_cases hz : R.length = 0
          · have hR0 : R = [] := List.eq_nil_of_length_eq_zero hz
            subst hR0
            simp only [List.length_nil] at e0
            clear hz hll HRI
            go_wp2
            go_roundw
            case rel => exact ⟨k + 1, by omega, by go_num, _, (show Hid _ from (mid_store (q := none) (c := 0) HX.out hSw hlt HDK.out (fun h => absurd h (Nat.lt_irrefl _))).alloc _)⟩
            case measure => simp [intOf]; omega
          · obtain ⟨L, hL⟩ : ∃ L, R.length = L := ⟨_, rfl⟩
            have HLL : Hid (R.length = L) := hL
            rw [hL] at e0 hll hz
            have hLp : (0 : Int) < (L : Int) := by omega
            clear hL
            go_wp2_with (at_make; refine wpList_make_full _ rfl (.tmp 83) (.tmp 83) 29 rfl (wr.heap.size + 1) 33 i33 (.agg #[.bool false, .int .i64 0]) 2 Yba.underlying29 hi33 hz330 hz331 .i64 .i64 _ _ L rfl rfl rfl rfl (by rw [hz332]; omega) (by unfold maxLen; omega) (by simp) ?_)
            intro w4 hown4 hgrow4
            obtain ⟨rc0, hrl, hBR⟩ := blk_of_own hown4
            obtain ⟨Rb, hRb⟩ : ∃ Rb, Rb = wr.heap.size + 1 := ⟨_, rfl⟩
            rw [← hRb] at hBR ⊢
            have HM4 : Hid (Mid w w4 I F Sb A B k n sc T) := (HX.out.alloc _).keptBy hgrow4
            have HX0 : Hid (Mid w wr I F Sb A B k n sc T) := HX.out
            have HGO : Hid (wr.grownBy w4 none) := grow_trans (grow_alloc (grow_refl _ _) _) hgrow4
            have hRwo : wr.heap.size ≤ Rb := by omega
            have hbx0 : w4.cell? ⟨wr.heap.size, 0, none⟩ = some (.slice q L c) := grow_cell hgrow4 (by simp) (by simp)
            have hbx1 : w4.cell? ⟨wr.heap.size, 1, none⟩ = some (.int .i64 off) := grow_cell hgrow4 (by simp) (by simp)
            have HR4 : Hid (Blk w4 Rb 33 rc0 ∧ rc0.length = L * 2) := ⟨hBR, hrl⟩
            have hRS : Sb < Rb := by omega
            have hbk : wr.heap.size < Rb := by omega
            obtain ⟨bk, hbke⟩ : ∃ bk, wr.heap.size = bk := ⟨_, rfl⟩
            have hbkS : Sb < bk := by omega
            rw [hbke] at hbx0 hbx1 hbk hRwo ⊢
            have HBK : Hid (wr.heap.size = bk) := hbke
            clear hown4 hgrow4 hrl hBR hRb e0 e1 hbl2 hf0 hf1 ho0 ho1 hSlt hbke hbw HX
            go_wp2
            obtain ⟨wo, hwo⟩ : ∃ wo : World, wo = wr := ⟨_, rfl⟩
            subst hwo
            go_loopw [88] (fun i wi => ∃ j : Nat, j ≤ L ∧ i = .int .i64 j ∧ ∃ rc, Hid (Filled w4 wi Rb A B j L rc R)) (fun i _ => L - (intOf i).toNat)
            case atStart => exact ⟨0, Nat.zero_le _, rfl, rc0, (show Hid _ from ⟨HR4.out.1, HR4.out.2, grow_refl _ _, fun t f x h => absurd h (Nat.not_lt_zero _)⟩)⟩
            case round =>
              obtain ⟨j, hj, rfl, rc, HI2⟩ := hrel
              by_cases hjl : j < L
              · obtain ⟨f, x, hfx⟩ : ∃ f x, R[j]? = some (f, x) := ⟨_, _, List.getElem?_eq_getElem (by rw [HLL.out]; exact hjl)⟩
                obtain ⟨b2, o2, hq, r0, r1, x0, x1⟩ := HRI.out j f x hfx
                subst hq
                have hb2w : b2 < w.heap.size := cell_lt r0
                have hb2R : some b2 ≠ some Rb := by simp; omega
                have c0 : wr.cell? ⟨b2, o2 + j * 2, none⟩ = some (.bool f) := grow_cell HI2.out.grown (by rw [HM4.out.below.cell hb2w]; exact r0) hb2R
                have c1 : wr.cell? ⟨b2, o2 + j * 2 + 1, none⟩ = some (.int .u8 x) := grow_cell HI2.out.grown (by rw [HM4.out.below.cell hb2w]; exact r1) hb2R
                have ltR := HI2.out.blk.lt
                have ltb2 : b2 < wr.heap.size := cell_lt c0
                obtain ⟨z0, hz0⟩ : ∃ v, wr.cell? ⟨Rb, j * 2, none⟩ = some v := ⟨_, HI2.out.blk.cell (List.getElem?_eq_getElem (by rw [HI2.out.len]; omega))⟩
                obtain ⟨z1, hz1⟩ : ∃ v, wr.cell? ⟨Rb, j * 2 + 1, none⟩ = some v := ⟨_, HI2.out.blk.cell (List.getElem?_eq_getElem (by rw [HI2.out.len]; omega))⟩
                have fz0 := HI2.out.blk.free (j * 2)
                have fz1 := HI2.out.blk.free (j * 2 + 1)
                have hjl' : (j : Int) < (L : Int) := by omega
                have HFX : Hid (R[j]? = some (f, x)) := hfx
                clear r0 r1 hfx hb2R
                cases f
                · go_wp2
                  go_region
                  all_goals go_wp2
                  all_goals go_roundw
                  case rel => exact ⟨j + 1, by omega, by go_num, _, (show Hid _ from filled_step (red_false A B x).symm hjl HFX.out HI2.out)⟩
                  case measure => simp [intOf]; omega
                · go_wp2
                  go_region
                  all_goals go_wp2
                  all_goals go_roundw
                  case rel => exact ⟨j + 1, by omega, by go_num, _, (show Hid _ from filled_step (red_true A B x).symm hjl HFX.out HI2.out)⟩
                  case measure => simp [intOf]; omega
              · obtain rfl : L = j := by omega
                have hbk1 : wr.cell? ⟨bk, 1, none⟩ = some (.int .i64 off) := grow_cell HI2.out.grown hbx1 (by simp; omega)
                have hgo : wo.grownBy wr none := grow_new HGO.out HI2.out.grown (by have := HBK.out; omega)
                have HM5 : Hid (Mid w wr I F Sb A B k n sc T) := HX0.out.keptBy hgo
                have hSlt := HM5.out.slots.lt
                obtain ⟨os0, ho0⟩ : ∃ v, wr.cell? ⟨Sb, k * 2, none⟩ = some v := ⟨_, HM5.out.slots.cell (List.getElem?_eq_getElem (by rw [HM5.out.len]; omega))⟩
                obtain ⟨os1, ho1⟩ : ∃ v, wr.cell? ⟨Sb, k * 2 + 1, none⟩ = some v := ⟨_, HM5.out.slots.cell (List.getElem?_eq_getElem (by rw [HM5.out.len]; omega))⟩
                have hf0 := HM5.out.slots.free (k * 2)
                have hf1 := HM5.out.slots.free (k * 2 + 1)
                have HM6 : Hid (Mid w ((wr.setCell ⟨Sb, k * 2, none⟩ (.slice (some ⟨Rb, 0, none⟩) L L)).setCell ⟨Sb, k * 2 + 1, none⟩ (.int .i64 off)) I F Sb A B (k + 1) n ((sc.set (k * 2) (.slice (some ⟨Rb, 0, none⟩) L L)).set (k * 2 + 1) (.int .i64 off)) T) := by
                  have := mid_store (q := some ⟨Rb, 0, none⟩) (c := L) HM5.out hSw hlt HDK.out (fun _ => ⟨Rb, rfl, hRS, HI2.out.blk.lt, fun j f x hj => by
                    have hjl : j < L := by have := (List.getElem?_eq_some_iff.1 hj).1; have := HLL.out; omega
                    obtain ⟨d1, d2⟩ := HI2.out.done j f x hjl hj
                    exact ⟨HI2.out.blk.cell d1, HI2.out.blk.cell d2⟩⟩)
                  rw [HLL.out] at this
                  exact this
                clear hgo hbx0 hbx1
                go_wp2
                go_roundw
                case rel => exact ⟨k + 1, by omega, by go_num, _, HM6⟩
                case measure => simp [intOf]; omega
        · obtain rfl : n = k := by omega
          obtain ⟨E, hE, hE3⟩ : ∃ E : Nat, ex % 4 = (E : Int) ∧ E ≤ 3 := ⟨(ex % 4).toNat, by omega, by omega⟩
          have HXM : Hid (Mid w wr I F Sb A B n n sc T) := HX.out
          clear HX
          obtain ⟨m, hm⟩ : ∃ m, m = n + E := ⟨_, rfl⟩
          have hmi : (n : Int) + (E : Int) = (m : Int) := by omega
          have hnm : n ≤ m := by omega
          have hm2 : m ≤ 1027 := by omega
          clear hm
          go_wp2_with (at_make; refine wpList_make_full _ rfl (.tmp 125) (.tmp 125) 36 rfl wr.heap.size 38 i38 (.agg #[.string ⟨#[]⟩, .slice none 0 0, .int .i64 0, .int .i64 0, .bool false]) 5 Yba.underlying36 hi38 hz380 hz381 .i64 .i64 _ _ m rfl rfl rfl rfl (by rw [hz382]; omega) (by unfold maxLen; omega) (Nat.le_refl _) ?_)
          intro w5 hown5 hgrow5
          obtain ⟨V, hVe⟩ : ∃ V, wr.heap.size = V := ⟨_, rfl⟩
          rw [hVe] at hown5 ⊢
          have hSV : Sb < V := by have := HXM.out.slots.lt; omega
          have HM5 : Hid (Mid w w5 I F Sb A B n n sc T) := HXM.out.keptBy hgrow5
          have HV5 : Hid (Vals w5 w5 V 0 m (madeCells #[.string ⟨#[]⟩, .slice none 0 0, .int .i64 0, .int .i64 0, .bool false] (m * 5)).toList oldOff keep) := vals_start oldOff keep hown5
          have HVN : Hid (w.heap.size ≤ V) := by show w.heap.size ≤ V; omega
          have HGV : Hid (GV sc T V) := gv_of_mid HXM.out HN.out (by omega)
          clear hown5 hgrow5 hVe HXM
          go_wp2
          go_loopw [129] (fun i wr => ∃ k : Nat, k ≤ m ∧ i = .int .i64 k ∧ ∃ vc, Hid (Vals w5 wr V k m vc oldOff keep)) (fun i _ => m - (intOf i).toNat)
          case atStart => exact ⟨0, Nat.zero_le _, rfl, _, HV5⟩
          case round =>
            obtain ⟨k, hk, rfl, vc, HX⟩ := hrel
            have hlen := HX.out.len
            have ltV := HX.out.blk.lt
            by_cases hlt : k < m
            · have hlt' : (k : Int) < (m : Int) := by omega
              obtain ⟨y1, hy1⟩ : ∃ v, wr.cell? ⟨V, k * 5 + 1, none⟩ = some v := ⟨_, HX.out.blk.cell (List.getElem?_eq_getElem (by omega))⟩
              obtain ⟨y2, hy2⟩ : ∃ v, wr.cell? ⟨V, k * 5 + 2, none⟩ = some v := ⟨_, HX.out.blk.cell (List.getElem?_eq_getElem (by omega))⟩
              obtain ⟨y3, hy3⟩ : ∃ v, wr.cell? ⟨V, k * 5 + 3, none⟩ = some v := ⟨_, HX.out.blk.cell (List.getElem?_eq_getElem (by omega))⟩
              have f1 := HX.out.blk.free (k * 5 + 1)
              have f2 := HX.out.blk.free (k * 5 + 2)
              have f3 := HX.out.blk.free (k * 5 + 3)
              clear hlen
              cases keep
              · go_wp2
                go_roundw
                case rel => exact ⟨k + 1, by omega, by go_num, _, (show Hid _ from vals_step_false hlt HX.out)⟩
                case measure => simp [intOf]; omega
              · go_wp2
                go_roundw
                case rel =>
                  obtain ⟨vd, hvd⟩ := vals_step_true hlt HX.out
                  exact ⟨k + 1, by omega, by go_num, vd, (show Hid _ from hvd)⟩
                case measure => simp [intOf]; omega
            · obtain rfl : m = k := by omega
              have HM6 : Hid (Mid w wr I F Sb A B n n sc T) := mid_grown HM5.out HX.out.grown HVN.out hSV HGV.out
              have hDl : (dred A B T).length = n := by rw [dred_length]; exact HN.out
              go_wp2_with fail
              refine (locate_any V m Sb n I (A + 1) F (B + 1) vc sc (dred A B T) nI nF wr hnm (by omega) hDl (by omega) (by have := HM6.out.ltI; omega) (by have := HM6.out.ltF; omega) (by omega) (by omega)
                (dred_len A B T HT8.out) HX.out.blk (by rw [HX.out.len]; omega) HM6.out.slots (ss_of_mid HM6.out HN.out HGV.out) (fun x hx => names_at nIs rfl HM6.out.ints x hx) (fun x hx => names_at nFs rfl HM6.out.flts x hx)).mono ?_
              rintro e w7 ⟨rfl, cs, hcs, hpl, hg7⟩
              have HFIN : Hid (Fin w7 V m n A B cs T oldOff keep) := fin_of HN.out HX.out hcs hpl hg7
              have HM7 : Hid (Mid w w7 I F Sb A B n n sc T) := mid_grown HM6.out hg7 HVN.out hSV HGV.out
              clear hcs hpl hg7 hlen ltV HM6 HX hDl HM5 HV5 HGV
              go_wp2
              go_loopw [156] (fun i wr => ∃ k : Nat, k ≤ m ∧ i = .int .i64 k ∧ Below w7.heap.size w7 wr) (fun i _ => m - (intOf i).toNat)
              case atStart => exact ⟨0, Nat.zero_le _, rfl, Below.refl _ _⟩
              case round =>
                obtain ⟨k, hk, rfl, hb7⟩ := hrel
                have hbW : Below w.heap.size w wr := HM7.out.below.trans (hb7.mono HM7.out.below.size)
                by_cases hlt : k < m
                · have hlt' : (k : Int) < (m : Int) := by omega
                  have hBk : Blk wr V 38 cs := HFIN.out.blk.kept (grow_below hb7 (row := none)) (by simp)
                  have v0 := hBk.cell (HFIN.out.name k hlt)
                  have v3 := hBk.cell (HFIN.out.size k hlt)
                  have v4 := hBk.cell (HFIN.out.mem k hlt)
                  have ltV := hBk.lt
                  by_cases hkn : k < n
                  · obtain ⟨R, off, hd⟩ : ∃ R off, T[k]? = some (R, off) := ⟨_, _, List.getElem?_eq_getElem (by rw [HN.out]; exact hkn)⟩
                    obtain ⟨b, o, q, c, hpa, c0, c1, hR⟩ := HT.out k R off hd
                    subst hpa
                    have hkn' : (k : Int) < (n : Int) := by omega
                    have hbl : b < w.heap.size := cell_lt c0
                    have e0 : wr.cell? ⟨b, o + k * 2, none⟩ = some (.slice q R.length c) := by rw [hbW.cell hbl]; exact c0
                    have e1 : wr.cell? ⟨b, o + k * 2 + 1, none⟩ = some (.int .i64 off) := by rw [hbW.cell hbl]; exact c1
                    have hbl2 : b < wr.heap.size := cell_lt e0
                    have HRI : Hid (RegsIn w q R) := hR
                    have HDK : Hid (T[k]? = some (R, off)) := hd
                    have hll : R.length ≤ 8192 := by have := tot_mem T k R off hd; have := HT8.out; omega
                    clear c0 c1 hR hd
                    by_cases hz : R.length = 0
                    · have hR0 : R = [] := List.eq_nil_of_length_eq_zero hz
                      subst hR0
                      simp only [List.length_nil] at e0
                      have v2 := hBk.cell (HFIN.out.bare k off hlt HDK.out)
                      clear hz hll HRI hBk
                      cases keep
                      · have v1 := (HFIN.out.blk.kept (grow_below hb7 (row := none)) (by simp)).cell (HFIN.out.off k hlt (Or.inr ⟨off, HDK.out⟩) rfl)
                        go_wp2
                        go_roundw
                        case rel => exact ⟨k + 1, by omega, by go_num, hb7.alloc hb7.size _⟩
                        case measure => simp [intOf]; omega
                      · obtain ⟨z, z1, z2⟩ := HFIN.out.on k hlt (Or.inr ⟨off, HDK.out⟩) rfl
                        have v1 := (HFIN.out.blk.kept (grow_below hb7 (row := none)) (by simp)).cell z1
                        have zz := grow_cell (grow_below hb7 (row := none)) z2 (by simp)
                        have ltz : z < wr.heap.size := cell_lt zz
                        clear z1 z2
                        go_wp2
                        go_roundw
                        case rel => exact ⟨k + 1, by omega, by go_num, hb7.alloc hb7.size _⟩
                        case measure => simp [intOf]; omega
                    · obtain ⟨r1, g, r2, r3⟩ := HFIN.out.regs k R off hlt HDK.out (by omega)
                      have v2 := hBk.cell r1
                      have v1 := hBk.cell r2
                      have HNMS : Hid (∀ j f x, R[j]? = some (f, x) → w7.cell? ⟨g, j, none⟩ = some (.string (nm nI nF f (red A B f x)))) := r3
                      obtain ⟨L, hL⟩ : ∃ L, R.length = L := ⟨_, rfl⟩
                      have HLL : Hid (R.length = L) := hL
                      rw [hL] at e0 hll hz v1
                      have fz : ((L : Int) == 0) = false := beq_eq_false_iff_ne.2 (by omega)
                      have hdk : decide (n ≤ k) = false := decide_eq_false (by omega)
                      clear r1 r2 r3 hL hBk
                      go_wp2
                      go_quiet (fail)
                      obtain ⟨bx, hbx⟩ : ∃ bx, wr.heap.size = bx := ⟨_, rfl⟩
                      have HWB : Hid (Below w7.heap.size w7 ((wr.alloc (.cells #[.string ⟨#[]⟩, .slice (some ⟨g, 0, none⟩) L L, .int .i64 oldOff, .int .i64 (k : Nat), .bool false] 38)).drewN nq)) := below_drewN (hb7.alloc hb7.size _) nq
                      have HBX : Hid (((wr.alloc (.cells #[.string ⟨#[]⟩, .slice (some ⟨g, 0, none⟩) L L, .int .i64 oldOff, .int .i64 (k : Nat), .bool false] 38)).drewN nq).cell? ⟨bx, 1, none⟩ = some (.slice (some ⟨g, 0, none⟩) L L)) := by
                        show _ = _
                        subst hbx
                        simp
                      obtain ⟨wb, hwb⟩ : ∃ wb, (wr.alloc (.cells #[.string ⟨#[]⟩, .slice (some ⟨g, 0, none⟩) L L, .int .i64 oldOff, .int .i64 (k : Nat), .bool false] 38)).drewN nq = wb := ⟨_, rfl⟩
                      have hsw : wb.heap.size = bx + 1 := by rw [← hwb, ← hbx]; simp
                      rw [hbx]
                      rw [hwb] at HWB HBX ⊢
                      have e0b : wb.cell? ⟨b, o + k * 2, none⟩ = some (.slice q L c) := by rw [← hwb]; exact grow_cell (grow_alloc (grow_refl wr none) _) e0 (by simp)
                      have HSW : Hid (wb.heap.size = bx + 1) := hsw
                      clear hwb hbx v0 v1 v2 v3 v4 e0 e1 hb7 hbW ltV hbl2 hsw
                      go_wp2
                      obtain ⟨wo, hwo⟩ : ∃ wo : World, wo = wr := ⟨_, rfl⟩
                      subst hwo
                      go_loopw [238] (fun i wi => ∃ j : Nat, j ≤ L ∧ i = .int .i64 j ∧ Below wb.heap.size wb wi) (fun i _ => L - (intOf i).toNat)
                      case atStart => exact ⟨0, Nat.zero_le _, rfl, Below.refl _ _⟩
                      case round =>
                        obtain ⟨j, hj, rfl, hbi⟩ := hrel
                        have hbi7 : Below w7.heap.size w7 wr := HWB.out.trans (hbi.mono HWB.out.size)
                        by_cases hjl : j < L
                        · obtain ⟨f, x, hfx⟩ : ∃ f x, R[j]? = some (f, x) := ⟨_, _, List.getElem?_eq_getElem (by rw [HLL.out]; exact hjl)⟩
                          obtain ⟨b2, o2, hq, r0, r1, x0, x1⟩ := HRI.out j f x hfx
                          subst hq
                          have hbiW : Below w.heap.size w wr := HM7.out.below.trans (hbi7.mono HM7.out.below.size)
                          have c0 : wr.cell? ⟨b2, o2 + j * 2, none⟩ = some (.bool f) := by rw [hbiW.cell (cell_lt r0)]; exact r0
                          have c1 : wr.cell? ⟨b2, o2 + j * 2 + 1, none⟩ = some (.int .u8 x) := by rw [hbiW.cell (cell_lt r1)]; exact r1
                          have cx : wr.cell? ⟨bx, 1, none⟩ = some (.slice (some ⟨g, 0, none⟩) L L) := by rw [hbi.cell (cell_lt HBX.out)]; exact HBX.out
                          have cg0 := HNMS.out j f x hfx
                          have cg : wr.cell? ⟨g, j, none⟩ = some (.string (nm nI nF f (red A B f x))) := by rw [hbi7.cell (cell_lt cg0)]; exact cg0
                          have ltb2 : b2 < wr.heap.size := cell_lt c0
                          have ltbx : bx < wr.heap.size := cell_lt cx
                          have ltg : g < wr.heap.size := cell_lt cg
                          have hjl' : (j : Int) < (L : Int) := by omega
                          have HBI : Hid (Below wb.heap.size wb wr) := hbi
                          clear r0 r1 cg0 hfx hbi hbiW
                          cases f
                          · have y0 : 0 ≤ x % ((A : Int) + 1) := Int.emod_nonneg x (by omega)
                            have y1 : x % ((A : Int) + 1) < (A : Int) + 1 := Int.emod_lt_of_pos x (by omega)
                            have y8 : x % ((A : Int) + 1) < 8 := by omega
                            have cn0 := names_at nIs rfl HM7.out.ints (x % ((A : Int) + 1)).toNat (by omega)
                            have cn : wr.cell? ⟨I, (x % ((A : Int) + 1)).toNat, none⟩ = some (.string (nm nI nF false (red A B false x))) := by rw [hbi7.cell (cell_lt cn0)]; exact cn0
                            have ltI : I < wr.heap.size := cell_lt cn
                            generalize nm nI nF false (red A B false x) = str at cg cn
                            clear cn0 hbi7 y1
                            go_wp2
                            go_roundw
                            case rel => exact ⟨j + 1, by omega, by go_num, HBI.out.alloc HBI.out.size _⟩
                            case measure => simp [intOf]; omega
                          · have y0 : 0 ≤ x % ((B : Int) + 1) := Int.emod_nonneg x (by omega)
                            have y1 : x % ((B : Int) + 1) < (B : Int) + 1 := Int.emod_lt_of_pos x (by omega)
                            have y8 : x % ((B : Int) + 1) < 8 := by omega
                            have cn0 := names_at nFs rfl HM7.out.flts (x % ((B : Int) + 1)).toNat (by omega)
                            have cn : wr.cell? ⟨F, (x % ((B : Int) + 1)).toNat, none⟩ = some (.string (nm nI nF true (red A B true x))) := by rw [hbi7.cell (cell_lt cn0)]; exact cn0
                            have ltF : F < wr.heap.size := cell_lt cn
                            generalize nm nI nF true (red A B true x) = str at cg cn
                            clear cn0 hbi7 y1
                            go_wp2
                            go_roundw
                            case rel => exact ⟨j + 1, by omega, by go_num, HBI.out.alloc HBI.out.size _⟩
                            case measure => simp [intOf]; omega
                        · obtain rfl : L = j := by omega
                          go_wp2
                          go_roundw
                          case rel => exact ⟨k + 1, by omega, by go_num, hbi7⟩
                          case measure => simp [intOf]; omega
                  · have hkn' : ¬ (k : Int) < (n : Int) := by omega
                    have v2 := hBk.cell (HFIN.out.past k hlt (by omega))
                    clear hBk
                    cases keep
                    · have v1 := (HFIN.out.blk.kept (grow_below hb7 (row := none)) (by simp)).cell (HFIN.out.off k hlt (Or.inl (by omega)) rfl)
                      go_wp2
                      go_roundw
                      case rel => exact ⟨k + 1, by omega, by go_num, hb7.alloc hb7.size _⟩
                      case measure => simp [intOf]; omega
                    · obtain ⟨z, z1, z2⟩ := HFIN.out.on k hlt (Or.inl (by omega)) rfl
                      have v1 := (HFIN.out.blk.kept (grow_below hb7 (row := none)) (by simp)).cell z1
                      have zz := grow_cell (grow_below hb7 (row := none)) z2 (by simp)
                      have ltz : z < wr.heap.size := cell_lt zz
                      clear z1 z2
                      go_wp2
                      go_roundw
                      case rel => exact ⟨k + 1, by omega, by go_num, hb7.alloc hb7.size _⟩
                      case measure => simp [intOf]; omega
                · go_wp2
                  go_ret
                  exact ⟨rfl, hbW⟩

end Go.Proofs.Ybulkbqpw
