/-
  The law, walked.
-/
import Derived.Test.YbulkbqjyParts
namespace Go.Proofs.Ybulkbqjy
open Go.RowKit Go.Maps

/-- The numbers of a slice that came in. -/
def IntsIn (w : World) (pa : Option Addr) (D : List Int) : Prop := ∀ i x, D[i]? = some x → -9223372036854775808 ≤ x ∧ x ≤ 9223372036854775807 ∧ ∃ b o, pa = some ⟨b, o, none⟩ ∧ w.cell? ⟨b, o + i, none⟩ = some (.int .i64 x)
def BoolsIn (w : World) (pb : Option Addr) (F : List Bool) : Prop := ∀ i x, F[i]? = some x → ∃ b o, pb = some ⟨b, o, none⟩ ∧ w.cell? ⟨b, o + i, none⟩ = some (.bool x)

set_option maxRecDepth 20000 in
set_option maxHeartbeats 4000000 in
theorem law_many (pa pb : Option Addr) (n cp m cm : Nat) (nv back : Int) (D : List Int) (F : List Bool) (w : World) (hn : D.length = n) (hn1 : n ≤ 1024) (hF : F.length = m) (hI : IntsIn w pa D) (hB : BoolsIn w pb F)
    (hnv : -9223372036854775808 ≤ nv ∧ nv ≤ 9223372036854775807) (hbk : 0 ≤ back ∧ back ≤ 65535) :
    Calls Yba.prog 3 #[.slice pa n cp, .slice pb m cm, .int .i64 nv, .int .u16 back] w fun e w' => e = .returned (.bool true) ∧ Below w.heap.size w w' := by
  have HI : Hid (IntsIn w pa D) := hI
  have HB : Hid (BoolsIn w pb F) := hB
  have HD : Hid (D.length = n) := hn
  have HF : Hid (F.length = m) := hF
  have HNV : Hid (-9223372036854775808 ≤ nv ∧ nv ≤ 9223372036854775807) := hnv
  have HBK : Hid (0 ≤ back ∧ back ≤ 65535) := hbk
  have hn1' : (n : Int) ≤ 1024 := by omega
  have hmm := @run_makeMap Yba.prog
  obtain ⟨fl, hfl⟩ : ∃ fl : Nat → Bool, fl = fun i => F.getD i false := ⟨_, rfl⟩
  have HFL : Hid (fl = fun i => F.getD i false) := hfl
  clear hI hB hn hF hnv hbk hfl
  go_enter Yba.func3, Yba.ntmps3
  go_wp2
  go_loopw [11] (fun i wr => ∃ k : Nat, k ≤ n ∧ i = .int .i64 k ∧ ∃ q cap l, Hid (Lw w wr k cap q l (l.map (·.1)) fl ∧ l.Perm ((es D).take k))) (fun i _ => n - (intOf i).toNat)
  case atStart => exact ⟨0, Nat.zero_le _, rfl, none, 0, [], (show Hid _ from ⟨lw_start w fl, List.Perm.refl _⟩)⟩
  case round =>
    obtain ⟨k, hk, rfl, q, cap, l, HX⟩ := hrel
    by_cases hlt : k < n
    · obtain ⟨x, hx⟩ : ∃ x, D[k]? = some x := ⟨_, List.getElem?_eq_getElem (by rw [HD.out]; exact hlt)⟩
      obtain ⟨hx0, hx1, b, o, rfl, hcx⟩ := HI.out k x hx
      have HXK : Hid (D[k]? = some x) := hx
      have hlt' : (k : Int) < (n : Int) := by omega
      have HCX : Hid (w.cell? ⟨b, o + k, none⟩ = some (.int .i64 x)) := hcx
      clear hx hcx
      obtain ⟨fk, hfk⟩ : ∃ y, fl k = y := ⟨_, rfl⟩
      have HFK : Hid (fl k = fk) := hfk
      clear hfk
      have hl4 : l.length ≤ 4000 := by have := HX.out.2.length_eq; rw [List.length_take, es_len] at this; omega
      by_cases hkm : k < m
      · obtain ⟨b2, o2, rfl, hcf⟩ := HB.out k fk (by
          have h1 := HFK.out
          rw [HFL.out] at h1
          have h2 := HF.out
          rw [List.getElem?_eq_getElem (by omega)]
          simp [List.getD, List.getElem?_eq_getElem (show k < F.length by omega)] at h1
          rw [h1])
        have hkm' : (k : Int) < (m : Int) := by omega
        have HCF : Hid (w.cell? ⟨b2, o2 + k, none⟩ = some (.bool fk)) := hcf
        clear hcf
        go_wp2_with fail
        refine (key_at k _ (by omega)).mono ?_
        rintro e w1 ⟨rfl, hb1⟩
        have h1 := HX.out.1.grow (grow_below hb1)
        obtain ⟨w2, hup, hm2, hg2⟩ := (h1.grow ((grow_drew (grow_alloc (grow_refl w1 none) (.cells #[.string kid, .string (nonce k), .string ⟨#[]⟩] 43))))).map.store (by omega) (show k < 1024 by omega) (not_in_range HX.out.2)
        rw [HFK.out] at hup
        unfold keyV at hup
        have h2 := (h1.grow ((grow_drew (grow_alloc (grow_refl w1 none) (.cells #[.string kid, .string (nonce k), .string ⟨#[]⟩] 43))))).put hm2 hg2
        have HL2 : Hid (Lw w w2 (k + 1) cap q l (l.map (·.1) ++ [k]) fl) := h2
        have c2 : w1.cell? ⟨w.heap.size + 1 + 1, 2, none⟩ = some (.map (some (w.heap.size + 1))) := h1.pre.blk.cell rfl
        have hX1 := h1.pre.blk.lt
        have hkb : Blk w2 w1.heap.size 43 [.string kid, .string (nonce k), .string ⟨#[]⟩] := (blk_new w1 [.string kid, .string (nonce k), .string ⟨#[]⟩] 43).drew.kept hg2 (by simp; omega)
        have HKB : Hid (Blk w2 w1.heap.size 43 [.string kid, .string (nonce k), .string ⟨#[]⟩]) := hkb
        have k0 : w2.cell? ⟨w1.heap.size, 0, none⟩ = some (.string kid) := hkb.cell rfl
        have k1 : w2.cell? ⟨w1.heap.size, 1, none⟩ = some (.string (nonce k)) := hkb.cell rfl
        have k2 : w2.cell? ⟨w1.heap.size, 2, none⟩ = some (.string ⟨#[]⟩) := hkb.cell rfl
        have t0 : w2.cell? ⟨w.heap.size, 0, none⟩ = some (.int .u64 0) := h2.t0.cell rfl
        have t1 : w2.cell? ⟨w.heap.size, 1, none⟩ = some (.int .i64 0) := h2.t0.cell rfl
        have t2 : w2.cell? ⟨w.heap.size, 2, none⟩ = some (.pointer none) := h2.t0.cell rfl
        have hds : w2.cell? ⟨b, o + k, none⟩ = some (.int .i64 x) := by rw [h2.below.cell (cell_lt HCX.out)]; exact HCX.out
        have hX2 := h2.pre.blk.lt
        have hK2 := hkb.lt
        have hcf1 : w1.cell? ⟨b2, o2 + k, none⟩ = some (.bool fk) := by rw [(HX.out.1.grow (grow_below hb1)).below.cell (cell_lt HCF.out)]; exact HCF.out
        have hb2l : b2 < w1.heap.size := cell_lt hcf1
        clear hb1 h1 h2 hkb hm2 hg2
        unfold keyV
        go_wp2
        go_region
        all_goals go_wp2
        all_goals go_region_law (first
          | (go_simp; go_at_call 6; refine (add_at x _ hx0 hx1).mono ?_; rintro e w3 ⟨rfl, hb3⟩; have g3 := grow_below_drew hb3; have h3 := HL2.out.grow g3; have hkb3 := HKB.out.kept g3 (by simp); have HL3 : Hid (Lw w w3 (k + 1) cap q l (l.map (·.1) ++ [k]) fl) := h3; have k03 : w3.cell? ⟨w1.heap.size, 0, none⟩ = some (.string kid) := hkb3.cell rfl; have k13 : w3.cell? ⟨w1.heap.size, 1, none⟩ = some (.string (nonce k)) := hkb3.cell rfl; have k23 : w3.cell? ⟨w1.heap.size, 2, none⟩ = some (.string ⟨#[]⟩) := hkb3.cell rfl; clear h3 hkb3 hb3 g3; unfold T)
          | (go_simp; go_at_call 5; refine (push_at (w.heap.size + 1 + 1) (w.heap.size + 1) (.slice q l.length cap) l (k, x) _ HL3.out.pre HL3.out.ord hl4).mono ?_; rintro e w4 ⟨rfl, g4, cap4, l4, hst4, hpm4, ho4, hf4⟩))
        all_goals
          have HN : Hid (Lw w w4 (k + 1) cap4 (some ⟨g4, 0, none⟩) l4 (l4.map (·.1)) fl ∧ l4.Perm ((es D).take (k + 1))) :=
            ⟨HL3.out.pushed hst4 ho4 hf4 (by have := (hpm4.map (·.1)).symm; simpa using this), by rw [es_take HXK.out]; exact hpm4.trans (HX.out.2.append_right _)⟩
          clear hst4 hpm4 ho4 hf4
          go_wp2
          go_roundw
          case rel => exact ⟨k + 1, by omega, by go_num, _, _, _, HN⟩
          case measure => simp [intOf]; omega
      · have hkm' : decide ((k : Int) < (m : Int)) = false := by simp; omega
        have hkm2 : decide (k < m) = false := by simp; omega
        have hfk0 : fk = false := by
          have h1 := HFK.out
          rw [HFL.out] at h1
          have h2 := HF.out
          simp [List.getD, List.getElem?_eq_none (show F.length ≤ k by omega)] at h1
          exact h1
        subst hfk0
        go_wp2_with fail
        refine (key_at k _ (by omega)).mono ?_
        rintro e w1 ⟨rfl, hb1⟩
        have h1 := HX.out.1.grow (grow_below hb1)
        obtain ⟨w2, hup, hm2, hg2⟩ := (h1.grow ((grow_drew (grow_alloc (grow_refl w1 none) (.cells #[.string kid, .string (nonce k), .string ⟨#[]⟩] 43))))).map.store (by omega) (show k < 1024 by omega) (not_in_range HX.out.2)
        rw [HFK.out] at hup
        unfold keyV at hup
        have h2 := (h1.grow ((grow_drew (grow_alloc (grow_refl w1 none) (.cells #[.string kid, .string (nonce k), .string ⟨#[]⟩] 43))))).put hm2 hg2
        have HL2 : Hid (Lw w w2 (k + 1) cap q l (l.map (·.1) ++ [k]) fl) := h2
        have c2 : w1.cell? ⟨w.heap.size + 1 + 1, 2, none⟩ = some (.map (some (w.heap.size + 1))) := h1.pre.blk.cell rfl
        have hX1 := h1.pre.blk.lt
        have hkb : Blk w2 w1.heap.size 43 [.string kid, .string (nonce k), .string ⟨#[]⟩] := (blk_new w1 [.string kid, .string (nonce k), .string ⟨#[]⟩] 43).drew.kept hg2 (by simp; omega)
        have HKB : Hid (Blk w2 w1.heap.size 43 [.string kid, .string (nonce k), .string ⟨#[]⟩]) := hkb
        have k0 : w2.cell? ⟨w1.heap.size, 0, none⟩ = some (.string kid) := hkb.cell rfl
        have k1 : w2.cell? ⟨w1.heap.size, 1, none⟩ = some (.string (nonce k)) := hkb.cell rfl
        have k2 : w2.cell? ⟨w1.heap.size, 2, none⟩ = some (.string ⟨#[]⟩) := hkb.cell rfl
        have t0 : w2.cell? ⟨w.heap.size, 0, none⟩ = some (.int .u64 0) := h2.t0.cell rfl
        have t1 : w2.cell? ⟨w.heap.size, 1, none⟩ = some (.int .i64 0) := h2.t0.cell rfl
        have t2 : w2.cell? ⟨w.heap.size, 2, none⟩ = some (.pointer none) := h2.t0.cell rfl
        have hds : w2.cell? ⟨b, o + k, none⟩ = some (.int .i64 x) := by rw [h2.below.cell (cell_lt HCX.out)]; exact HCX.out
        have hX2 := h2.pre.blk.lt
        have hK2 := hkb.lt
        clear hb1 h1 h2 hkb hm2 hg2
        unfold keyV
        go_wp2
        go_region
        all_goals go_wp2
        all_goals go_region_law (first
          | (go_simp; go_at_call 6; refine (add_at x _ hx0 hx1).mono ?_; rintro e w3 ⟨rfl, hb3⟩; have g3 := grow_below_drew hb3; have h3 := HL2.out.grow g3; have hkb3 := HKB.out.kept g3 (by simp); have HL3 : Hid (Lw w w3 (k + 1) cap q l (l.map (·.1) ++ [k]) fl) := h3; have k03 : w3.cell? ⟨w1.heap.size, 0, none⟩ = some (.string kid) := hkb3.cell rfl; have k13 : w3.cell? ⟨w1.heap.size, 1, none⟩ = some (.string (nonce k)) := hkb3.cell rfl; have k23 : w3.cell? ⟨w1.heap.size, 2, none⟩ = some (.string ⟨#[]⟩) := hkb3.cell rfl; clear h3 hkb3 hb3 g3; unfold T)
          | (go_simp; go_at_call 5; refine (push_at (w.heap.size + 1 + 1) (w.heap.size + 1) (.slice q l.length cap) l (k, x) _ HL3.out.pre HL3.out.ord hl4).mono ?_; rintro e w4 ⟨rfl, g4, cap4, l4, hst4, hpm4, ho4, hf4⟩))
        all_goals
          have HN : Hid (Lw w w4 (k + 1) cap4 (some ⟨g4, 0, none⟩) l4 (l4.map (·.1)) fl ∧ l4.Perm ((es D).take (k + 1))) :=
            ⟨HL3.out.pushed hst4 ho4 hf4 (by have := (hpm4.map (·.1)).symm; simpa using this), by rw [es_take HXK.out]; exact hpm4.trans (HX.out.2.append_right _)⟩
          clear hst4 hpm4 ho4 hf4
          go_wp2
          go_roundw
          case rel => exact ⟨k + 1, by omega, by go_num, _, _, _, HN⟩
          case measure => simp [intOf]; omega
    · obtain rfl : n = k := by omega
      have h0 := HX.out.1
      have hpm : l.Perm (es D) := by have := HX.out.2; rw [take_all HD.out] at this; exact this
      have HPM : Hid (l.Perm (es D)) := hpm
      have hl4 : l.length ≤ 4000 := by rw [hpm.length_eq, es_len, HD.out]; omega
      have t0 : wr.cell? ⟨w.heap.size, 0, none⟩ = some (.int .u64 0) := h0.t0.cell rfl
      have t1 : wr.cell? ⟨w.heap.size, 1, none⟩ = some (.int .i64 0) := h0.t0.cell rfl
      have t2 : wr.cell? ⟨w.heap.size, 2, none⟩ = some (.pointer none) := h0.t0.cell rfl
      have hX0 := h0.pre.blk.lt
      have HL0 : Hid (Lw w wr n cap q l (l.map (·.1)) fl) := h0
      clear h0 hpm HX
      go_wp2_with fail
      refine (add_at nv _ HNV.out.1 HNV.out.2).mono ?_
      rintro e w1 ⟨rfl, hb1⟩
      have h1 := HL0.out.grow (grow_below hb1)
      have HL1 : Hid (Lw w w1 n cap q l (l.map (·.1)) fl) := h1
      have hX1 := h1.pre.blk.lt
      clear hb1 h1 t0 t1 t2 HL0
      unfold T
      go_wp2_with fail
      refine (forget_at (w.heap.size + 1 + 1) (w.heap.size + 1) n cap l.length q l fl nv _ rfl (HL1.out.grow (grow_alloc (grow_refl w1 none) _)).pre (HL1.out.grow (grow_alloc (grow_refl w1 none) _)).map HL1.out.ord (Nat.lt_succ_self _) hl4).mono ?_
      rintro e w2 ⟨rfl, l2, hp2, hm2, ho2, hall2, hfil2, hfr2⟩
      have HL2 : Hid (Lw w w2 n cap q l2 (l2.map (·.1)) fl) := (HL1.out.grow (grow_alloc (grow_refl w1 none) _)).forgot hp2 hm2 ho2 hfr2
      have HNW : Hid (Blk w2 w1.heap.size 28 [.int .u64 (nv % 1000000000), .int .i64 (nv / 1000000000), .pointer none]) := now_kept HL1.out (Nat.le_refl _) (blk_new w1 [_, _, _] 28) hfr2
      have HK : Hid (l2.Perm ((es D).filter (gt nv))) := kept_all HPM.out hall2 hfil2
      have HALL : Hid (∀ p ∈ l2, nv < p.2) := hall2
      obtain ⟨NW, hNW⟩ : ∃ NW, w1.heap.size = NW := ⟨_, rfl⟩
      rw [hNW] at HNW ⊢
      have hlt2 : NW < w2.heap.size := HNW.out.lt
      clear hp2 hm2 ho2 hall2 hfil2 hfr2 hNW HL1 hX1
      go_wp2
      go_loopw [15, 16] (fun c i wr => ∃ k : Nat, k ≤ n ∧ i = .int .i64 k ∧ ∃ ct : Nat, c = .int .i64 ct ∧ Hid (ct = cnt D nv k ∧ Lw w wr n cap q l2 (l2.map (·.1)) fl ∧ Blk wr NW 28 [.int .u64 (nv % 1000000000), .int .i64 (nv / 1000000000), .pointer none])) (fun _ i _ => n - (intOf i).toNat)
      case atStart => exact ⟨0, Nat.zero_le _, rfl, 0, rfl, (show Hid _ from ⟨rfl, HL2.out, HNW.out⟩)⟩
      case round =>
        clear HL2 HNW
        obtain ⟨k, hk, rfl, ct, rfl, HX⟩ := hrel
        by_cases hlt : k < n
        · obtain ⟨x, hx⟩ : ∃ x, D[k]? = some x := ⟨_, List.getElem?_eq_getElem (by rw [HD.out]; exact hlt)⟩
          obtain ⟨hx0, hx1, b, o, rfl, hcx⟩ := HI.out k x hx
          have HXK : Hid (D[k]? = some x) := hx
          have hlt' : (k : Int) < (n : Int) := by omega
          have HCX : Hid (w.cell? ⟨b, o + k, none⟩ = some (.int .i64 x)) := hcx
          have hct : ct ≤ 1024 := by have h1 := HX.out.1; have h2 := cnt_le D nv k; omega
          clear hx hcx
          obtain ⟨fk, hfk⟩ : ∃ y, fl k = y := ⟨_, rfl⟩
          have HFK : Hid (fl k = fk) := hfk
          clear hfk
          by_cases hkm : k < m
          · obtain ⟨b2, o2, rfl, hcf⟩ := HB.out k fk (by
              have h1 := HFK.out
              rw [HFL.out] at h1
              have h2 := HF.out
              rw [List.getElem?_eq_getElem (by omega)]
              simp [List.getD, List.getElem?_eq_getElem (show k < F.length by omega)] at h1
              rw [h1])
            have hkm' : (k : Int) < (m : Int) := by omega
            have HCF : Hid (w.cell? ⟨b2, o2 + k, none⟩ = some (.bool fk)) := hcf
            clear hcf
            by_cases hgt : nv < x
            · have HGT : Hid (nv < x) := hgt
              have hgd : decide (nv < x) = true := by simpa using hgt
              go_wp2_with fail
              refine (key_at k _ (by omega)).mono ?_
              rintro e w3 ⟨rfl, hb3⟩
              have h3 := HX.out.2.1.grow (grow_below hb3)
              have hnw3 := HX.out.2.2.kept (row := none) (grow_below hb3) (by simp)
              have h4 := h3.grow (grow_drew (grow_alloc (grow_refl w3 none) (.cells #[.string kid, .string (nonce k), .string ⟨#[]⟩] 43)))
              have hlook := h4.map.look (i := k) (by omega)
              rw [decide_eq_true ((mem_kept HK.out HXK.out).2 HGT.out), HFK.out] at hlook
              unfold keyV at hlook
              simp only [Bool.true_and] at hlook
              have c2 : w3.cell? ⟨w.heap.size + 1 + 1, 2, none⟩ = some (.map (some (w.heap.size + 1))) := h3.pre.blk.cell rfl
              have hX3 := h3.pre.blk.lt
              have hds : w3.cell? ⟨b, o + k, none⟩ = some (.int .i64 x) := by rw [h3.below.cell (cell_lt HCX.out)]; exact HCX.out
              have hbl : b < w3.heap.size := cell_lt hds
              have hcf1 : w3.cell? ⟨b2, o2 + k, none⟩ = some (.bool fk) := by rw [h3.below.cell (cell_lt HCF.out)]; exact HCF.out
              have hb2l : b2 < w3.heap.size := cell_lt hcf1
              have HL3 : Hid (Lw w w3 n cap q l2 (l2.map (·.1)) fl) := h3
              have HNW3 : Hid (Blk w3 NW 28 [.int .u64 (nv % 1000000000), .int .i64 (nv / 1000000000), .pointer none]) := hnw3
              clear hb3 h3 h4 hnw3
              unfold keyV
              go_wp2
              go_region
              all_goals go_wp2
              all_goals go_roundw
              case rel => exact ⟨k + 1, by omega, by go_num, ct + 1, by go_num, (show Hid _ from ⟨by rw [cnt_yes HXK.out HGT.out, HX.out.1], HL3.out.grow (grow_drew (grow_alloc (grow_refl w3 none) _)), HNW3.out.kept (row := none) (grow_drew (grow_alloc (grow_refl w3 none) _)) (by simp)⟩)⟩
              case measure => simp [intOf]; omega
            · have HGT : Hid (x ≤ nv) := Int.not_lt.1 hgt
              have hgd : decide (nv < x) = false := by simpa using hgt
              go_wp2_with fail
              refine (key_at k _ (by omega)).mono ?_
              rintro e w3 ⟨rfl, hb3⟩
              have h3 := HX.out.2.1.grow (grow_below hb3)
              have hnw3 := HX.out.2.2.kept (row := none) (grow_below hb3) (by simp)
              have h4 := h3.grow (grow_drew (grow_alloc (grow_refl w3 none) (.cells #[.string kid, .string (nonce k), .string ⟨#[]⟩] 43)))
              have hlook := h4.map.look (i := k) (by omega)
              rw [decide_eq_false (fun h => Int.not_lt.2 HGT.out ((mem_kept HK.out HXK.out).1 h)), HFK.out] at hlook
              unfold keyV at hlook
              simp only [Bool.false_and] at hlook
              have c2 : w3.cell? ⟨w.heap.size + 1 + 1, 2, none⟩ = some (.map (some (w.heap.size + 1))) := h3.pre.blk.cell rfl
              have hX3 := h3.pre.blk.lt
              have hds : w3.cell? ⟨b, o + k, none⟩ = some (.int .i64 x) := by rw [h3.below.cell (cell_lt HCX.out)]; exact HCX.out
              have hbl : b < w3.heap.size := cell_lt hds
              have hcf1 : w3.cell? ⟨b2, o2 + k, none⟩ = some (.bool fk) := by rw [h3.below.cell (cell_lt HCF.out)]; exact HCF.out
              have hb2l : b2 < w3.heap.size := cell_lt hcf1
              have HL3 : Hid (Lw w w3 n cap q l2 (l2.map (·.1)) fl) := h3
              have HNW3 : Hid (Blk w3 NW 28 [.int .u64 (nv % 1000000000), .int .i64 (nv / 1000000000), .pointer none]) := hnw3
              clear hb3 h3 h4 hnw3
              unfold keyV
              go_wp2
              go_region
              all_goals go_wp2
              all_goals go_roundw
              case rel => exact ⟨k + 1, by omega, by go_num, ct, by go_num, (show Hid _ from ⟨by rw [cnt_no HXK.out (Int.not_lt.2 HGT.out), HX.out.1], HL3.out.grow (grow_drew (grow_alloc (grow_refl w3 none) _)), HNW3.out.kept (row := none) (grow_drew (grow_alloc (grow_refl w3 none) _)) (by simp)⟩)⟩
              case measure => simp [intOf]; omega
          · have hkm' : decide ((k : Int) < (m : Int)) = false := by simp; omega
            have hkm2 : decide (k < m) = false := by simp; omega
            have hfk0 : fk = false := by
              have h1 := HFK.out
              rw [HFL.out] at h1
              have h2 := HF.out
              simp [List.getD, List.getElem?_eq_none (show F.length ≤ k by omega)] at h1
              exact h1
            subst hfk0
            by_cases hgt : nv < x
            · have HGT : Hid (nv < x) := hgt
              have hgd : decide (nv < x) = true := by simpa using hgt
              go_wp2_with fail
              refine (key_at k _ (by omega)).mono ?_
              rintro e w3 ⟨rfl, hb3⟩
              have h3 := HX.out.2.1.grow (grow_below hb3)
              have hnw3 := HX.out.2.2.kept (row := none) (grow_below hb3) (by simp)
              have h4 := h3.grow (grow_drew (grow_alloc (grow_refl w3 none) (.cells #[.string kid, .string (nonce k), .string ⟨#[]⟩] 43)))
              have hlook := h4.map.look (i := k) (by omega)
              rw [decide_eq_true ((mem_kept HK.out HXK.out).2 HGT.out), HFK.out] at hlook
              unfold keyV at hlook
              simp only [Bool.true_and] at hlook
              have c2 : w3.cell? ⟨w.heap.size + 1 + 1, 2, none⟩ = some (.map (some (w.heap.size + 1))) := h3.pre.blk.cell rfl
              have hX3 := h3.pre.blk.lt
              have hds : w3.cell? ⟨b, o + k, none⟩ = some (.int .i64 x) := by rw [h3.below.cell (cell_lt HCX.out)]; exact HCX.out
              have hbl : b < w3.heap.size := cell_lt hds
              skip
              skip
              have HL3 : Hid (Lw w w3 n cap q l2 (l2.map (·.1)) fl) := h3
              have HNW3 : Hid (Blk w3 NW 28 [.int .u64 (nv % 1000000000), .int .i64 (nv / 1000000000), .pointer none]) := hnw3
              clear hb3 h3 h4 hnw3
              unfold keyV
              go_wp2
              go_region
              all_goals go_wp2
              all_goals go_roundw
              case rel => exact ⟨k + 1, by omega, by go_num, ct + 1, by go_num, (show Hid _ from ⟨by rw [cnt_yes HXK.out HGT.out, HX.out.1], HL3.out.grow (grow_drew (grow_alloc (grow_refl w3 none) _)), HNW3.out.kept (row := none) (grow_drew (grow_alloc (grow_refl w3 none) _)) (by simp)⟩)⟩
              case measure => simp [intOf]; omega
            · have HGT : Hid (x ≤ nv) := Int.not_lt.1 hgt
              have hgd : decide (nv < x) = false := by simpa using hgt
              go_wp2_with fail
              refine (key_at k _ (by omega)).mono ?_
              rintro e w3 ⟨rfl, hb3⟩
              have h3 := HX.out.2.1.grow (grow_below hb3)
              have hnw3 := HX.out.2.2.kept (row := none) (grow_below hb3) (by simp)
              have h4 := h3.grow (grow_drew (grow_alloc (grow_refl w3 none) (.cells #[.string kid, .string (nonce k), .string ⟨#[]⟩] 43)))
              have hlook := h4.map.look (i := k) (by omega)
              rw [decide_eq_false (fun h => Int.not_lt.2 HGT.out ((mem_kept HK.out HXK.out).1 h)), HFK.out] at hlook
              unfold keyV at hlook
              simp only [Bool.false_and] at hlook
              have c2 : w3.cell? ⟨w.heap.size + 1 + 1, 2, none⟩ = some (.map (some (w.heap.size + 1))) := h3.pre.blk.cell rfl
              have hX3 := h3.pre.blk.lt
              have hds : w3.cell? ⟨b, o + k, none⟩ = some (.int .i64 x) := by rw [h3.below.cell (cell_lt HCX.out)]; exact HCX.out
              have hbl : b < w3.heap.size := cell_lt hds
              skip
              skip
              have HL3 : Hid (Lw w w3 n cap q l2 (l2.map (·.1)) fl) := h3
              have HNW3 : Hid (Blk w3 NW 28 [.int .u64 (nv % 1000000000), .int .i64 (nv / 1000000000), .pointer none]) := hnw3
              clear hb3 h3 h4 hnw3
              unfold keyV
              go_wp2
              go_region
              all_goals go_wp2
              all_goals go_roundw
              case rel => exact ⟨k + 1, by omega, by go_num, ct, by go_num, (show Hid _ from ⟨by rw [cnt_no HXK.out (Int.not_lt.2 HGT.out), HX.out.1], HL3.out.grow (grow_drew (grow_alloc (grow_refl w3 none) _)), HNW3.out.kept (row := none) (grow_drew (grow_alloc (grow_refl w3 none) _)) (by simp)⟩)⟩
              case measure => simp [intOf]; omega
        · obtain rfl : n = k := by omega
          obtain ⟨L, hL⟩ : ∃ L, l2.length = L := ⟨_, rfl⟩
          have hct : ct = L := by have h1 := HX.out.1; rw [cnt_all HD.out HK.out, hL] at h1; exact h1
          subst hct
          have h0 := HX.out.2.1
          have hnw := HX.out.2.2
          obtain ⟨DD, hmp⟩ := h0.map
          have hown := hmp.own
          have hsz : Maps.size DD = ct := by rw [hmp.size]; simp [hL]
          have hc1024 : ct ≤ 1024 := by have h1 := HX.out.1; have h2 := cnt_le D nv n; omega
          have c2 : wr.cell? ⟨w.heap.size + 1 + 1, 2, none⟩ = some (.map (some (w.heap.size + 1))) := h0.pre.blk.cell rfl
          have c3 : wr.cell? ⟨w.heap.size + 1 + 1, 3, none⟩ = some (.slice q ct cap) := by rw [← hL]; exact h0.pre.blk.cell rfl
          have hX0 := h0.pre.blk.lt
          have HLE : Hid (l2.length = ct) := hL
          have HL0 : Hid (Lw w wr n cap q l2 (l2.map (·.1)) fl) := h0
          have HNW0 : Hid (Blk wr NW 28 [.int .u64 (nv % 1000000000), .int .i64 (nv / 1000000000), .pointer none]) := hnw
          clear h0 hnw hmp HX hL
          go_wp2_with (first | (at_len; refine wpList_len_own _ rfl _ 30 rfl 43 4 Yba.underlying30 _ (w.heap.size + 1) n DD rfl hown ?_) | fail)
          clear hown hsz c2 c3
          go_loopw [21] (fun i wr => ∃ t : Nat, t ≤ ct ∧ i = .int .i64 t ∧ Hid (Lw w wr n cap q l2 (l2.map (·.1)) fl ∧ Blk wr NW 28 [.int .u64 (nv % 1000000000), .int .i64 (nv / 1000000000), .pointer none])) (fun i _ => ct - (intOf i).toNat)
          case atStart => exact ⟨0, Nat.zero_le _, rfl, (show Hid _ from ⟨HL0.out, HNW0.out⟩)⟩
          case round =>
            clear HL0 HNW0
            obtain ⟨t, ht, rfl, HY⟩ := hrel
            have c3 : wr.cell? ⟨w.heap.size + 1 + 1, 3, none⟩ = some (.slice q ct cap) := by rw [← HLE.out]; exact HY.out.1.pre.blk.cell rfl
            have hX5 := HY.out.1.pre.blk.lt
            by_cases hlt : t < ct
            · obtain ⟨g, rfl⟩ := HY.out.1.pre.form (by rw [HLE.out]; omega)
              obtain ⟨p, hp⟩ : ∃ p, l2[t]? = some p := ⟨_, List.getElem?_eq_getElem (by rw [HLE.out]; exact hlt)⟩
              obtain ⟨cs, hr⟩ := (HY.out.1.pre.st rfl).row
              obtain ⟨-, -, -, a3, a4, a5⟩ := hr.cells hp
              have hgl := hr.blk.lt
              have hnp : nv < p.2 := HALL.out p (List.mem_of_getElem? hp)
              have hnd : decide (nv < p.2) = true := by simpa using hnp
              have n0 : wr.cell? ⟨NW, 0, none⟩ = some (.int .u64 (nv % 1000000000)) := HY.out.2.cell rfl
              have n1 : wr.cell? ⟨NW, 1, none⟩ = some (.int .i64 (nv / 1000000000)) := HY.out.2.cell rfl
              have n2 : wr.cell? ⟨NW, 2, none⟩ = some (.pointer none) := HY.out.2.cell rfl
              have hNl := HY.out.2.lt
              have hlt' : (t : Int) < (ct : Int) := by omega
              clear hp hr
              go_wp2
              go_region_law (go_simp; go_at_call 8; refine (before_at nv p.2 _).mono ?_; rintro e w5 ⟨rfl, hb5⟩)
              all_goals
                have HN : Hid (Lw w w5 n cap (some ⟨g, 0, none⟩) l2 (l2.map (·.1)) fl ∧ Blk w5 NW 28 [.int .u64 (nv % 1000000000), .int .i64 (nv / 1000000000), .pointer none]) := ⟨HY.out.1.grow (grow_below_drew hb5), HY.out.2.kept (row := none) (grow_below_drew hb5) (by simp)⟩
                clear hb5
                go_wp2
                go_roundw
                case rel => exact ⟨t + 1, by omega, by go_num, HN⟩
                case measure => simp [intOf]; omega
            · obtain rfl : ct = t := by omega
              have t0 : wr.cell? ⟨w.heap.size, 0, none⟩ = some (.int .u64 0) := HY.out.1.t0.cell rfl
              have t1 : wr.cell? ⟨w.heap.size, 1, none⟩ = some (.int .i64 0) := HY.out.1.t0.cell rfl
              have t2 : wr.cell? ⟨w.heap.size, 2, none⟩ = some (.pointer none) := HY.out.1.t0.cell rfl
              have HL5 : Hid (Lw w wr n cap q l2 (l2.map (·.1)) fl) := HY.out.1
              have hl24 : l2.length ≤ 4000 := by rw [HLE.out]; omega
              have hb0 : 0 ≤ back := HBK.out.1
              have hb1 : back ≤ 65535 := HBK.out.2
              obtain ⟨ea, hea⟩ : ∃ ea, wrap64 (nv - back) = ea := ⟨_, rfl⟩
              have hea2 : -9223372036854775808 ≤ ea ∧ ea ≤ 9223372036854775807 := by rw [← hea]; unfold wrap64; omega
              by_cases hgt : nv < ea
              · have hgd : decide (nv < ea) = true := by simpa using hgt
                have HE0 : Hid (-9223372036854775808 ≤ nv ∧ nv ≤ 9223372036854775807 ∧ nv ≤ nv) := ⟨HNV.out.1, HNV.out.2, Int.le_refl _⟩
                clear hea2
                go_wp2_with fail
                refine (add_at nv _ HE0.out.1 HE0.out.2.1).mono ?_
                rintro e6 w6 ⟨rfl, hb6⟩
                have h6 := HL5.out.grow (grow_below hb6)
                have HL6 : Hid (Lw w w6 n cap q l2 (l2.map (·.1)) fl) := h6
                clear hb6 h6
                unfold T
                go_wp2_with fail
                refine (forget_at (w.heap.size + 1 + 1) (w.heap.size + 1) n cap l2.length q l2 fl nv _ rfl HL6.out.pre HL6.out.map HL6.out.ord (Nat.lt_succ_self _) hl24).mono ?_
                rintro e7 w7 ⟨rfl, l3, hp3, hm3, ho3, hall3, hfil3, hfr3⟩
                have h7 := HL6.out.forgot hp3 hm3 ho3 hfr3
                have hl3 : l3.length = ct := by rw [none_more HE0.out.2.2 HALL.out hall3 hfil3]; exact HLE.out
                have c27 : w7.cell? ⟨w.heap.size + 1 + 1, 2, none⟩ = some (.map (some (w.heap.size + 1))) := h7.pre.blk.cell rfl
                have c37 : w7.cell? ⟨w.heap.size + 1 + 1, 3, none⟩ = some (.slice q ct cap) := by rw [← hl3]; exact h7.pre.blk.cell rfl
                have hX7 := h7.pre.blk.lt
                have HB7 : Hid (Below w.heap.size w w7) := h7.below
                obtain ⟨D7, hmp7⟩ := h7.map
                have hown7 := hmp7.own
                have hsz7 : Maps.size D7 = ct := by rw [hmp7.size]; simp [hl3]
                clear hp3 hm3 ho3 hall3 hfil3 hfr3 h7 hl3 hmp7
                go_wp2_with (first | (at_len; refine wpList_len_own _ rfl _ 30 rfl 43 4 Yba.underlying30 _ (w.heap.size + 1) n D7 rfl hown7 ?_) | fail)
                go_ret
                exact ⟨rfl, HB7.out⟩
              · have hgd : decide (nv < ea) = false := by simpa using hgt
                have HE0 : Hid (-9223372036854775808 ≤ ea ∧ ea ≤ 9223372036854775807 ∧ ea ≤ nv) := ⟨hea2.1, hea2.2, by omega⟩
                clear hea2
                go_wp2_with fail
                refine (add_at ea _ HE0.out.1 HE0.out.2.1).mono ?_
                rintro e6 w6 ⟨rfl, hb6⟩
                have h6 := HL5.out.grow (grow_below hb6)
                have HL6 : Hid (Lw w w6 n cap q l2 (l2.map (·.1)) fl) := h6
                clear hb6 h6
                unfold T
                go_wp2_with fail
                refine (forget_at (w.heap.size + 1 + 1) (w.heap.size + 1) n cap l2.length q l2 fl ea _ rfl HL6.out.pre HL6.out.map HL6.out.ord (Nat.lt_succ_self _) hl24).mono ?_
                rintro e7 w7 ⟨rfl, l3, hp3, hm3, ho3, hall3, hfil3, hfr3⟩
                have h7 := HL6.out.forgot hp3 hm3 ho3 hfr3
                have hl3 : l3.length = ct := by rw [none_more HE0.out.2.2 HALL.out hall3 hfil3]; exact HLE.out
                have c27 : w7.cell? ⟨w.heap.size + 1 + 1, 2, none⟩ = some (.map (some (w.heap.size + 1))) := h7.pre.blk.cell rfl
                have c37 : w7.cell? ⟨w.heap.size + 1 + 1, 3, none⟩ = some (.slice q ct cap) := by rw [← hl3]; exact h7.pre.blk.cell rfl
                have hX7 := h7.pre.blk.lt
                have HB7 : Hid (Below w.heap.size w w7) := h7.below
                obtain ⟨D7, hmp7⟩ := h7.map
                have hown7 := hmp7.own
                have hsz7 : Maps.size D7 = ct := by rw [hmp7.size]; simp [hl3]
                clear hp3 hm3 ho3 hall3 hfil3 hfr3 h7 hl3 hmp7
                go_wp2_with (first | (at_len; refine wpList_len_own _ rfl _ 30 rfl 43 4 Yba.underlying30 _ (w.heap.size + 1) n D7 rfl hown7 ?_) | fail)
                go_ret
                exact ⟨rfl, HB7.out⟩

end Go.Proofs.Ybulkbqjy
