/-
  LawS3362BWriteJoin: the walk.
-/
import Derived.Test.YbulkbqpiWrite
namespace Go.Proofs.Ybulkbqpi
open Go.RowKit Go.Shelf

theorem early4 (pa ra : Option Addr) (n m cp cr : Nat) (w : World) (h : 1024 < n ∨ 4096 < m) (hn1 : n ≤ 9223372036854775807) (hm1 : m ≤ 9223372036854775807) :
    Calls Yba.prog 4 #[.slice pa n cp, .slice ra m cr] w fun e w' => e = .returned (.bool true) ∧ Below w.heap.size w w' := by
  by_cases h1 : 1024 < n
  · have h1' : (1024 : Int) < (n : Int) := by omega
    clear h
    go_enter Yba.func4, Yba.ntmps4
    go_wp2
    go_ret
    exact ⟨rfl, Below.refl _ _⟩
  · have h1' : ¬ (1024 : Int) < (n : Int) := by omega
    have h2' : (4096 : Int) < (m : Int) := by omega
    clear h
    go_enter Yba.func4, Yba.ntmps4
    go_wp2
    go_ret
    exact ⟨rfl, Below.refl _ _⟩

theorem lens_le4 (ls : List (List UInt8)) (M : Nat) (h : ∀ l ∈ ls, l.length ≤ M) : Lib.lens ls ≤ M * ls.length := by
  induction ls with
  | nil => simp [Lib.lens]
  | cons x r ih =>
    have h1 := h x (by simp)
    have h2 := ih fun l hl => h l (by simp [hl])
    rw [Lib.lens_cons, List.length_cons, Nat.mul_succ]
    omega

set_option maxHeartbeats 2000000 in
theorem law4_many (pa ra : Option Addr) (n m cp cr : Nat) (ls : List (List UInt8)) (lr : List UInt8) (w : World) (hn : ls.length = n) (hm : lr.length = m) (hn1 : n ≤ 1024) (hm1 : m ≤ 4096)
    (hP : Parts w pa ls) (hLs : ∀ l ∈ ls, l.length ≤ 9223372036854775807) (hR : Lib.HoldsBytes w (.slice ra m cr) lr) :
    Calls Yba.prog 4 #[.slice pa n cp, .slice ra m cr] w fun e w' => e = .returned (.bool true) ∧ Below w.heap.size w w' := by
  have g1 : ¬ (1024 : Int) < (n : Int) := by omega
  have g2 : ¬ (4096 : Int) < (m : Int) := by omega
  have HP : Hid (Parts w pa ls) := hP
  have HR : Hid (Lib.HoldsBytes w (.slice ra m cr) lr) := hR
  have HN : Hid (ls.length = n) := hn
  have HM : Hid (lr.length = m) := hm
  have HL : Hid (∀ l ∈ ls, l.length ≤ 9223372036854775807) := hLs
  clear hP hR hn hm hLs
  go_enter Yba.func4, Yba.ntmps4
  go_wp2
  go_loop [5] (fun i => ∃ k : Nat, k ≤ n ∧ i = .int .i64 k ∧ Hid (∀ l ∈ ls.take k, l.length ≤ 4096)) (fun i => n - (intOf i).toNat)
  case atStart => exact ⟨0, Nat.zero_le _, rfl, (show Hid _ from by intro l hl; simp at hl)⟩
  case round =>
    obtain ⟨k, hk, rfl, HK⟩ := hrel
    by_cases hlt : k < n
    · obtain ⟨l, hl⟩ : ∃ l, ls[k]? = some l := ⟨_, List.getElem?_eq_getElem (by rw [HN.out]; exact hlt)⟩
      obtain ⟨b, o, pv, hpa, hcell, hhb⟩ := HP.out k l hl
      subst hpa
      have hlt' : (k : Int) < (n : Int) := by omega
      have hll := HL.out l (List.mem_of_getElem? hl)
      have HLK : Hid (ls[k]? = some l) := hl
      obtain ⟨q, cq, rfl, _⟩ := hhb
      obtain ⟨L, hL⟩ : ∃ L, l.length = L := ⟨_, rfl⟩
      have HLL : Hid (l.length = L) := hL
      rw [hL] at hcell hll
      clear hL hl
      by_cases hbig : 4096 < L
      · have hb' : (4096 : Int) < (L : Int) := by omega
        go_wp2
        go_ret
        exact ⟨rfl, Below.refl _ _⟩
      · have hb' : ¬ (4096 : Int) < (L : Int) := by omega
        have HK2 : Hid (∀ l ∈ ls.take (k + 1), l.length ≤ 4096) := by
          show ∀ l ∈ ls.take (k + 1), l.length ≤ 4096
          intro x hx
          rw [List.take_add_one, HLK.out] at hx
          rcases List.mem_append.1 hx with h | h
          · exact HK.out x h
          · simp at h; subst h; rw [HLL.out]; omega
        go_wp2
        go_round
        case rel => exact ⟨k + 1, by omega, by go_num, HK2⟩
        case measure => simp [intOf]; omega
    · obtain rfl : n = k := by omega
      have HS : Hid (∀ l ∈ ls, l.length ≤ 4096) := by
        have := HK.out
        rwa [List.take_of_length_le (by rw [HN.out]; exact Nat.le_refl _)] at this
      clear HK HL
      go_wp2
      obtain ⟨X, hXe⟩ : ∃ X, X = w.heap.size := ⟨_, rfl⟩
      have HX : Hid (X = w.heap.size) := hXe
      have H0 : Hid (Gath X 0 (.slice none 0 0) [] ls w (w.alloc (.cells #[.slice none 0 0] 24))) := by
        subst hXe
        exact ⟨by simp, by simp, World.ownsRow_nil _ _ _ _, (fun i u l hu => by simp at hu), (Below.refl _ _).alloc (Nat.le_refl _) _, by simp⟩
      rw [← hXe]
      clear hXe
      go_loopw [7] (fun i wr => ∃ k : Nat, k ≤ n ∧ i = .int .i64 k ∧ ∃ gv vs, Hid (Gath X k gv vs ls w wr)) (fun i _ => n - (intOf i).toNat)
      case atStart => exact ⟨0, Nat.zero_le _, rfl, _, _, H0⟩
      case round =>
        obtain ⟨k, hk, rfl, gv, vs, HG⟩ := hrel
        have keep : ∀ a u, w.cell? a = some u → wr.cell? a = some u := fun a u hu => by rw [HG.out.below.cell (by have := cell_lt hu; rw [HX.out]; exact this)]; exact hu
        by_cases hlt : k < n
        · obtain ⟨l, hl⟩ : ∃ l, ls[k]? = some l := ⟨_, List.getElem?_eq_getElem (by rw [HN.out]; exact hlt)⟩
          obtain ⟨b, o, pv, hpa, hcell, hhb⟩ := HP.out k l hl
          subst hpa
          have hlt' : (k : Int) < (n : Int) := by omega
          have hcw : wr.cell? ⟨b, o + k, none⟩ = some pv := keep _ _ hcell
          have HB : Hid (Lib.HoldsBytes wr pv l) := hb_kept hhb keep
          have hll := HS.out l (List.mem_of_getElem? hl)
          have HLK : Hid (ls[k]? = some l) := hl
          have hbo : b < X := by have := cell_lt hcell; rw [HX.out]; exact this
          obtain ⟨q, cq, rfl, _⟩ := hhb
          obtain ⟨L, hL⟩ : ∃ L, l.length = L := ⟨_, rfl⟩
          have HLL : Hid (l.length = L) := hL
          rw [hL] at HB hcw hll
          clear hl hcell keep hL
          go_wp2_with fail
          refine (write_any X (X + 1) k gv vs (.slice q L cq) l wr (by rw [HLL.out]; omega) (by omega) (by omega) HG.out.lt HG.out.cell HG.out.free HG.out.own HB.out).mono ?_
          rw [HLL.out]
          rintro e w2 ⟨rfl, g, cap, v', hw⟩
          have HG2 : Hid (Gath X (k + 1) (.slice (some ⟨g, 0, none⟩) (k + 1) cap) (vs ++ [v']) ls w w2) := gath_step HG.out HLK.out hw
          have hcw2 : w2.cell? ⟨b, o + k, none⟩ = some (.slice q L cq) := by
            rw [World.cell?_of_block (w := wr) (a := ⟨b, o + k, none⟩) (hw.block b (by have := HG.out.lt; omega) (by omega) (fun e => by have := (HG.out.own.lt b e.symm).1; omega))]
            exact hcw
          clear hw hcw HB
          go_wp2
          go_roundw
          case rel => exact ⟨k + 1, by omega, by go_num, _, _, HG2⟩
          case measure => simp [intOf]; omega
        · obtain rfl : n = k := by omega
          obtain ⟨go, gc, rfl⟩ : ∃ go gc, gv = .slice go n gc := by
            rcases HG.out.own.2 with ⟨rfl, rfl⟩ | ⟨g, cap, cur, rfl, _⟩
            · exact ⟨none, 0, rfl⟩
            · exact ⟨_, cap, rfl⟩
          have hcX := HG.out.cell
          have HB : Hid (Lib.HoldsBytes wr (.slice ra m cr) lr) := hb_kept HR.out keep
          clear keep
          go_wp2_with fail
          refine (clone_any _ lr _ (by rw [HM.out]; omega) HB.out).mono ?_
          rintro e w2 ⟨r, rfl, hr, hb3, hor⟩
          have hcX2 : w2.cell? ⟨X, 0, none⟩ = some (.slice go n gc) := by rw [hb3.cell (p := ⟨X, 0, none⟩) HG.out.lt]; exact hcX
          have hgb : wr.grownBy w2 none := ⟨hb3.os, hb3.tape, hb3.output, hb3.size, fun k hk _ => hb3.block k hk⟩
          have HO2 : Hid (w2.ownsRow (X + 1) 23 1 (.slice go n gc) n vs) := HG.out.own.kept hgb (by cases go with | none => exact Or.inl rfl | some a => exact Or.inr (by simp [Value.ownBlock]))
          have HP2 : Hid (∀ (i : Nat) u l, vs[i]? = some u → ls[i]? = some l → Lib.HoldsBytes w2 u l ∧ ∀ a m c, u = .slice (some a) m c → some a.block ≠ (Value.slice go n gc).ownBlock) := by
            intro i u l hu hl
            obtain ⟨q1, q2⟩ := HG.out.parts i u l hu hl
            exact ⟨hb_below q1 hb3, fun a m c e => (q2 a m c e).2.2⟩
          have HRO : Hid (∀ a m c, r = .slice (some a) m c → some a.block ≠ (Value.slice go n gc).ownBlock) := by
            intro a m' c e e2
            have := (HG.out.own.lt a.block e2.symm).2
            exact hor a.block this a m' c e rfl
          have HB2 : Hid (Below X w w2) := HG.out.below.trans (hb3.mono (by have := HG.out.lt; omega))
          have hB2 : X + 1 ≤ w2.heap.size := by have := HG.out.lt; have := hb3.size; omega
          have HRR : Hid (Lib.HoldsBytes w2 r lr) := hr
          have hsum : Lib.lens ls + lr.length ≤ 140737488355328 := by
            have := lens_le4 ls 4096 HS.out
            rw [HM.out]; rw [HN.out] at this; omega
          have HSUM : Hid (Lib.lens ls + lr.length ≤ 140737488355328) := hsum
          clear hr hb3 hor hgb hsum hcX HB
          obtain ⟨p2, c2, rfl, _⟩ : ∃ p c, r = .slice p lr.length c ∧ True := by obtain ⟨p, c, e, _⟩ := HRR.out; exact ⟨p, c, e, trivial⟩
          rw [HM.out] at HRR HRO ⊢
          go_wp2_with fail
          refine (join_any (X + 1) n _ vs ls _ lr w2 hB2 HO2.out HN.out (by omega) HSUM.out HP2.out HRR.out HRO.out).mono ?_
          rintro e w3 ⟨got, rfl, hgot, hg3⟩
          have HB3 : Hid (Below X w w3) := HB2.out.trans ⟨hg3.os, hg3.tape, hg3.output, hg3.size, fun j hj => hg3.block j (by omega) (fun e => by have := (HO2.out.lt j e.symm).1; omega)⟩
          have keep3 : ∀ a u, w.cell? a = some u → w3.cell? a = some u := fun a u hu => by rw [HB3.out.cell (by have := cell_lt hu; rw [HX.out]; exact this)]; exact hu
          have HP3 : Hid (Parts w3 pa ls) := by
            show Parts w3 pa ls
            intro i l hl
            obtain ⟨b, o, v, h1, h2, h3⟩ := HP.out i l hl
            exact ⟨b, o, v, h1, keep3 _ _ h2, hb_kept h3 keep3⟩
          have HR3 : Hid (Lib.HoldsBytes w3 (.slice ra m cr) lr) := hb_kept HR.out keep3
          have HRR3 : Hid (Lib.HoldsBytes w3 (.slice p2 m c2) lr) := by
            obtain ⟨p, c, e0, hn, hh⟩ := HRR.out
            refine ⟨p, c, e0, hn, fun a ha i x hx => ?_⟩
            subst ha
            have hu := hh a rfl i x hx
            have e : (a.add i).block = a.block := by unfold Addr.add; split <;> rfl
            rw [World.cell?_of_block (w := w2) (hg3.block _ (cell_lt hu) (by rw [e]; exact HRO.out a _ _ e0))]
            exact hu
          have HGOT : Hid (Lib.HoldsBytes w3 got (ls.flatten ++ lr)) := hgot
          have HFL : Hid ((ls.flatten ++ lr).length ≤ 140737488355328) := by show (ls.flatten ++ lr).length ≤ _; rw [List.length_append, flat_len]; exact HSUM.out
          clear hgot hg3 keep3 HRR HO2 HP2 HRO HB2 HG
          go_wp2_with fail
          refine (cat_any pa ra n m cp cr ls lr w3 HN.out HM.out (by omega) (by have := HSUM.out; rw [HM.out] at this; exact this) HP3.out HR3.out).mono ?_
          rintro e w4 ⟨ct, rfl, hct, hb5⟩
          have HW4 : Hid (Below X w w4) := HB3.out.trans (hb5.mono (by have := HB3.out.size; rw [HX.out]; omega))
          have HRR5 : Hid (Lib.HoldsBytes w4 (.slice p2 m c2) lr) := hb_below HRR3.out hb5
          have HR5 : Hid (Lib.HoldsBytes w4 (.slice ra m cr) lr) := hb_below HR3.out hb5
          go_wp2_with fail
          refine (eq_any got ct (ls.flatten ++ lr) w4 HFL.out (hb_below HGOT.out hb5) hct).mono ?_
          rintro e w5 ⟨rfl, q, rfl⟩
          clear hct hb5
          go_wp2_with fail
          refine (eq_any (.slice p2 m c2) (.slice ra m cr) lr _ (by rw [HM.out]; omega) (by exact hb_kept HRR5.out fun a u hu => hu) (by exact hb_kept HR5.out fun a u hu => hu)).mono ?_
          rintro e w6 ⟨rfl, q2, rfl⟩
          go_wp2
          go_ret
          exact ⟨rfl, by rw [← HX.out]; exact below_drewN HW4.out _⟩

end Go.Proofs.Ybulkbqpi
