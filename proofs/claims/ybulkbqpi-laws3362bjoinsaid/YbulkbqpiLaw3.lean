/-
  LawS3362BJoin: the walk.
-/
import Derived.Test.YbulkbqpiJoin
import Derived.Lib.Builder
namespace Go.Proofs.Ybulkbqpi
open Go.RowKit Go.Shelf

theorem early (pa ra : Option Addr) (n m cp cr : Nat) (w : World) (h : 1024 < n ∨ 4096 < m) (hn1 : n ≤ 9223372036854775807) (hm1 : m ≤ 9223372036854775807) :
    Calls Yba.prog 3 #[.slice pa n cp, .slice ra m cr] w fun e w' => e = .returned (.bool true) ∧ Below w.heap.size w w' := by
  by_cases h1 : 1024 < n
  · have h1' : (1024 : Int) < (n : Int) := by omega
    clear h
    go_enter Yba.func3, Yba.ntmps3
    go_wp2
    go_ret
    exact ⟨rfl, Below.refl _ _⟩
  · have h1' : ¬ (1024 : Int) < (n : Int) := by omega
    have h2' : (4096 : Int) < (m : Int) := by omega
    clear h
    go_enter Yba.func3, Yba.ntmps3
    go_wp2
    go_ret
    exact ⟨rfl, Below.refl _ _⟩

set_option maxHeartbeats 1000000 in
theorem law3_none (pa ra : Option Addr) (m cp cr : Nat) (lr : List UInt8) (w : World) (hm : lr.length = m) (hm1 : m ≤ 4096) (hR : Lib.HoldsBytes w (.slice ra m cr) lr) :
    Calls Yba.prog 3 #[.slice pa 0 cp, .slice ra m cr] w fun e w' => e = .returned (.bool true) ∧ Below w.heap.size w w' := by
  obtain ⟨i0, hi, hz0, hz1, hz2⟩ := info_parts info23
  have q23 : ∀ (w : World) (a : Option Addr) (n c n' c' : Nat), (binOp .eql 23 (.slice a n c) (.slice none n' c')).run Yba.prog w = .ok (.bool a.isNone) w := fun w a n c n' c' => Lib.run_eql_slice_nil w _ _ a n c n' c' Yba.underlying23
  have h2' : ¬ (4096 : Int) < (m : Int) := by omega
  obtain ⟨j5, hj5, _⟩ := info_parts info5
  have hne : ∀ (w : World) (a : Addr), (binOp .neq 26 (.pointer (some a)) (.pointer (some a))).run Yba.prog w = .ok (.bool false) w := fun w a => Lib.run_neq_ptr_same w a Yba.underlying26 hj5
  have hmk : ∀ w, (Instr.makeSlice 24 (.int .i64 0) (.int .i64 0)).run Yba.prog w = .ok (.slice (some ⟨w.heap.size, 0, none⟩) 0 0) (w.alloc (.cells #[] 23)) := fun _ => by kernel_rfl
  have HR : Hid (Lib.HoldsBytes w (.slice ra m cr) lr) := hR
  have HM : Hid (lr.length = m) := hm
  clear hR hm
  go_enter Yba.func3, Yba.ntmps3
  go_wp2
  refine wp_loop_rounds 1 ?_
  rw [rounds_succ]
  go_wp2
  refine wp_loop_rounds 1 ?_
  rw [rounds_succ]
  go_wp2_with fail
  refine (clone_any (.slice ra m cr) lr _ (by rw [HM.out]; omega) (hb_below HR.out ((Below.refl _ _).alloc (Nat.le_refl _) _))).mono ?_
  rintro e w1 ⟨v1, rfl, hv1, hb1, _⟩
  have hb1' : Below w.heap.size w w1 := ((Below.refl _ _).alloc (Nat.le_refl _) _).trans (hb1.mono (by simp))
  have hcs := hb_cases hv1
  obtain ⟨p1, c1, rfl, _⟩ : ∃ p c, v1 = .slice p lr.length c ∧ True := by obtain ⟨p, c, e, _⟩ := hv1; exact ⟨p, c, e, trivial⟩
  rw [HM.out] at hcs ⊢
  clear hb1 hv1
  go_wp2_with fail
  refine (join_none _ _ _ _).mono ?_
  rintro e w2 ⟨rfl, rfl⟩
  by_cases hm0 : m = 0
  · subst hm0
    clear hcs
    go_wp2
    go_quiet (fail)
    go_wp2
    go_ret
    exact ⟨rfl, below_drewN hb1' _⟩
  · rcases hcs with ⟨he, _⟩ | ⟨_, b, o, c, hv, _⟩
    · have := HM.out; rw [he] at this; simp at this; omega
    · simp only [Value.slice.injEq] at hv
      obtain ⟨rfl, -, rfl⟩ := hv
      have hpos : (0 : Int) < (m : Int) := by omega
      go_wp2
      go_quiet (fail)
      go_wp2
      go_ret
      exact ⟨rfl, below_drewN hb1' _⟩

/-- What the second loop has laid: the first k cells of g hold clones, none in g's own row. -/
def Laid (w : World) (G k : Nat) (vs : List Value) (ls : List (List UInt8)) : Prop :=
  ∀ (i : Nat) u l, i < k → vs[i]? = some u → ls[i]? = some l → Lib.HoldsBytes w u l ∧ offRow u G

/-- One store of the second loop. -/
theorem laid_step {w0 w w1 : World} {B G n k : Nat} {vs : List Value} {ls : List (List UInt8)} {v : Value} {l : List UInt8} (hk : k < n) (hl : ls[k]? = some l) (hBG : B ≤ G) (hG : G < w.heap.size)
    (hown : w.ownsRow B 23 1 (.slice (some ⟨G, 0, none⟩) n n) n vs) (hL : Laid w G k vs ls) (hb0 : Below B w0 w) (hb : Below w.heap.size w w1) (hv : Lib.HoldsBytes w1 v l) (ho : offRow v G) :
    (w1.setCell ⟨G, k, none⟩ v).ownsRow B 23 1 (.slice (some ⟨G, 0, none⟩) n n) n (vs.set k v) ∧ Laid (w1.setCell ⟨G, k, none⟩ v) G (k + 1) (vs.set k v) ls ∧ Below B w0 (w1.setCell ⟨G, k, none⟩ v) ∧ G < (w1.setCell ⟨G, k, none⟩ v).heap.size := by
  have hvl : vs.length = n := by have := hown.1; omega
  have hgb : w.grownBy w1 none := ⟨hb.os, hb.tape, hb.output, hb.size, fun k hk _ => hb.block k hk⟩
  have hown1 := hown.kept hgb (by right; simp [Value.ownBlock])
  have hB : B ≤ w.heap.size := by omega
  obtain ⟨h1, h2⟩ := hown1.stored k v
  refine ⟨h1, ?_, ?_, ?_⟩
  · intro i u l' hi hu hl'
    by_cases hik : i = k
    · subst hik
      rw [List.getElem?_set_self (by omega)] at hu
      rw [hl] at hl'
      cases hu; cases hl'
      exact ⟨hb_grown hv h2 ho, ho⟩
    · rw [List.getElem?_set_ne (by omega)] at hu
      obtain ⟨a, b⟩ := hL i u l' (by omega) hu hl'
      exact ⟨hb_grown (hb_below a hb) h2 b, b⟩
  · exact (hb0.trans (hb.mono hB)).setCell hBG v
  · have := hb.size
    simp
    omega

/-- A quiet callee met behind q + x draws. -/
theorem quiet_at {P : Program} {f : FuncId} {args : Array Value} {w : World} {q x : Nat} {v : Value}
    (h : Calls P f args (w.drewN (q + x)) fun e w' => e = .returned v ∧ ∃ m, w' = (w.drewN (q + x)).drewN m) : Calls P f args (w.drewN (q + x)) fun e w'' => e = .returned v ∧ ∃ n, w'' = w.drewN (q + n) :=
  h.mono fun _ _ ⟨he, m, hm⟩ => ⟨he, x + m, by rw [hm, World.drewN_drewN, Nat.add_assoc]⟩

theorem lens_le (ls : List (List UInt8)) (M : Nat) (h : ∀ l ∈ ls, l.length ≤ M) : Lib.lens ls ≤ M * ls.length := by
  induction ls with
  | nil => simp [Lib.lens]
  | cons x r ih =>
    have h1 := h x (by simp)
    have h2 := ih fun l hl => h l (by simp [hl])
    rw [Lib.lens_cons, List.length_cons, Nat.mul_succ]
    omega

set_option maxHeartbeats 2000000 in
theorem law3_many (pa ra : Option Addr) (n m cp cr : Nat) (ls : List (List UInt8)) (lr : List UInt8) (w : World) (hn : ls.length = n) (hm : lr.length = m) (h1 : 1 ≤ n) (hn1 : n ≤ 1024) (hm1 : m ≤ 4096)
    (hP : Parts w pa ls) (hLs : ∀ l ∈ ls, l.length ≤ 9223372036854775807) (hR : Lib.HoldsBytes w (.slice ra m cr) lr) :
    Calls Yba.prog 3 #[.slice pa n cp, .slice ra m cr] w fun e w' => e = .returned (.bool true) ∧ Below w.heap.size w w' := by
  obtain ⟨i0, hi, hz0, hz1, hz2⟩ := info_parts info23
  have f0 : ((n : Int) == 0) = false := beq_eq_false_iff_ne.2 (by omega)
  have g1 : ¬ (1024 : Int) < (n : Int) := by omega
  have g2 : ¬ (4096 : Int) < (m : Int) := by omega
  have HP : Hid (Parts w pa ls) := hP
  have HR : Hid (Lib.HoldsBytes w (.slice ra m cr) lr) := hR
  have HN : Hid (ls.length = n) := hn
  have HM : Hid (lr.length = m) := hm
  have HL : Hid (∀ l ∈ ls, l.length ≤ 9223372036854775807) := hLs
  clear hP hR hn hm hLs
  go_enter Yba.func3, Yba.ntmps3
  go_wp2
  go_loop [5] (fun i => ∃ k : Nat, k ≤ n ∧ i = .int .i64 k ∧ Hid (∀ l ∈ ls.take k, l.length ≤ 4096)) (fun i => n - (intOf i).toNat)
  case atStart => exact ⟨0, Nat.zero_le _, rfl, (show Hid _ from by intro l hl; simp at hl)⟩
  case round =>
    obtain ⟨k, hk, rfl, HK⟩ := hrel
    by_cases hlt : k < n
    · obtain ⟨l, hl⟩ : ∃ l, ls[k]? = some l := ⟨_, List.getElem?_eq_getElem (by rw [HN.out]; exact hlt)⟩
      obtain ⟨b, o, pv, hpa, hcell, hhb⟩ := HP.out k l hl
      subst hpa
      have hlt' : (k : Int) < (n : Int) := by omega
      have hll := HL.out l (List.mem_of_getElem? hl)
      have HLK : Hid (ls[k]? = some l) := hl
      obtain ⟨q, cq, rfl, _⟩ := hhb
      obtain ⟨L, hL⟩ : ∃ L, l.length = L := ⟨_, rfl⟩
      have HLL : Hid (l.length = L) := hL
      rw [hL] at hcell hll
      clear hL hl
      by_cases hbig : 4096 < L
      · have hb' : (4096 : Int) < (L : Int) := by omega
        go_wp2
        go_ret
        exact ⟨rfl, Below.refl _ _⟩
      · have hb' : ¬ (4096 : Int) < (L : Int) := by omega
        have HK2 : Hid (∀ l ∈ ls.take (k + 1), l.length ≤ 4096) := by
          show ∀ l ∈ ls.take (k + 1), l.length ≤ 4096
          intro x hx
          rw [List.take_add_one, HLK.out] at hx
          rcases List.mem_append.1 hx with h | h
          · exact HK.out x h
          · simp at h; subst h; rw [HLL.out]; omega
        go_wp2
        go_round
        case rel => exact ⟨k + 1, by omega, by go_num, HK2⟩
        case measure => simp [intOf]; omega
    · obtain rfl : n = k := by omega
      have HS : Hid (∀ l ∈ ls, l.length ≤ 4096) := by
        have := HK.out
        rwa [List.take_of_length_le (by rw [HN.out]; exact Nat.le_refl _)] at this
      clear HK HL
      go_wp2_with (at_make; refine wpList_make_full _ rfl (.tmp 32) (.tmp 32) 24 rfl w.heap.size 23 i0 (.slice none 0 0) 1 Yba.underlying24 hi hz0 hz1 .i64 .i64 _ _ n rfl rfl rfl rfl (by rw [hz2]; omega) (by unfold maxLen; omega) (Nat.le_refl _) ?_)
      intro w1 hown hgrow
      have hb1 : Below w.heap.size w w1 := (Below.refl _ _).grown hgrow (Nat.le_refl _) (by intro k hk; cases hk)
      have hG : w.heap.size < w1.heap.size := (hown.lt w.heap.size rfl).2
      clear hgrow
      obtain ⟨G, hGe⟩ : ∃ G, G = w.heap.size := ⟨_, rfl⟩
      have HG : Hid (G = w.heap.size) := hGe
      rw [← hGe] at hown hG hb1 ⊢
      clear hGe
      go_wp2
      go_loopw [7] (fun i wr => ∃ k : Nat, k ≤ n ∧ i = .int .i64 k ∧ ∃ vs, Hid (wr.ownsRow G 23 1 (.slice (some ⟨G, 0, none⟩) n n) n vs ∧ Laid wr G k vs ls ∧ Below G w wr ∧ G < wr.heap.size)) (fun i _ => n - (intOf i).toNat)
      case atStart => exact ⟨0, Nat.zero_le _, rfl, _, (show Hid _ from ⟨hown, (fun i u l hi => by omega), hb1, hG⟩)⟩
      case round =>
        obtain ⟨k, hk, rfl, vs, HI⟩ := hrel
        obtain ⟨hown2, hlaid2, hb2, hG2⟩ := HI.out
        by_cases hlt : k < n
        · obtain ⟨l, hl⟩ : ∃ l, ls[k]? = some l := ⟨_, List.getElem?_eq_getElem (by rw [HN.out]; exact hlt)⟩
          obtain ⟨b, o, pv, hpa, hcell, hhb⟩ := HP.out k l hl
          subst hpa
          have hlt' : (k : Int) < (n : Int) := by omega
          have hcw : wr.cell? ⟨b, o + k, none⟩ = some pv := by rw [hb2.cell (by have := cell_lt hcell; rw [HG.out]; exact this)]; exact hcell
          have HB : Hid (Lib.HoldsBytes wr pv l) := hb_kept hhb fun a u hu => by rw [hb2.cell (by have := cell_lt hu; rw [HG.out]; exact this)]; exact hu
          have hll := HS.out l (List.mem_of_getElem? hl)
          have HLK : Hid (ls[k]? = some l) := hl
          obtain ⟨q, cq, rfl, _⟩ := hhb
          clear hl hcell hown2 hlaid2 hb2
          go_wp2_with fail
          refine (clone_any _ l _ (by omega) HB.out).mono ?_
          rintro e w2 ⟨v2, rfl, hv2, hb3, ho2⟩
          obtain ⟨hown2, hlaid2, hb2, _⟩ := HI.out
          have hgb : wr.grownBy w2 none := ⟨hb3.os, hb3.tape, hb3.output, hb3.size, fun k hk _ => hb3.block k hk⟩
          have hown3 := hown2.kept hgb (by right; simp [Value.ownBlock])
          have hfz := hown3.frozenAt k
          have hvl : vs.length = n := by have := hown2.1; omega
          obtain ⟨old, hce⟩ : ∃ old, w2.cell? ⟨G, k, none⟩ = some old := ⟨vs[k]'(by omega), by rw [hown3.cellAt k (by omega), List.getElem?_eq_getElem (by omega)]⟩
          have R := laid_step hlt HLK.out (Nat.le_refl _) hG2 hown2 hlaid2 hb2 hb3 hv2 (ho2 G hG2)
          obtain ⟨p2, c2, rfl, _⟩ : ∃ p c, v2 = .slice p l.length c ∧ True := by obtain ⟨p, c, e, _⟩ := hv2; exact ⟨p, c, e, trivial⟩
          clear hown2 hown3 hlaid2 hb2 hgb hv2 hb3 hvl
          have HR2 : Hid ((w2.setCell ⟨G, k, none⟩ (.slice p2 l.length c2)).ownsRow G 23 1 (.slice (some ⟨G, 0, none⟩) n n) n (vs.set k (.slice p2 l.length c2)) ∧ Laid (w2.setCell ⟨G, k, none⟩ (.slice p2 l.length c2)) G (k + 1) (vs.set k (.slice p2 l.length c2)) ls ∧ Below G w (w2.setCell ⟨G, k, none⟩ (.slice p2 l.length c2)) ∧ G < (w2.setCell ⟨G, k, none⟩ (.slice p2 l.length c2)).heap.size) := R
          clear R
          go_wp2
          go_roundw
          case rel => exact ⟨k + 1, by omega, by go_num, _, HR2⟩
          case measure => simp [intOf]; omega
        · obtain rfl : n = k := by omega
          have HB : Hid (Lib.HoldsBytes wr (.slice ra m cr) lr) := hb_kept HR.out fun a u hu => by rw [hb2.cell (by have := cell_lt hu; rw [HG.out]; exact this)]; exact hu
          clear hown2 hlaid2 hb2
          go_wp2_with fail
          refine (clone_any _ lr _ (by rw [HM.out]; omega) HB.out).mono ?_
          rintro e w2 ⟨r, rfl, hr, hb3, hor⟩
          obtain ⟨hown2, hlaid2, hb2, _⟩ := HI.out
          have hgb : wr.grownBy w2 none := ⟨hb3.os, hb3.tape, hb3.output, hb3.size, fun k hk _ => hb3.block k hk⟩
          have hown3 := hown2.kept hgb (by right; simp [Value.ownBlock])
          have HO3 : Hid (w2.ownsRow G 23 1 (.slice (some ⟨G, 0, none⟩) n n) n vs) := hown3
          have HL3 : Hid (∀ (i : Nat) u l, vs[i]? = some u → ls[i]? = some l → Lib.HoldsBytes w2 u l) := by
            show ∀ (i : Nat) u l, vs[i]? = some u → ls[i]? = some l → Lib.HoldsBytes w2 u l
            intro i u l hu hl
            have hin : i < n := by have := (List.getElem?_eq_some_iff.1 hl).1; have := HN.out; omega
            exact hb_below (hlaid2 i u l hin hu hl).1 hb3
          have HB3 : Hid (Below G w w2) := hb2.trans (hb3.mono (by omega))
          have HRR : Hid (Lib.HoldsBytes w2 r lr) := hr
          have hsum : Lib.lens ls + lr.length ≤ 140737488355328 := by
            have := lens_le ls 4096 HS.out
            rw [HM.out]; rw [HN.out] at this; omega
          have HSUM : Hid (Lib.lens ls + lr.length ≤ 140737488355328) := hsum
          clear hown2 hown3 hlaid2 hb2 hgb hr hb3 hsum
          obtain ⟨p2, c2, rfl, _⟩ : ∃ p c, r = .slice p lr.length c ∧ True := by obtain ⟨p, c, e, _⟩ := HRR.out; exact ⟨p, c, e, trivial⟩
          rw [HM.out] at HRR ⊢
          go_wp2_with fail
          refine (join_full G G n vs ls _ lr w2 HO3.out HN.out h1 (by omega) HSUM.out HL3.out HRR.out).mono ?_
          rintro e w3 ⟨got, rfl, hgot, hb4⟩
          -- all that is still to be read, of the world behind join
          have HW3 : Hid (Below G w w3) := HB3.out.trans (hb4.mono (by have := HB3.out.size; rw [HG.out]; omega))
          have hgb4 : w2.grownBy w3 none := ⟨hb4.os, hb4.tape, hb4.output, hb4.size, fun k hk _ => hb4.block k hk⟩
          have HO4 : Hid (w3.ownsRow G 23 1 (.slice (some ⟨G, 0, none⟩) n n) n vs) := HO3.out.kept hgb4 (by right; simp [Value.ownBlock])
          have HL4 : Hid (∀ (i : Nat) u l, vs[i]? = some u → ls[i]? = some l → Lib.HoldsBytes w3 u l) := fun i u l hu hl => hb_below (HL3.out i u l hu hl) hb4
          have HRR4 : Hid (Lib.HoldsBytes w3 (.slice p2 m c2) lr) := hb_below HRR.out hb4
          have HGOT : Hid (Lib.HoldsBytes w3 got (ls.flatten ++ lr)) := hgot
          have HP4 : Hid (Parts w3 pa ls) := by
            show Parts w3 pa ls
            intro i l hl
            obtain ⟨b, o, v, h1, h2, h3⟩ := HP.out i l hl
            have keep : ∀ a u, w.cell? a = some u → w3.cell? a = some u := fun a u hu => by rw [HW3.out.cell (by have := cell_lt hu; rw [HG.out]; exact this)]; exact hu
            exact ⟨b, o, v, h1, keep _ _ h2, hb_kept h3 keep⟩
          have HR4 : Hid (Lib.HoldsBytes w3 (.slice ra m cr) lr) := hb_kept HR.out fun a u hu => by rw [HW3.out.cell (by have := cell_lt hu; rw [HG.out]; exact this)]; exact hu
          have hflat : (ls.flatten ++ lr).length ≤ 140737488355328 := by rw [List.length_append, flat_len]; exact HSUM.out
          have HFL : Hid ((ls.flatten ++ lr).length ≤ 140737488355328) := hflat
          clear hgot hb4 hgb4 HL3 HO3 HRR HB3 HI HB hflat
          go_wp2_with fail
          refine (cat_any pa ra n m cp cr ls lr w3 HN.out HM.out (by omega) (by have := HSUM.out; rw [HM.out] at this; exact this) HP4.out HR4.out).mono ?_
          rintro e w4 ⟨ct, rfl, hct, hb5⟩
          go_wp2_with fail
          refine (eq_any got ct (ls.flatten ++ lr) w4 HFL.out (hb_below HGOT.out hb5) hct).mono ?_
          rintro e w5 ⟨rfl, q, rfl⟩
          have HW4 : Hid (Below G w w4) := HW3.out.trans (hb5.mono (by have := HW3.out.size; rw [HG.out]; omega))
          have hgb5 : w3.grownBy w4 none := ⟨hb5.os, hb5.tape, hb5.output, hb5.size, fun k hk _ => hb5.block k hk⟩
          have HO5 : Hid (w4.ownsRow G 23 1 (.slice (some ⟨G, 0, none⟩) n n) n vs) := HO4.out.kept hgb5 (by right; simp [Value.ownBlock])
          have HL5 : Hid (∀ (i : Nat) u l, vs[i]? = some u → ls[i]? = some l → Lib.HoldsBytes w4 u l) := fun i u l hu hl => hb_below (HL4.out i u l hu hl) hb5
          have HRR5 : Hid (Lib.HoldsBytes w4 (.slice p2 m c2) lr) := hb_below HRR4.out hb5
          have HP5 : Hid (Parts w4 pa ls) := by
            show Parts w4 pa ls
            intro i l hl
            obtain ⟨b, o, v, h1, h2, h3⟩ := HP4.out i l hl
            exact ⟨b, o, v, h1, by rw [hb5.cell (cell_lt h2)]; exact h2, hb_below h3 hb5⟩
          have HR5 : Hid (Lib.HoldsBytes w4 (.slice ra m cr) lr) := hb_below HR4.out hb5
          clear hct hb5 hgb5 HL4 HO4 HRR4 HP4 HR4 HGOT HFL HW3
          go_wp2
          go_loopw [10] (fun i wr => ∃ k : Nat, k ≤ n ∧ i = .int .i64 k ∧ ∃ q, wr = w4.drewN q) (fun i _ => n - (intOf i).toNat)
          case atStart => exact ⟨0, Nat.zero_le _, rfl, q, rfl⟩
          case round =>
            obtain ⟨k, hk, rfl, q, rfl⟩ := hrel
            by_cases hlt : k < n
            · obtain ⟨l, hl⟩ : ∃ l, ls[k]? = some l := ⟨_, List.getElem?_eq_getElem (by rw [HN.out]; exact hlt)⟩
              obtain ⟨b, o, pv, hpa, hcell, hhb⟩ := HP5.out k l hl
              subst hpa
              have hvl : vs.length = n := by have := HO5.out.1; omega
              obtain ⟨u, hu⟩ : ∃ u, vs[k]? = some u := ⟨_, List.getElem?_eq_getElem (by omega)⟩
              have hcu : w4.cell? ⟨G, k, none⟩ = some u := by rw [HO5.out.cellAt k (by omega)]; exact hu
              have HU : Hid (Lib.HoldsBytes w4 u l) := HL5.out k u l hu hl
              have HV : Hid (Lib.HoldsBytes w4 pv l) := hhb
              have hll := HS.out l (List.mem_of_getElem? hl)
              obtain ⟨pq, cq, rfl, _⟩ := hhb
              obtain ⟨uq, uc, rfl, _⟩ : ∃ p c, u = .slice p l.length c ∧ True := by obtain ⟨p, c, e, _⟩ := HU.out; exact ⟨p, c, e, trivial⟩
              obtain ⟨L, hL⟩ : ∃ L, l.length = L := ⟨_, rfl⟩
              rw [hL] at hcell hcu HU HV
              have HLL : Hid (l.length ≤ 140737488355328) := by show l.length ≤ _; omega
              have hlt' : (k : Int) < (n : Int) := by omega
              clear hl hu hvl hL hll
              go_wp2
              go_quiet ((go_at_call 7; exact quiet_at (eq_any (.slice uq L uc) (.slice pq L cq) l _ HLL.out (by exact hb_kept HU.out fun a u hu => hu) (by exact hb_kept HV.out fun a u hu => hu))))
              go_wp2
              go_roundw
              case rel => exact ⟨k + 1, by omega, by go_num, _, rfl⟩
              case measure => simp [intOf]; omega
            · go_wp2_with fail
              refine (eq_any (.slice p2 m c2) (.slice ra m cr) lr _ (by rw [HM.out]; omega) (by exact hb_kept HRR5.out fun a u hu => hu) (by exact hb_kept HR5.out fun a u hu => hu)).mono ?_
              rintro e w6 ⟨rfl, q2, rfl⟩
              go_wp2
              go_ret
              exact ⟨rfl, by rw [← HG.out]; exact below_drewN HW4.out _⟩

end Go.Proofs.Ybulkbqpi
