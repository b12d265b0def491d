/-
  zzs3362bcat: the pieces end to end, then rest, in new memory.
-/
import Derived.Test.YbulkbqpiClone
namespace Go.Proofs.Ybulkbqpi
open Go.RowKit Go.Shelf

/-- A slice of slices of bytes: its cells hold slice values, each of which holds the bytes of one list. -/
def Parts (w : World) (p : Option Addr) (ls : List (List UInt8)) : Prop :=
  ∀ i l, ls[i]? = some l → ∃ b o v, p = some ⟨b, o, none⟩ ∧ w.cell? ⟨b, o + i, none⟩ = some v ∧ Lib.HoldsBytes w v l

/-- One append of a byte: the relation's step. -/
theorem own_step {w wr w1 : World} {B : Nat} {v v' : Value} {acc : List UInt8} {x : UInt8} {o : Obj} (hB : B ≤ wr.heap.size) (hb : Below B w wr) (hown : wr.ownsRow B 5 1 v acc.length (bcells acc))
    (hown' : w1.ownsRow B 5 1 v' (acc.length + 1) (bcells acc ++ [.int .u8 (x.toNat : Int)])) (hg : (wr.alloc o).grownBy w1 v.ownBlock) :
    w1.ownsRow B 5 1 v' (acc ++ [x]).length (bcells (acc ++ [x])) ∧ Below B w w1 := by
  refine ⟨by simpa [bcells] using hown', (hb.alloc hB o).grown hg (by simp; omega) fun k hk => (hown.lt k hk).1⟩

theorem take_snoc (l : List UInt8) (j : Nat) (h : j < l.length) : l.take (j + 1) = l.take j ++ [l.getD j 0] := by
  rw [List.take_succ_eq_append_getElem h]
  simp [List.getD, List.getElem?_eq_getElem h]

theorem flat_snoc (ls : List (List UInt8)) (k : Nat) (l : List UInt8) (h : ls[k]? = some l) : (ls.take (k + 1)).flatten = (ls.take k).flatten ++ l := by
  rw [List.take_add_one, h]
  simp

theorem flat_len (ls : List (List UInt8)) : ls.flatten.length = Lib.lens ls := by
  induction ls with
  | nil => rfl
  | cons x r ih => simp [Lib.lens]

set_option maxHeartbeats 1000000 in
theorem cat_any (pa ra : Option Addr) (n m cp cr : Nat) (ls : List (List UInt8)) (lr : List UInt8) (w : World) (hn : ls.length = n) (hm : lr.length = m)
    (hn1 : n ≤ 140737488355328) (hbig : Lib.lens ls + m ≤ 140737488355328)
    (hP : Parts w pa ls) (hR : Lib.HoldsBytes w (.slice ra m cr) lr) :
    Calls Yba.prog 8 #[.slice pa n cp, .slice ra m cr] w fun e w' => ∃ v', e = .returned v' ∧ Lib.HoldsBytes w' v' (ls.flatten ++ lr) ∧ Below w.heap.size w w' := by
  obtain ⟨i0, hi, hz0, hz1, hz2⟩ := info_parts info5
  have HP : Hid (Parts w pa ls) := hP
  have HR : Hid (Lib.HoldsBytes w (.slice ra m cr) lr) := hR
  have HN : Hid (ls.length = n) := hn
  have HM : Hid (lr.length = m) := hm
  clear hP hR hn hm
  go_enter Yba.func8, Yba.ntmps8
  go_wp2
  go_loopw [5, 6] (fun v i wr => ∃ k : Nat, ∃ acc : List UInt8, k ≤ n ∧ i = .int .i64 k ∧ Hid (acc = (ls.take k).flatten) ∧ wr.ownsRow w.heap.size 5 1 v acc.length (bcells acc) ∧ Below w.heap.size w wr) (fun _ i _ => n - (intOf i).toNat)
  case atStart => exact ⟨0, [], Nat.zero_le _, rfl, (show Hid _ from rfl), World.ownsRow_made w #[] 0 (Nat.le_refl _) (Nat.zero_le _) rfl, (Below.refl _ _).alloc (Nat.le_refl _) _⟩
  case round =>
    obtain ⟨k, acc, hk, rfl, HA, hown, hb⟩ := hrel
    by_cases hlt : k < n
    · obtain ⟨l, hl⟩ : ∃ l, ls[k]? = some l := ⟨_, List.getElem?_eq_getElem (by rw [HN.out]; exact hlt)⟩
      obtain ⟨b, o, pv, hpa, hcell, hhb⟩ := HP.out k l hl
      subst hpa
      have hcw : wr.cell? ⟨b, o + k, none⟩ = some pv := by rw [hb.cell (cell_lt hcell)]; exact hcell
      have hlt' : (k : Int) < (n : Int) := by omega
      have HB : Hid (Lib.HoldsBytes w pv l) := hhb
      have hLk : (ls.take k).flatten.length + l.length ≤ Lib.lens ls := by
        have h1 := Lib.lens_take_succ ls k l hl
        have h2 := Lib.lens_take_le ls (k + 1)
        rw [flat_len]; omega
      rw [← HA.out] at hLk
      have HL : Hid (ls[k]? = some l) := hl
      obtain ⟨q, cq, rfl, _, _⟩ := hhb
      obtain ⟨L, hL⟩ : ∃ L, l.length = L := ⟨_, rfl⟩
      have HLL : Hid (l.length = L) := hL
      rw [hL] at HB hcw hLk
      clear hL hl hcell
      go_wp2
      obtain ⟨wo, rfl⟩ : ∃ wo : World, wo = wr := ⟨_, rfl⟩
      go_loopw [5, 8] (fun v i wr => ∃ j : Nat, ∃ acc2 : List UInt8, j ≤ L ∧ i = .int .i64 j ∧ Hid (acc2 = acc ++ l.take j) ∧ wr.ownsRow w.heap.size 5 1 v acc2.length (bcells acc2) ∧ Below w.heap.size w wr) (fun _ i _ => L - (intOf i).toNat)
      case atStart => exact ⟨0, acc, Nat.zero_le _, rfl, (show Hid _ from by show acc = _; simp), hown, hb⟩
      case round =>
        obtain ⟨j, acc2, hj, rfl, HA2, hown2, hb2⟩ := hrel
        by_cases hjl : j < L
        · rcases hb_cases HB.out with ⟨he, _⟩ | ⟨_, b2, o2, c2, hv, hcs⟩
          · have := HLL.out; rw [he] at this; simp at this; omega
          · simp only [Value.slice.injEq] at hv
            obtain ⟨rfl, -, rfl⟩ := hv
            have hcj := hcs j (by rw [HLL.out]; exact hjl)
            obtain ⟨x, hx⟩ : ∃ x, l.getD j 0 = x := ⟨_, rfl⟩
            have HX : Hid (l.getD j 0 = x) := hx
            rw [hx] at hcj
            clear hx hcs
            have hcj2 : wr.cell? ⟨b2, o2 + j, none⟩ = some (.int .u8 (x.toNat : Int)) := by rw [hb2.cell (cell_lt hcj)]; exact hcj
            have hjl' : (j : Int) < (L : Int) := by omega
            have hlen2 : acc2.length = acc.length + j := by
              rw [HA2.out]; simp [HLL.out]; omega
            have hlen3 : acc2.length + 1 ≤ 140737488355328 := by omega
            clear hlen2
            go_wp2_with (at_builtin; refine wpList_append_own _ rfl (.tmp 27) (.tmp 32) 23 rfl w.heap.size 5 i0 (.int .u8 0) 1 1 Yba.underlying23 hi hz0 hz1 hz2 rfl (by decide) _ acc2.length _ rfl (hown2.alloc _) ⟨wr.heap.size, 0, none⟩ 1 1 [.int .u8 (x.toNat : Int)] rfl rfl (cell_one_new _ _ _) ?d1 (by unfold maxLen; omega) (by omega) ?d2 ?_)
            case d1 => intro u hu; simp at hu; subst hu; rfl
            case d2 => have := hb2.size; simp; omega
            intro v' w1 hown' hgrow _
            have R := own_step (x := x) hb2.size hb2 hown2 hown' hgrow
            have HS : Hid (acc2 ++ [x] = acc ++ l.take (j + 1)) := by show acc2 ++ [x] = _; rw [take_snoc l j (by rw [HLL.out]; exact hjl), HX.out, HA2.out, List.append_assoc]
            clear hown' hgrow hown2 hcj2 hcj hb2
            go_wp2
            go_roundw
            case rel =>
              first
                | exact ⟨j + 1, acc2 ++ [x], by omega, by go_num, HS, R.1, R.2⟩
                | ((repeat apply Exists.intro); exact ⟨⟨j + 1, acc2 ++ [x], by omega, by go_num, HS, R.1, R.2⟩, rfl⟩)
            case measure => simp [intOf]; omega
        · obtain rfl : j = L := by omega
          go_wp2
          go_roundw
          case rel => exact ⟨k + 1, acc2, by omega, by go_num, (show Hid _ from by show acc2 = _; rw [flat_snoc ls k l HL.out, ← HA.out, HA2.out, List.take_of_length_le (by rw [HLL.out]; exact Nat.le_refl _)]), hown2, hb2⟩
          case measure => simp [intOf]; omega
    · obtain rfl : k = n := by omega
      have hfl : acc = ls.flatten := by rw [HA.out, List.take_of_length_le (by rw [HN.out]; exact Nat.le_refl _)]
      have hal : acc.length = Lib.lens ls := by rw [hfl, flat_len]
      have HF : Hid (acc = ls.flatten) := hfl
      rw [← hal] at hbig
      clear hfl hal
      go_wp2
      obtain ⟨wo, rfl⟩ : ∃ wo : World, wo = wr := ⟨_, rfl⟩
      go_loopw [5, 9] (fun v i wr => ∃ j : Nat, ∃ acc2 : List UInt8, j ≤ m ∧ i = .int .i64 j ∧ Hid (acc2 = acc ++ lr.take j) ∧ wr.ownsRow w.heap.size 5 1 v acc2.length (bcells acc2) ∧ Below w.heap.size w wr) (fun _ i _ => m - (intOf i).toNat)
      case atStart => exact ⟨0, acc, Nat.zero_le _, rfl, (show Hid _ from by show acc = _; simp), hown, hb⟩
      case round =>
        obtain ⟨j, acc2, hj, rfl, HA2, hown2, hb2⟩ := hrel
        by_cases hjl : j < m
        · rcases hb_cases HR.out with ⟨he, _⟩ | ⟨_, b2, o2, c2, hv, hcs⟩
          · have := HM.out; rw [he] at this; simp at this; omega
          · simp only [Value.slice.injEq] at hv
            obtain ⟨rfl, -, rfl⟩ := hv
            have hcj := hcs j (by rw [HM.out]; exact hjl)
            obtain ⟨x, hx⟩ : ∃ x, lr.getD j 0 = x := ⟨_, rfl⟩
            have HX : Hid (lr.getD j 0 = x) := hx
            rw [hx] at hcj
            clear hx hcs
            have hcj2 : wr.cell? ⟨b2, o2 + j, none⟩ = some (.int .u8 (x.toNat : Int)) := by rw [hb2.cell (cell_lt hcj)]; exact hcj
            have hjl' : (j : Int) < (m : Int) := by omega
            have hlen2 : acc2.length = acc.length + j := by
              rw [HA2.out]; simp [HM.out]; omega
            have hlen3 : acc2.length + 1 ≤ 140737488355328 := by omega
            clear hlen2
            go_wp2_with (at_builtin; refine wpList_append_own _ rfl (.tmp 40) (.tmp 45) 23 rfl w.heap.size 5 i0 (.int .u8 0) 1 1 Yba.underlying23 hi hz0 hz1 hz2 rfl (by decide) _ acc2.length _ rfl (hown2.alloc _) ⟨wr.heap.size, 0, none⟩ 1 1 [.int .u8 (x.toNat : Int)] rfl rfl (cell_one_new _ _ _) ?e1 (by unfold maxLen; omega) (by omega) ?e2 ?_)
            case e1 => intro u hu; simp at hu; subst hu; rfl
            case e2 => have := hb2.size; simp; omega
            intro v' w1 hown' hgrow _
            have R := own_step (x := x) hb2.size hb2 hown2 hown' hgrow
            have HS : Hid (acc2 ++ [x] = acc ++ lr.take (j + 1)) := by show acc2 ++ [x] = _; rw [take_snoc lr j (by rw [HM.out]; exact hjl), HX.out, HA2.out, List.append_assoc]
            clear hown' hgrow hown2 hcj2 hcj hb2
            go_wp2
            go_roundw
            case rel =>
              first
                | exact ⟨j + 1, acc2 ++ [x], by omega, by go_num, HS, R.1, R.2⟩
                | ((repeat apply Exists.intro); exact ⟨⟨j + 1, acc2 ++ [x], by omega, by go_num, HS, R.1, R.2⟩, rfl⟩)
            case measure => simp [intOf]; omega
        · obtain rfl : j = m := by omega
          have hres : acc2 = ls.flatten ++ lr := by rw [HA2.out, HF.out, List.take_of_length_le (by rw [HM.out]; exact Nat.le_refl _)]
          have HRES : Hid (acc2 = ls.flatten ++ lr) := hres
          clear hres
          go_wp2
          go_ret
          exact ⟨_, rfl, HRES.out ▸ hb_of_own hown2, hb2⟩

end Go.Proofs.Ybulkbqpi
