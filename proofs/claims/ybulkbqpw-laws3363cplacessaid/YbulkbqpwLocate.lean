/-
  locate: what it does to vals.
-/
import Derived.Test.YbulkbqpwBase
namespace Go.Proofs.Ybulkbqpw
open Go.RowKit

theorem info9 : (Yba.prog.info? 9).map (fun i => (i.zero, i.size, i.bytes)) = some (some (.string ⟨#[]⟩), 1, 16) := by kernel_rfl

/-- The slots as locate reads them: regs with their places, offsets. -/
def SsAt (w : World) (V A B : Nat) (sc : List Value) (D : List (List (Bool × Nat) × Int)) : Prop :=
  ∀ i rs off, D[i]? = some (rs, off) → ∃ q c, sc[i * 2]? = some (.slice q rs.length c) ∧ sc[i * 2 + 1]? = some (.int .i64 off) ∧
    (0 < rs.length → ∃ g, q = some ⟨g, 0, none⟩ ∧ g ≠ V ∧ ∀ j f x, rs[j]? = some (f, x) → w.cell? ⟨g, j * 2, none⟩ = some (.bool f) ∧ w.cell? ⟨g, j * 2 + 1, none⟩ = some (.int .i64 (x : Nat)) ∧ x < (if f then B else A))

/-- A register's name. -/
def nm (nI nF : Nat → ByteArray) (f : Bool) (x : Nat) : ByteArray := if f then nF x else nI x

/-- vals behind k rounds: the first k have their place, the others are as they were. -/
structure Placed (w w' : World) (V k m : Nat) (cs0 cs : List Value) (D : List (List (Bool × Nat) × Int)) (nI nF : Nat → ByteArray) : Prop where
  len : cs.length = 5 * m
  name : ∀ i, cs[i * 5]? = cs0[i * 5]?
  size : ∀ i, cs[i * 5 + 3]? = cs0[i * 5 + 3]?
  mem : ∀ i, cs[i * 5 + 4]? = cs0[i * 5 + 4]?
  past : ∀ i, k ≤ i → cs[i * 5 + 1]? = cs0[i * 5 + 1]? ∧ cs[i * 5 + 2]? = cs0[i * 5 + 2]?
  bare : ∀ i off, i < k → D[i]? = some ([], off) → cs[i * 5 + 1]? = cs0[i * 5 + 1]? ∧ cs[i * 5 + 2]? = some (.int .i64 off)
  regs : ∀ i rs off, i < k → D[i]? = some (rs, off) → 0 < rs.length → cs[i * 5 + 2]? = cs0[i * 5 + 2]? ∧ ∃ g, w.heap.size ≤ g ∧ cs[i * 5 + 1]? = some (.slice (some ⟨g, 0, none⟩) rs.length rs.length) ∧ ∀ j f x, rs[j]? = some (f, x) → w'.cell? ⟨g, j, none⟩ = some (.string (nm nI nF f x))

/-- One name laid. -/
theorem inner_step {wo wr : World} {V G L j x : Nat} {f : Bool} {s : ByteArray} {cv gc : List Value} {rs : List (Bool × Nat)} {nI nF : Nat → ByteArray} {o : Obj} (hs : s = nm nI nF f x) (hj : j < L) (hGV : G ≠ V) (hGo : wo.heap.size ≤ G) (hfx : rs[j]? = some (f, x))
    (h : Blk wr V 38 cv ∧ Blk wr G 9 gc ∧ gc.length = L ∧ wo.grownBy wr (some V) ∧ ∀ t f x, t < j → rs[t]? = some (f, x) → gc[t]? = some (.string (nm nI nF f x))) :
    Hid (Blk (((wr.setCell ⟨G, j, none⟩ (.string s)).alloc o).drew) V 38 cv ∧ Blk (((wr.setCell ⟨G, j, none⟩ (.string s)).alloc o).drew) G 9 (gc.set j (.string s)) ∧ (gc.set j (.string s)).length = L ∧
      wo.grownBy (((wr.setCell ⟨G, j, none⟩ (.string s)).alloc o).drew) (some V) ∧ ∀ t f' x', t < j + 1 → rs[t]? = some (f', x') → (gc.set j (.string s))[t]? = some (.string (nm nI nF f' x'))) := by
  subst hs
  obtain ⟨h1, h2, h3, h4, h5⟩ := h
  refine ⟨((h1.other (by simpa using hGV) _).alloc o).drew, ((h2.set j _).alloc o).drew, by simpa using h3, grow_drew (grow_alloc (grow_set h4 (Or.inr hGo) _) o), ?_⟩
  intro t f' x' ht hr
  by_cases e : t = j
  · subst e
    rw [hfx] at hr
    cases hr
    rw [List.getElem?_set_self (by omega)]
  · rw [List.getElem?_set_ne (by omega)]
    exact h5 t f' x' (by omega) hr

/-- A value with an empty slot has its offset. -/
theorem placed_bare {w wr : World} {V k m : Nat} {cs0 cs : List Value} {D : List (List (Bool × Nat) × Int)} {nI nF : Nat → ByteArray} {off : Int} {o : Obj} (hVw : V < w.heap.size) (hkm : k < m) (hd : D[k]? = some ([], off))
    (h : Blk wr V 38 cs ∧ Placed w wr V k m cs0 cs D nI nF ∧ w.grownBy wr (some V)) :
    Hid (Blk ((wr.setCell ⟨V, k * 5 + 2, none⟩ (.int .i64 off)).alloc o) V 38 (cs.set (k * 5 + 2) (.int .i64 off)) ∧ Placed w ((wr.setCell ⟨V, k * 5 + 2, none⟩ (.int .i64 off)).alloc o) V (k + 1) m cs0 (cs.set (k * 5 + 2) (.int .i64 off)) D nI nF ∧ w.grownBy ((wr.setCell ⟨V, k * 5 + 2, none⟩ (.int .i64 off)).alloc o) (some V)) := by
  obtain ⟨h1, h2, h3⟩ := h
  have hlen := h2.len
  have ne : ∀ j, j ≠ k * 5 + 2 → (cs.set (k * 5 + 2) (.int .i64 off))[j]? = cs[j]? := fun j hj => List.getElem?_set_ne (by omega)
  refine ⟨(h1.set _ _).alloc o, ⟨by simpa using hlen, ?_, ?_, ?_, ?_, ?_, ?_⟩, grow_alloc (grow_set h3 (Or.inl rfl) _) o⟩
  · intro i; rw [ne _ (by omega)]; exact h2.name i
  · intro i; rw [ne _ (by omega)]; exact h2.size i
  · intro i; rw [ne _ (by omega)]; exact h2.mem i
  · intro i hi; rw [ne _ (by omega), ne _ (by omega)]; exact h2.past i (by omega)
  · intro i off' hi hd'
    by_cases e : i = k
    · subst e
      rw [hd] at hd'
      cases hd'
      rw [ne _ (by omega), List.getElem?_set_self (by omega)]
      exact ⟨(h2.past i (Nat.le_refl _)).1, rfl⟩
    · rw [ne _ (by omega), ne _ (by omega)]
      exact h2.bare i off' (by omega) hd'
  · intro i rs off' hi hd' hp
    by_cases e : i = k
    · subst e
      rw [hd] at hd'
      cases hd'
      simp at hp
    · rw [ne _ (by omega), ne _ (by omega)]
      obtain ⟨q1, g, q2, q3, q4⟩ := h2.regs i rs off' (by omega) hd' hp
      refine ⟨q1, g, q2, q3, fun j f x hj => ?_⟩
      have hgV : g ≠ V := by omega
      exact grow_cell (grow_alloc (grow_set (grow_refl wr (some V)) (Or.inl rfl) _) o) (q4 j f x hj) (by simpa using hgV)

/-- A value with registers has them. -/
theorem placed_regs {w wo wr : World} {V G L k m : Nat} {cs0 cs gc : List Value} {D : List (List (Bool × Nat) × Int)} {rs : List (Bool × Nat)} {nI nF : Nat → ByteArray} {off : Int} (hVw : V < w.heap.size) (hkm : k < m)
    (h2 : Placed w wo V k m cs0 cs D nI nF) (hg : w.grownBy wo (some V)) (hd : D[k]? = some (rs, off)) (hL : rs.length = L) (h0 : 0 < L) (hGo : wo.heap.size ≤ G)
    (h : Blk wr V 38 (cs.set (k * 5 + 1) (.slice (some ⟨G, 0, none⟩) L L)) ∧ Blk wr G 9 gc ∧ gc.length = L ∧ wo.grownBy wr (some V) ∧ ∀ t f x, t < L → rs[t]? = some (f, x) → gc[t]? = some (.string (nm nI nF f x))) :
    Hid (Blk wr V 38 (cs.set (k * 5 + 1) (.slice (some ⟨G, 0, none⟩) L L)) ∧ Placed w wr V (k + 1) m cs0 (cs.set (k * 5 + 1) (.slice (some ⟨G, 0, none⟩) L L)) D nI nF ∧ w.grownBy wr (some V)) := by
  obtain ⟨h1, h3, h4, h5, h6⟩ := h
  have hlen := h2.len
  have ne : ∀ j, j ≠ k * 5 + 1 → (cs.set (k * 5 + 1) (.slice (some ⟨G, 0, none⟩) L L))[j]? = cs[j]? := fun j hj => List.getElem?_set_ne (by omega)
  refine ⟨h1, ⟨by simpa using hlen, ?_, ?_, ?_, ?_, ?_, ?_⟩, grow_trans hg h5⟩
  · intro i; rw [ne _ (by omega)]; exact h2.name i
  · intro i; rw [ne _ (by omega)]; exact h2.size i
  · intro i; rw [ne _ (by omega)]; exact h2.mem i
  · intro i hi; rw [ne _ (by omega), ne _ (by omega)]; exact h2.past i (by omega)
  · intro i off' hi hd'
    by_cases e : i = k
    · subst e
      rw [hd] at hd'
      cases hd'
      simp at hL
      omega
    · rw [ne _ (by omega), ne _ (by omega)]
      exact h2.bare i off' (by omega) hd'
  · intro i rs' off' hi hd' hp
    by_cases e : i = k
    · subst e
      rw [hd] at hd'
      cases hd'
      rw [ne _ (by omega), List.getElem?_set_self (by omega), hL]
      have hs := hg.size
      refine ⟨(h2.past i (Nat.le_refl _)).2, G, by omega, rfl, fun j f x hj => ?_⟩
      have hjl : j < L := by have := (List.getElem?_eq_some_iff.1 hj).1; omega
      exact h3.cell (h6 j f x hjl hj)
    · rw [ne _ (by omega), ne _ (by omega)]
      obtain ⟨q1, g, q2, q3, q4⟩ := h2.regs i rs' off' (by omega) hd' hp
      refine ⟨q1, g, q2, q3, fun j f x hj => ?_⟩
      have hgV : g ≠ V := by omega
      exact grow_cell h5 (q4 j f x hj) (by simpa using hgV)

set_option maxHeartbeats 1000000 in
theorem locate_any (V m S n I A F B : Nat) (cs0 sc : List Value) (D : List (List (Bool × Nat) × Int)) (nI nF : Nat → ByteArray) (w : World) (hnm : n ≤ m) (hm : m ≤ 2000) (hD : D.length = n) (hVS : V ≠ S) (hVI : V ≠ I) (hVF : V ≠ F)
    (hA : A ≤ 8) (hB : B ≤ 8) (hLen : ∀ p ∈ D, p.1.length ≤ 8192)
    (hV : Blk w V 38 cs0) (hc0 : cs0.length = 5 * m) (hS : Blk w S 35 sc) (hSs : SsAt w V A B sc D) (hI : ∀ x, x < 8 → w.cell? ⟨I, x, none⟩ = some (.string (nI x))) (hF : ∀ x, x < 8 → w.cell? ⟨F, x, none⟩ = some (.string (nF x))) :
    Calls Yba.prog 6 #[.slice (some ⟨V, 0, none⟩) m m, .slice (some ⟨S, 0, none⟩) n n, .slice (some ⟨I, 0, none⟩) A 8, .slice (some ⟨F, 0, none⟩) B 8] w fun e w' =>
      e = .returned (.tuple #[]) ∧ ∃ cs, Blk w' V 38 cs ∧ Placed w w' V n m cs0 cs D nI nF ∧ w.grownBy w' (some V) := by
  obtain ⟨i9, hi9, hz90, hz91, hz92⟩ := info_parts info9
  have HV : Hid (Blk w V 38 cs0) := hV
  have HS : Hid (Blk w S 35 sc) := hS
  have HSs : Hid (SsAt w V A B sc D) := hSs
  have HI : Hid (∀ x, x < 8 → w.cell? ⟨I, x, none⟩ = some (.string (nI x))) := hI
  have HF : Hid (∀ x, x < 8 → w.cell? ⟨F, x, none⟩ = some (.string (nF x))) := hF
  have HD : Hid (D.length = n) := hD
  have HC0 : Hid (cs0.length = 5 * m) := hc0
  have HL : Hid (∀ p ∈ D, p.1.length ≤ 8192) := hLen
  clear hV hS hSs hI hF hD hc0 hLen
  go_enter Yba.func6, Yba.ntmps6
  go_wp2
  go_loopw [14] (fun i wr => ∃ k : Nat, k ≤ n ∧ i = .int .i64 k ∧ ∃ cs, Hid (Blk wr V 38 cs ∧ Placed w wr V k m cs0 cs D nI nF ∧ w.grownBy wr (some V))) (fun i _ => n - (intOf i).toNat)
  case atStart => exact ⟨0, Nat.zero_le _, rfl, cs0, (show Hid _ from ⟨HV.out, ⟨HC0.out, fun _ => rfl, fun _ => rfl, fun _ => rfl, fun _ _ => ⟨rfl, rfl⟩, (fun _ _ h => absurd h (Nat.not_lt_zero _)), (fun _ _ _ h => absurd h (Nat.not_lt_zero _))⟩, grow_refl _ _⟩)⟩
  case round =>
    obtain ⟨k, hk, rfl, cs, HX⟩ := hrel
    obtain ⟨hBV, hPl, hgr⟩ := HX.out
    by_cases hlt : k < n
    · obtain ⟨rs, off, hd⟩ : ∃ rs off, D[k]? = some (rs, off) := ⟨_, _, List.getElem?_eq_getElem (by rw [HD.out]; exact hlt)⟩
      obtain ⟨q, c, hs0, hs1, hreg⟩ := HSs.out k rs off hd
      have hlt' : (k : Int) < (n : Int) := by omega
      have hkm' : (k : Int) < (m : Int) := by omega
      have hSr : Blk wr S 35 sc := HS.out.kept hgr (by simpa using fun e => hVS e.symm)
      have e0 : wr.cell? ⟨S, k * 2, none⟩ = some (.slice q rs.length c) := hSr.cell hs0
      have e1 : wr.cell? ⟨S, k * 2 + 1, none⟩ = some (.int .i64 off) := hSr.cell hs1
      have hVlt := hBV.lt
      obtain ⟨old1, ho1⟩ : ∃ v, wr.cell? ⟨V, k * 5 + 1, none⟩ = some v := ⟨_, hBV.cell (List.getElem?_eq_getElem (by rw [hPl.len]; omega))⟩
      obtain ⟨old2, ho2⟩ : ∃ v, wr.cell? ⟨V, k * 5 + 2, none⟩ = some v := ⟨_, hBV.cell (List.getElem?_eq_getElem (by rw [hPl.len]; omega))⟩
      have hf1 := hBV.free (k * 5 + 1)
      have hf2 := hBV.free (k * 5 + 2)
      have HREG : Hid (0 < rs.length → ∃ g, q = some ⟨g, 0, none⟩ ∧ g ≠ V ∧ ∀ j f x, rs[j]? = some (f, x) → w.cell? ⟨g, j * 2, none⟩ = some (.bool f) ∧ w.cell? ⟨g, j * 2 + 1, none⟩ = some (.int .i64 (x : Nat)) ∧ x < (if f then B else A)) := hreg
      have HDK : Hid (D[k]? = some (rs, off)) := hd
      have hll : rs.length ≤ 8192 := HL.out _ (List.mem_of_getElem? hd)
      clear hBV hPl hgr hSr hs0 hs1 hreg hd
      by_cases hz : rs.length = 0
      · have hrs : rs = [] := List.eq_nil_of_length_eq_zero hz
        subst hrs
        clear HREG hz hll
        simp only [List.length_nil] at e0
        go_wp2
        go_roundw
        case rel => exact ⟨k + 1, by omega, by go_num, _, placed_bare HV.out.lt (by omega) HDK.out HX.out⟩
        case measure => simp [intOf]; omega
      · have fz : ((rs.length : Int) == 0) = false := beq_eq_false_iff_ne.2 (by omega)
        obtain ⟨L, hL⟩ : ∃ L, rs.length = L := ⟨_, rfl⟩
        have HLL : Hid (rs.length = L) := hL
        rw [hL] at fz e0 hll hz
        obtain ⟨g0, rfl, hg0V, hregs⟩ := HREG.out (by omega)
        have HREGS : Hid (∀ j f x, rs[j]? = some (f, x) → w.cell? ⟨g0, j * 2, none⟩ = some (.bool f) ∧ w.cell? ⟨g0, j * 2 + 1, none⟩ = some (.int .i64 (x : Nat)) ∧ x < (if f then B else A)) := hregs
        clear hL HREG hregs
        obtain ⟨bx, hbx⟩ : ∃ bx : Obj, bx = .cells #[.slice (some ⟨g0, 0, none⟩) L c, .int .i64 off] 35 := ⟨_, rfl⟩
        go_wp2_with (at_make; refine wpList_make_full _ rfl (.tmp 33) (.tmp 33) 26 rfl (wr.heap.size + 1) 9 i9 (.string ⟨#[]⟩) 1 Yba.underlying26 hi9 hz90 hz91 .i64 .i64 _ _ L rfl rfl rfl rfl (by rw [hz92]; omega) (by unfold maxLen; omega) (by simp) ?_)
        intro w1 hown hgrow
        obtain ⟨hBV, hPl, hgr⟩ := HX.out
        obtain ⟨G, hG⟩ : ∃ G, G = wr.heap.size + 1 := ⟨_, rfl⟩
        have HG : Hid (G = wr.heap.size + 1) := hG
        rw [← hG] at hown ⊢
        have hgr1 : wr.grownBy w1 (some V) := grow_trans (grow_alloc (grow_refl _ _) _) (grow_row hgrow)
        have hBV1 : Blk w1 V 38 cs := (hBV.alloc _).kept hgrow (by simp)
        have hBG1 := blk_of_own hown
        obtain ⟨gc0, hgl, hBG1⟩ := hBG1
        have hbx1 : w1.cell? ⟨wr.heap.size, 0, none⟩ = some (.slice (some ⟨g0, 0, none⟩) L c) := grow_cell hgrow (by simp) (by simp)
        have H1 : Hid (Blk w1 V 38 cs ∧ Blk w1 G 9 gc0 ∧ gc0.length = L ∧ wr.grownBy w1 (some V)) := ⟨hBV1, hBG1, by omega, hgr1⟩
        have ho11 : w1.cell? ⟨V, k * 5 + 1, none⟩ = some old1 := by
          have : cs[k * 5 + 1]? = some old1 := by
            have := List.getElem?_eq_getElem (l := cs) (i := k * 5 + 1) (by rw [hPl.len]; omega)
            rw [this]
            have h2 := hBV.cell this
            rw [h2] at ho1
            exact ho1
          exact hBV1.cell this
        have hf11 := hBV1.free (k * 5 + 1)
        have hV1lt := hBV1.lt
        have hGV : G ≠ V := by omega
        have hgw : wr.heap.size < w1.heap.size := by have := hgrow.size; simp at this; omega
        clear hown hgrow hBV hPl hgr hG hgr1 hBV1 hBG1 hgl ho1 ho2 hf1 hf2 e0 e1
        go_wp2
        have HRD : Hid (Blk wr V 38 cs ∧ Placed w wr V k m cs0 cs D nI nF ∧ w.grownBy wr (some V)) := HX
        obtain ⟨wo, hwo⟩ : ∃ wo : World, wo = wr := ⟨_, rfl⟩
        subst hwo
        go_loopw [40] (fun i wi => ∃ j : Nat, j ≤ L ∧ i = .int .i64 j ∧ ∃ gc, Hid (Blk wi V 38 (cs.set (k * 5 + 1) (.slice (some ⟨G, 0, none⟩) L L)) ∧ Blk wi G 9 gc ∧ gc.length = L ∧ wo.grownBy wi (some V) ∧ ∀ t f x, t < j → rs[t]? = some (f, x) → gc[t]? = some (.string (nm nI nF f x)))) (fun i _ => L - (intOf i).toNat)
        case atStart =>
          refine ⟨0, Nat.zero_le _, rfl, gc0, (show Hid _ from ?_)⟩
          obtain ⟨a1, a2, a3, a4⟩ := H1.out
          exact ⟨a1.set _ _, a2.other (by simpa using fun e => hGV e.symm) _, a3, grow_set a4 (Or.inl rfl) _, fun t f x h => absurd h (Nat.not_lt_zero _)⟩
        case round =>
          obtain ⟨j, hj, rfl, gc, HI2⟩ := hrel
          obtain ⟨b1, b2, b3, b4, b5⟩ := HI2.out
          by_cases hjl : j < L
          · obtain ⟨f, x, hfx⟩ : ∃ f x, rs[j]? = some (f, x) := ⟨_, _, List.getElem?_eq_getElem (by rw [HLL.out]; exact hjl)⟩
            obtain ⟨r0, r1, r2⟩ := HREGS.out j f x hfx
            have hgw2 : w.grownBy wr (some V) := grow_trans HRD.out.2.2 b4
            have c0 : wr.cell? ⟨g0, j * 2, none⟩ = some (.bool f) := grow_cell hgw2 r0 (by simpa using hg0V)
            have c1 : wr.cell? ⟨g0, j * 2 + 1, none⟩ = some (.int .i64 (x : Nat)) := grow_cell hgw2 r1 (by simpa using hg0V)
            have cV : wr.cell? ⟨V, k * 5 + 1, none⟩ = some (.slice (some ⟨G, 0, none⟩) L L) := b1.cell (List.getElem?_set_self (by rw [HRD.out.2.1.len]; omega))
            obtain ⟨oldG, cG⟩ : ∃ v, wr.cell? ⟨G, j, none⟩ = some v := ⟨_, b2.cell (List.getElem?_eq_getElem (by omega))⟩
            have fG := b2.free j
            have ltV := b1.lt
            have ltG := b2.lt
            have hjl' : (j : Int) < (L : Int) := by omega
            have HFX : Hid (rs[j]? = some (f, x)) := hfx
            clear b1 b2 b3 b4 b5 r0 r1 hfx
            cases f
            · simp only [Bool.false_eq_true, if_false] at r2
              have cN : wr.cell? ⟨I, x, none⟩ = some (.string (nI x)) := grow_cell hgw2 (HI.out x (by omega)) (by simpa using fun e => hVI e.symm)
              have ltN : I < wr.heap.size := cell_lt cN
              have hx' : (x : Int) < (A : Int) := by omega
              clear hgw2
              go_wp2
              go_region
              all_goals go_wp2
              all_goals go_roundw
              case rel => exact ⟨j + 1, by omega, by go_num, _, inner_step (x := x) (f := false) (by rfl) hjl hGV (by have := HG.out; omega) HFX.out HI2.out⟩
              case measure => simp [intOf]; omega
            · simp only [if_true] at r2
              have cN : wr.cell? ⟨F, x, none⟩ = some (.string (nF x)) := grow_cell hgw2 (HF.out x (by omega)) (by simpa using fun e => hVF e.symm)
              have ltN : F < wr.heap.size := cell_lt cN
              have hx' : (x : Int) < (B : Int) := by omega
              clear hgw2
              go_wp2
              go_region
              all_goals go_wp2
              all_goals go_roundw
              case rel => exact ⟨j + 1, by omega, by go_num, _, inner_step (x := x) (f := true) (by rfl) hjl hGV (by have := HG.out; omega) HFX.out HI2.out⟩
              case measure => simp [intOf]; omega
          · obtain rfl : L = j := by omega
            have HNX : Hid (Blk wr V 38 (cs.set (k * 5 + 1) (.slice (some ⟨G, 0, none⟩) L L)) ∧ Placed w wr V (k + 1) m cs0 (cs.set (k * 5 + 1) (.slice (some ⟨G, 0, none⟩) L L)) D nI nF ∧ w.grownBy wr (some V)) :=
              placed_regs HV.out.lt (by omega) HRD.out.2.1 HRD.out.2.2 HDK.out HLL.out (by omega) (by have := HG.out; omega) ⟨b1, b2, b3, b4, b5⟩
            clear b1 b2 b3 b4 b5
            go_wp2
            go_roundw
            case rel => exact ⟨k + 1, by omega, by go_num, _, HNX⟩
            case measure => simp [intOf]; omega
    · obtain rfl : n = k := by omega
      go_wp2
      go_end0
      exact ⟨rfl, cs, hBV, hPl, hgr⟩

end Go.Proofs.Ybulkbqpw
