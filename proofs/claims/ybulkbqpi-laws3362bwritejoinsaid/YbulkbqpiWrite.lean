/-
  (*gathered).Write: a clone of p is appended to the row behind the pointer.
-/
import Derived.Test.YbulkbqpiJoin
import Derived.Deep.RegionLaw
import Derived.Deep.AppendLies
namespace Go.Proofs.Ybulkbqpi
open Go.RowKit Go.Shelf

/-- The bytes of numbers, back. -/
theorem nums_cells (l : List UInt8) : (l.map fun x => (x.toNat : Int)).map (Value.int .u8) = bcells l := by simp [bcells]

/-- bytes.Clone at every slice of bytes. -/
theorem bclone (v : Value) (l : List UInt8) (w : World) (hl : l.length ≤ 140737488355328) (h : Lib.HoldsBytes w v l) :
    Calls Yba.prog 11 #[v] w fun e w' => ∃ v', e = .returned v' ∧ Lib.HoldsBytes w' v' l ∧ Below w.heap.size w w' ∧ ∀ a n c, v' = .slice (some a) n c → w.heap.size ≤ a.block ∧ a.block < w'.heap.size := by
  obtain ⟨p, cap, rfl, hn, hc⟩ := h
  cases p with
  | none =>
    obtain rfl := hn rfl
    refine Calls.mono (Any.bytes_Clone_nil laysK 0 cap w) ?_
    rintro e w' ⟨rfl, rfl⟩
    exact ⟨_, rfl, ⟨none, 0, rfl, fun _ => rfl, fun a ha => by cases ha⟩, Below.refl _ _, fun a n c e => by cases e⟩
  | some a =>
    have hcc : ∀ i, i < l.length → w.cell? (a.add i) = some (.int .u8 ((l.map fun x => (x.toNat : Int)).getD i 0)) := by
      intro i hi
      rw [hc a rfl i l[i] (List.getElem?_eq_getElem hi)]
      simp [List.getD, hi]
    refine Calls.mono (Any.bytes_Clone_at laysK a l.length cap (l.map fun x => (x.toNat : Int)) w (by simp) hl hcc) ?_
    rintro e w' ⟨v', rfl, hown, _, hb⟩
    have hown' : w'.ownsRow w.heap.size 5 1 v' l.length (bcells l) := by rw [← nums_cells]; exact hown
    exact ⟨v', rfl, hb_of_own hown', hb, fun a n c e => hown'.lt a.block (by rw [e]; rfl)⟩

/-- What stands behind the clone, in the walk's own words. -/
theorem after_clone {X B n L : Nat} {gv v1 : Value} {vs : List Value} {l : List UInt8} {w w1 : World} (hX : X < w.heap.size) (hXB : X < B) (hB : B ≤ w.heap.size) (hc : w.cell? ⟨X, 0, none⟩ = some gv) (hf : w.frozen? ⟨X, 0, none⟩ = false)
    (hown : w.ownsRow B 23 1 gv n vs) (hL : l.length = L) (hv1 : Lib.HoldsBytes w1 v1 l) (hb1 : Below w.drew.heap.size w.drew w1) :
    ∃ p1 c1, v1 = .slice p1 L c1 ∧ w1.cell? ⟨X, 0, none⟩ = some gv ∧ w1.frozen? ⟨X, 0, none⟩ = false ∧ X < w1.heap.size ∧ B ≤ w1.heap.size ∧ Hid (w1.ownsRow B 23 1 gv n vs) ∧ ∀ u ∈ [Value.slice p1 L c1], u.oneCell' = true := by
  have hb : Below w.heap.size w w1 := ((Below.refl _ w).drew).trans hb1
  obtain ⟨p1, c1, rfl, _⟩ := hv1
  have hs := hb.size
  have hgb : w.grownBy w1 none := ⟨hb.os, hb.tape, hb.output, hb.size, fun k hk _ => hb.block k hk⟩
  refine ⟨p1, c1, by rw [hL], by rw [hb.cell (p := ⟨X, 0, none⟩) hX]; exact hc, by rw [hb.frozen (p := ⟨X, 0, none⟩) hX]; exact hf, by omega, by omega, hown.kept hgb ?_, ?_⟩
  · cases gv.ownBlock with
    | none => exact Or.inl rfl
    | some k => exact Or.inr (by simp)
  · intro u hu
    simp at hu
    subst hu
    rfl

/-- Behind the append the box is as it was. -/
theorem after_append {X B n : Nat} {gv : Value} {vs : List Value} {w1 w2 : World} {o : Obj} (hX1 : X < w1.heap.size) (hXB : X < B) (hc : w1.cell? ⟨X, 0, none⟩ = some gv) (hf : w1.frozen? ⟨X, 0, none⟩ = false)
    (hown : w1.ownsRow B 23 1 gv n vs) (hg : (w1.alloc o).grownBy w2 gv.ownBlock) : w2.cell? ⟨X, 0, none⟩ = some gv ∧ w2.frozen? ⟨X, 0, none⟩ = false := by
  have hne : some X ≠ gv.ownBlock := by
    intro e
    have := (hown.lt X e.symm).1
    omega
  have hblk : w2.heap[X]? = w1.heap[X]? := by rw [hg.block X (by simp; omega) hne]; exact Below.heap_alloc _ _ _ hX1
  exact ⟨by rw [World.cell?_of_block (w := w1) (a := ⟨X, 0, none⟩) hblk]; exact hc, by rw [World.frozen?_of_block (w := w1) (a := ⟨X, 0, none⟩) hblk]; exact hf⟩

/-- What Write leaves: the box holds a row of one slice more, whose last cell is a clone; every block that was there is as it was, but for the box and the old row. -/
structure Wrote (X B n : Nat) (gv : Value) (vs : List Value) (l : List UInt8) (w w' : World) (g cap : Nat) (v' : Value) : Prop where
  cell : w'.cell? ⟨X, 0, none⟩ = some (.slice (some ⟨g, 0, none⟩) (n + 1) cap)
  free : w'.frozen? ⟨X, 0, none⟩ = false
  own : w'.ownsRow B 23 1 (.slice (some ⟨g, 0, none⟩) (n + 1) cap) (n + 1) (vs ++ [v'])
  holds : Lib.HoldsBytes w' v' l
  lies : ∀ a m c, v' = .slice (some a) m c → a.block < w'.heap.size ∧ a.block ≠ g ∧ a.block ≠ X
  row : gv.ownBlock = some g ∨ w.heap.size ≤ g
  os : w'.os = w.os
  tape : w'.tape = w.tape
  output : w'.output = w.output
  size : w.heap.size ≤ w'.heap.size
  block : ∀ k, k < w.heap.size → k ≠ X → some k ≠ gv.ownBlock → w'.heap[k]? = w.heap[k]?

theorem wrote_of {X B n g cap : Nat} {gv v1 : Value} {vs : List Value} {l : List UInt8} {w w1 w2 : World} {o : Obj} (hX : X < w.heap.size) (hXB : X < B)
    (hown0 : w.ownsRow B 23 1 gv n vs) (hv1 : Lib.HoldsBytes w1 v1 l) (hb1 : Below w.drew.heap.size w.drew w1) (hf1 : ∀ a m c, v1 = .slice (some a) m c → w.drew.heap.size ≤ a.block ∧ a.block < w1.heap.size)
    (hown2 : w2.ownsRow B 23 1 (.slice (some ⟨g, 0, none⟩) (n + 1) cap) (n + 1) (vs ++ [v1])) (hg : (w1.alloc o).grownBy w2 gv.ownBlock) (hat : gv.ownBlock = some g ∨ g = w1.heap.size + 1)
    (hc2 : w2.cell? ⟨X, 0, none⟩ = some gv) (hfz2 : w2.frozen? ⟨X, 0, none⟩ = false) :
    Wrote X B n gv vs l w (w2.setCell ⟨X, 0, none⟩ (.slice (some ⟨g, 0, none⟩) (n + 1) cap)) g cap v1 := by
  have hb : Below w.heap.size w w1 := ((Below.refl _ w).drew).trans hb1
  have hs1 := hb.size
  have hs2 := hg.size
  simp at hs2
  have hgB : B ≤ g := (hown2.lt g rfl).1
  have hne : ∀ k, gv.ownBlock = some k → B ≤ k ∧ k < w.heap.size := fun k hk => hown0.lt k hk
  have hlies : ∀ a m c, v1 = .slice (some a) m c → a.block < w2.heap.size ∧ a.block ≠ g ∧ a.block ≠ X := by
    intro a m c e
    obtain ⟨h1, h2⟩ := hf1 a m c e
    have h1' : w.heap.size ≤ a.block := h1
    refine ⟨by omega, ?_, by omega⟩
    rcases hat with h | h
    · have := (hne g h).2; omega
    · omega
  have hblk : ∀ k, k < w1.heap.size → some k ≠ gv.ownBlock → w2.heap[k]? = w1.heap[k]? := fun k hk hn => by rw [hg.block k (by simp; omega) hn]; exact Below.heap_alloc _ _ _ hk
  refine ⟨?_, ?_, ?_, ?_, ?_, ?_, ?_, ?_, ?_, ?_, ?_⟩
  · exact World.cell?_setCell_same _ _ _ hc2
  · rw [World.frozen?_setCell]; exact hfz2
  · exact ownsRow_setCell_below hown2 (show X < B from hXB) _
  · obtain ⟨p, c, rfl, hn, hh⟩ := hv1
    refine ⟨p, c, rfl, hn, fun a ha i x hx => ?_⟩
    subst ha
    obtain ⟨h1, h2⟩ := hf1 a _ _ rfl
    obtain ⟨_, _, h3⟩ := hlies a _ _ rfl
    have hu := hh a rfl i x hx
    have e : (a.add i).block = a.block := by unfold Addr.add; split <;> rfl
    have h1' : w.heap.size ≤ a.block := h1
    have hn' : some (a.add i).block ≠ gv.ownBlock := by
      intro e2
      have := (hne _ e2.symm).2
      omega
    have e1 : (w2.setCell ⟨X, 0, none⟩ (.slice (some ⟨g, 0, none⟩) (n + 1) cap)).heap[(a.add i).block]? = w1.heap[(a.add i).block]? := by
      rw [Below.heap_setCell _ _ _ _ (by rw [e]; exact h3)]
      exact hblk _ (by rw [e]; exact h2) hn'
    rw [World.cell?_of_block (w := w1) e1]
    exact hu
  · intro a m c e
    obtain ⟨h1, h2, h3⟩ := hlies a m c e
    exact ⟨by simpa using h1, h2, h3⟩
  · rcases hat with h | h
    · exact Or.inl h
    · exact Or.inr (by omega)
  · exact (show w2.os = w.os from hg.os.trans hb.os)
  · exact (show w2.tape = w.tape from hg.tape.trans hb.tape)
  · exact (show w2.output = w.output from hg.output.trans hb.output)
  · simp; omega
  · intro k hk hkX hkr
    rw [Below.heap_setCell _ _ _ _ hkX, hblk k (by omega) hkr]
    exact hb.block k hk

set_option maxHeartbeats 1000000 in
theorem write_any (X B n : Nat) (gv : Value) (vs : List Value) (pv : Value) (l : List UInt8) (w : World) (hl : l.length ≤ 140737488355328) (hn : n ≤ 4096) (hXB : X < B) (hB : B ≤ w.heap.size)
    (hc : w.cell? ⟨X, 0, none⟩ = some gv) (hf : w.frozen? ⟨X, 0, none⟩ = false) (hown : w.ownsRow B 23 1 gv n vs) (hp : Lib.HoldsBytes w pv l) :
    Calls Yba.prog 9 #[.pointer (some ⟨X, 0, none⟩), pv] w fun e w' => e = .returned (.tuple #[.int .i64 l.length, .nilIface]) ∧ ∃ g cap v', Wrote X B n gv vs l w w' g cap v' := by
  obtain ⟨i0, hi, hz0, hz1, hz2⟩ := info_parts info23
  have hX : X < w.heap.size := by omega
  have HP : Hid (Lib.HoldsBytes w pv l) := hp
  have HO : Hid (w.ownsRow B 23 1 gv n vs) := hown
  obtain ⟨pp, pc, rfl, _⟩ := hp
  obtain ⟨L, hL⟩ : ∃ L, l.length = L := ⟨_, rfl⟩
  have HL : Hid (l.length = L) := hL
  rw [hL] at HP hl ⊢
  obtain ⟨go, gc, rfl⟩ : ∃ go gc, gv = .slice go n gc := by
    rcases hown.2 with ⟨rfl, rfl⟩ | ⟨g, cap, cur, rfl, _⟩
    · exact ⟨none, 0, rfl⟩
    · exact ⟨_, cap, rfl⟩
  clear hL hown
  go_enter Yba.func9, Yba.ntmps9
  go_wp2
  go_region_law (first
    | (refine step_append_lies _ rfl (.tmp 9) (.tmp 12) 24 rfl B 23 i0 (.slice none 0 0) 1 24 Yba.underlying24 hi hz0 hz1 hz2 rfl (by decide) (.slice go n gc) n vs rfl (HO1.out.alloc _) ⟨w1.heap.size, 0, none⟩ 1 1 [.slice p1 L c1] rfl rfl (cell_one_new _ _ _) h1c (by decide) (by unfold maxLen; omega) (by omega) (by simp; omega) _ rfl ?_; intro g cap w2 hown2 hgrow2 hat2 hlt2; have hX2 := after_append hX1 hXB hcX1 hfX1 HO1.out hgrow2; obtain ⟨hcX2, hfX2⟩ := hX2)
    | (go_simp; go_at_call 11; refine (bclone (.slice pp L pc) l _ (by rw [HL.out]; exact hl) (by exact hb_kept HP.out fun a u hu => hu)).mono ?_; rintro e w1 ⟨v1, rfl, hv1, hb1, hf1⟩; have hs1 := after_clone hX hXB hB hc hf HO.out HL.out hv1 hb1; obtain ⟨p1, c1, rfl, hcX1, hfX1, hX1, hB1, HO1, h1c⟩ := hs1))
  all_goals
    have HWR : Hid (Wrote X B n (.slice go n gc) vs l w (w2.setCell ⟨X, 0, none⟩ (.slice (some ⟨g, 0, none⟩) (n + 1) cap)) g cap (.slice p1 L c1)) := wrote_of hX hXB HO.out hv1 hb1 hf1 hown2 hgrow2 (by simpa using hat2) hcX2 hfX2
    clear hown2 hgrow2 hat2 hv1 hb1 hf1 h1c
    go_wp2
    go_ret2
    exact ⟨rfl, _, _, _, HWR.out⟩

/-- join over an owned row, of whatever length. -/
theorem join_any (B n : Nat) (gv : Value) (vs : List Value) (ls : List (List UInt8)) (rv : Value) (lr : List UInt8) (w : World) (hB : B ≤ w.heap.size) (hown : w.ownsRow B 23 1 gv n vs) (hn : ls.length = n) (hn47 : n ≤ 4096)
    (hlen : Lib.lens ls + lr.length ≤ 140737488355328) (hh : ∀ (i : Nat) u l, vs[i]? = some u → ls[i]? = some l → Lib.HoldsBytes w u l ∧ ∀ a m c, u = .slice (some a) m c → some a.block ≠ gv.ownBlock) (hr : Lib.HoldsBytes w rv lr) (hro : ∀ a m c, rv = .slice (some a) m c → some a.block ≠ gv.ownBlock) :
    Calls Yba.prog 6 #[gv, rv] w fun e w' => ∃ v', e = .returned v' ∧ Lib.HoldsBytes w' v' (ls.flatten ++ lr) ∧ w.grownBy w' gv.ownBlock := by
  by_cases h0 : n = 0
  · subst h0
    have hls : ls = [] := List.eq_nil_of_length_eq_zero hn
    subst hls
    have hrefl : w.grownBy w gv.ownBlock := ⟨rfl, rfl, rfl, Nat.le_refl _, fun _ _ _ => rfl⟩
    obtain ⟨p, c, rfl⟩ : ∃ p c, gv = .slice p 0 c := by
      rcases hown.2 with ⟨rfl, _⟩ | ⟨g, cap, cur, rfl, _⟩
      · exact ⟨none, 0, rfl⟩
      · exact ⟨_, cap, rfl⟩
    refine (join_none p c rv w).mono ?_
    rintro e w' ⟨rfl, hw⟩
    subst hw
    exact ⟨_, rfl, by simpa using hr, hrefl⟩
  · obtain ⟨g, cap, rfl, _, _⟩ := hown.form (by omega)
    refine (join_own B g n cap vs ls rv lr w hB hown hn (by omega) hn47 hlen (fun i u l hu hl => ?_) hr (fun a m c e => ?_)).mono ?_
    · obtain ⟨h1, h2⟩ := hh i u l hu hl
      exact ⟨h1, fun a m c e => by have := h2 a m c e; simpa [Value.ownBlock] using this⟩
    · have := hro a m c e
      simpa [Value.ownBlock] using this
    · rintro e w' ⟨v', rfl, h1, h2⟩
      exact ⟨v', rfl, h1, h2⟩

/-- What the loop of Writes has laid behind k rounds. -/
structure Gath (X k : Nat) (gv : Value) (vs : List Value) (ls : List (List UInt8)) (w0 w : World) : Prop where
  cell : w.cell? ⟨X, 0, none⟩ = some gv
  free : w.frozen? ⟨X, 0, none⟩ = false
  own : w.ownsRow (X + 1) 23 1 gv k vs
  parts : ∀ (i : Nat) u l, vs[i]? = some u → ls[i]? = some l → Lib.HoldsBytes w u l ∧ ∀ a m c, u = .slice (some a) m c → a.block < w.heap.size ∧ a.block ≠ X ∧ some a.block ≠ gv.ownBlock
  below : Below X w0 w
  lt : X < w.heap.size

theorem gath_step {X k g cap : Nat} {gv v' : Value} {vs : List Value} {ls : List (List UInt8)} {l : List UInt8} {w0 w w' : World} (h : Gath X k gv vs ls w0 w) (hl : ls[k]? = some l) (hw : Wrote X (X + 1) k gv vs l w w' g cap v') :
    Gath X (k + 1) (.slice (some ⟨g, 0, none⟩) (k + 1) cap) (vs ++ [v']) ls w0 w' := by
  have hvl : vs.length = k := by have := h.own.1; omega
  have hsz := hw.size
  refine ⟨hw.cell, hw.free, hw.own, ?_, ?_, Nat.lt_of_lt_of_le h.lt hsz⟩
  · intro i u l' hu hl'
    rcases snoc_get hu with hu' | ⟨he, rfl⟩
    · obtain ⟨h1, h2⟩ := h.parts i u l' hu' hl'
      refine ⟨?_, fun a m c e => ?_⟩
      · obtain ⟨p, c, rfl, hn, hh⟩ := h1
        refine ⟨p, c, rfl, hn, fun a ha j x hx => ?_⟩
        subst ha
        obtain ⟨q1, q2, q3⟩ := h2 a _ _ rfl
        have hux := hh a rfl j x hx
        have e : (a.add j).block = a.block := by unfold Addr.add; split <;> rfl
        rw [World.cell?_of_block (w := w) (hw.block _ (by rw [e]; exact q1) (by rw [e]; exact q2) (by rw [e]; exact q3))]
        exact hux
      · obtain ⟨q1, q2, q3⟩ := h2 a m c e
        refine ⟨by omega, q2, ?_⟩
        intro e2
        have e3 : a.block = g := by simpa [Value.ownBlock] using e2
        rcases hw.row with hr | hr
        · rw [hr] at q3; exact q3 (by rw [e3])
        · omega
    · have : l' = l := by rw [he, hvl, hl] at hl'; exact (Option.some.inj hl').symm
      subst this
      refine ⟨hw.holds, fun a m c e => ?_⟩
      obtain ⟨q1, q2, q3⟩ := hw.lies a m c e
      exact ⟨q1, q3, by simpa [Value.ownBlock] using q2⟩
  · have hb : Below X w w' := ⟨hw.os, hw.tape, hw.output, hw.size, fun j hj => hw.block j (by have := h.lt; omega) (by omega) (fun e => by have := (h.own.lt j e.symm).1; omega)⟩
    exact h.below.trans hb

end Go.Proofs.Ybulkbqpi
