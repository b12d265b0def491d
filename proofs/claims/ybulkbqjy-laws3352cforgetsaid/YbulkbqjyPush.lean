/-
  Push and Pop of the heap.
-/
import Derived.Test.YbulkbqjyUp
namespace Go.Proofs.Ybulkbqjy
open Go.RowKit

theorem info50 : (Yba.prog.info? 50).map (fun i => (i.zero, i.size, i.bytes)) = some (some (.agg #[.string ⟨#[]⟩, .string ⟨#[]⟩, .string ⟨#[]⟩, .int .u64 0, .int .i64 0, .pointer none]), 6, 72) := by kernel_rfl

theorem ent_len (p : Ent) : (ent p).length = 6 := rfl
theorem flat_len (l : List Ent) : (l.flatMap ent).length = l.length * 6 := by
  induction l with
  | nil => rfl
  | cons x r ih => simp only [List.flatMap_cons, List.length_append, ih, ent_len, List.length_cons]; omega
theorem flat_at (c : Nat) (hc : c < 6) : ∀ (l : List Ent) (k : Nat), (l.flatMap ent)[k * 6 + c]? = (l[k]?).bind fun p => (ent p)[c]?
  | [], k => by simp
  | x :: r, 0 => by
    rw [List.flatMap_cons, List.getElem?_append_left (by rw [ent_len]; omega)]
    simp
  | x :: r, k + 1 => by
    rw [List.flatMap_cons, List.getElem?_append_right (by rw [ent_len]; omega), ent_len, show (k + 1) * 6 + c - 6 = k * 6 + c by omega, flat_at c hc r k]
    simp

/-- The row, as append's law wants it. -/
theorem Row.own {w : World} {X g cap : Nat} {l : List Ent} {cs : List Value} (h : Row w g cap l cs) (hX : X < g) : w.ownsRow (X + 1) 50 6 (.slice (some ⟨g, 0, none⟩) l.length cap) l.length (l.flatMap ent) := by
  refine ⟨flat_len l, .inr ⟨g, cap, cs.toArray, rfl, hX, h.blk, h.fits, h.max, by simpa using h.len, ?_⟩⟩
  refine List.ext_getElem? fun m => ?_
  rw [List.getElem?_take]
  obtain ⟨k, c, hc, rfl⟩ : ∃ k c, c < 6 ∧ m = k * 6 + c := ⟨m / 6, m % 6, Nat.mod_lt _ (by decide), by omega⟩
  rw [flat_at c hc l k]
  by_cases hk : k < l.length
  · rw [if_pos (by omega), List.getElem?_eq_getElem hk]
    obtain ⟨a0, a1, a2, a3, a4, a5⟩ := h.at0 k _ (List.getElem?_eq_getElem hk)
    match c, hc with
    | 0, _ => exact a0
    | 1, _ => exact a1
    | 2, _ => exact a2
    | 3, _ => exact a3
    | 4, _ => exact a4
    | 5, _ => exact a5
    | n + 6, h6 => exact absurd h6 (by omega)
  · rw [if_neg (by omega), List.getElem?_eq_none (by omega)]
    rfl

theorem row_of_own {w : World} {B g cap n : Nat} {l : List Ent} (h : w.ownsRow B 50 6 (.slice (some ⟨g, 0, none⟩) n cap) n (l.flatMap ent)) (hn : l.length = n) : B ≤ g ∧ ∃ cs, Row w g cap l cs := by
  rcases h.2 with ⟨h', _⟩ | ⟨g', cap', cur, hv, hb, hh, hnc, hcm, hcs, ht⟩
  · cases h'
  · simp only [Value.slice.injEq, Option.some.injEq, Addr.mk.injEq, and_true, true_and] at hv
    obtain ⟨rfl, rfl⟩ := hv
    refine ⟨hb, cur.toList, ⟨by unfold Blk; simpa using hh, by simpa using hcs, by omega, hcm, fun k p hk => ?_⟩⟩
    have hkl : k < l.length := (List.getElem?_eq_some_iff.1 hk).1
    have F : ∀ c, c < 6 → cur.toList[k * 6 + c]? = (ent p)[c]? := fun c hc => by
      have := flat_at c hc l k
      rw [← ht, List.getElem?_take, if_pos (by omega), hk] at this
      simpa using this
    have f0 := F 0 (by omega)
    simp only [Nat.add_zero] at f0
    exact ⟨f0, F 1 (by omega), F 2 (by omega), F 3 (by omega), F 4 (by omega), F 5 (by omega)⟩

/-- What stands below block X is as it was. -/
structure Fr (X : Nat) (w w' : World) : Prop where
  os : w'.os = w.os
  tape : w'.tape = w.tape
  output : w'.output = w.output
  size : w.heap.size ≤ w'.heap.size
  block : ∀ k, k < X → w'.heap[k]? = w.heap[k]?
theorem Fr.refl (X : Nat) (w : World) : Fr X w w := ⟨rfl, rfl, rfl, Nat.le_refl _, fun _ _ => rfl⟩
theorem Fr.trans {X : Nat} {a b c : World} (h : Fr X a b) (k : Fr X b c) : Fr X a c := ⟨k.os.trans h.os, k.tape.trans h.tape, k.output.trans h.output, Nat.le_trans h.size k.size, fun i hi => (k.block i hi).trans (h.block i hi)⟩
theorem Fr.of_grow {X g : Nat} {a b : World} (h : a.grownBy b (some g)) (hX : X ≤ g) (hXs : X ≤ a.heap.size) : Fr X a b := ⟨h.os, h.tape, h.output, h.size, fun i hi => h.block i (by omega) (by simp; omega)⟩

/-- What the heap is before a push: a row of the call's own, or nil. -/
structure Pre (w : World) (X M : Nat) (gv : Value) (l : List Ent) : Prop where
  blk : Blk w X 41 [.int .i32 0, .int .u32 0, .map (some M), gv]
  own : w.ownsRow (X + 1) 50 6 gv l.length (l.flatMap ent)

theorem St.pre {w : World} {X M g cap : Nat} {l : List Ent} (h : St w X M g cap l) : Pre w X M (.slice (some ⟨g, 0, none⟩) l.length cap) l := by
  obtain ⟨cs, hr⟩ := h.row
  exact ⟨h.blk, hr.own h.lt⟩

/-- What Push leaves. -/
theorem pushed {w w2 : World} {X M g cap n : Nat} {gv : Value} {l : List Ent} {p : Ent} {o : Obj} (h : Pre w X M gv l) (hn : l.length = n) (hown : w2.ownsRow (X + 1) 50 6 (.slice (some ⟨g, 0, none⟩) (n + 1) cap) (n + 1) (l.flatMap ent ++ ent p)) (hg : (w.drew.alloc o).grownBy w2 gv.ownBlock) :
    St (w2.setCell ⟨X, 3, none⟩ (.slice (some ⟨g, 0, none⟩) (n + 1) cap)) X M g cap (l ++ [p]) ∧ Fr X w (w2.setCell ⟨X, 3, none⟩ (.slice (some ⟨g, 0, none⟩) (n + 1) cap)) := by
  have hX := h.blk.lt
  have hlt := h.own.lt
  have e : l.flatMap ent ++ ent p = (l ++ [p]).flatMap ent := by simp [List.flatMap_append]
  rw [e] at hown
  obtain ⟨hXg, cs, hr⟩ := row_of_own hown (by simp [hn])
  have hne : ∀ k, k ≤ X → some k ≠ gv.ownBlock := fun k hk e => by have := hlt k e.symm; omega
  have hs := hg.size
  have hb2 : Blk w2 X 41 [.int .i32 0, .int .u32 0, .map (some M), gv] := ((h.blk.drew).alloc o).kept hg (hne X (Nat.le_refl _))
  refine ⟨⟨?_, hXg, cs, ⟨hr.blk.other (by simp; omega) _, hr.len, hr.fits, hr.max, hr.at0⟩⟩, ⟨hg.os, hg.tape, hg.output, ?_, fun k hk => ?_⟩⟩
  · have := hb2.set 3 (.slice (some ⟨g, 0, none⟩) (n + 1) cap)
    simpa [hn] using this
  · have : w.heap.size ≤ (w.drew.alloc o).heap.size := by simp
    exact Nat.le_trans this (by simpa [World.setCell] using hs)
  · rw [Below.heap_setCell _ _ _ _ (by simp; omega), hg.block k (by simp; omega) (hne k (by omega))]
    exact Below.heap_alloc _ _ _ (by simpa using (by omega : k < w.heap.size))

theorem after_append {w w2 : World} {X M : Nat} {gv : Value} {l : List Ent} {o : Obj} (h : Pre w X M gv l) (hg : (w.drew.alloc o).grownBy w2 gv.ownBlock) : w2.cell? ⟨X, 3, none⟩ = some gv ∧ w2.frozen? ⟨X, 3, none⟩ = false := by
  have hlt := h.own.lt
  have hb2 : Blk w2 X 41 [.int .i32 0, .int .u32 0, .map (some M), gv] := ((h.blk.drew).alloc o).kept hg (fun e => by have := hlt X e.symm; omega)
  exact ⟨hb2.cell rfl, hb2.free 3⟩

theorem assert50 (x : Value) (w : World) : (Instr.typeAssert (.iface 50 x) 20 50 false).run Yba.prog w = .ok x w := by kernel_rfl

def entV (p : Ent) : Value := .agg #[.string kid, .string (nonce p.1), .string ⟨#[]⟩, .int .u64 (p.2 % 1000000000), .int .i64 (p.2 / 1000000000), .pointer none]

set_option maxHeartbeats 1000000 in
theorem hpush_at (X M n : Nat) (gv : Value) (l : List Ent) (p : Ent) (w : World) (h : Pre w X M gv l) (hn : l.length = n) (hl : n ≤ 4096) :
    Calls Yba.prog 40 #[.pointer (some ⟨X, 3, none⟩), .iface 50 (entV p)] w fun e w' => e = .returned (.tuple #[]) ∧ ∃ g cap, St w' X M g cap (l ++ [p]) ∧ Fr X w w' := by
  obtain ⟨i0, hi, hz0, hz1, hz2⟩ := info_parts info50
  have HP : Hid (Pre w X M gv l) := h
  have HN : Hid (l.length = n) := hn
  have hX := h.blk.lt
  have hc : w.cell? ⟨X, 3, none⟩ = some gv := h.blk.cell rfl
  have hf := h.blk.free 3
  have HO : Hid (w.drew.ownsRow (X + 1) 50 6 gv n (l.flatMap ent)) := by have := h.own; rw [hn] at this; exact this
  have h1c : ∀ u ∈ ent p, u.oneCell' = true := by intro u hu; simp [ent] at hu; rcases hu with rfl | rfl | rfl | rfl | rfl | rfl <;> rfl
  clear h hn
  unfold entV
  have h50 := assert50
  go_enter Yba.func40, Yba.ntmps40
  go_wp2
  go_region_law (refine step_append_lies _ rfl (.tmp 7) (.tmp 10) 39 rfl (X + 1) 50 i0 _ 6 72 Yba.underlying39 hi hz0 hz1 hz2 rfl (by decide) gv n (l.flatMap ent) rfl (HO.out.alloc _) ⟨w.heap.size, 0, none⟩ 1 1 (ent p) rfl rfl (World.news_of_block (heap_alloc_new _ _)) h1c (by decide) (by unfold maxLen; omega) (by omega) (by simp; omega) _ rfl ?_; intro g cap w2 hown2 hgrow2 hat2 hlt2; have hX2 := after_append HP.out hgrow2; obtain ⟨hcX2, hfX2⟩ := hX2)
  all_goals
    have HPU : Hid (St (w2.setCell ⟨X, 3, none⟩ (.slice (some ⟨g, 0, none⟩) (n + 1) cap)) X M g cap (l ++ [p]) ∧ Fr X w (w2.setCell ⟨X, 3, none⟩ (.slice (some ⟨g, 0, none⟩) (n + 1) cap))) := pushed HP.out HN.out hown2 hgrow2
    clear hown2 hgrow2 hat2
    go_wp2
    go_end0
    exact ⟨rfl, _, _, HPU.out⟩

set_option maxHeartbeats 1000000 in
theorem push_at (X M : Nat) (gv : Value) (l : List Ent) (p : Ent) (w : World) (h : Pre w X M gv l) (ho : OrdN l l.length) (hl : l.length ≤ 4000) :
    Calls Yba.prog 5 #[.iface 46 (.pointer (some ⟨X, 3, none⟩)), .iface 50 (entV p)] w fun e w' => e = .returned (.tuple #[]) ∧ ∃ g cap l', St w' X M g cap l' ∧ l'.Perm (l ++ [p]) ∧ OrdN l' l'.length ∧ Fr X w w' := by
  have HP : Hid (Pre w X M gv l) := h
  have HO : Hid (OrdN l l.length) := ho
  have hm := method_push
  clear h ho
  go_enter Yba.func5, Yba.ntmps5
  go_wp2_with fail
  refine (hpush_at X M l.length gv l p w HP.out rfl (by omega)).mono ?_
  rintro e w1 ⟨rfl, g, cap, hst, hfr⟩
  have hml := method_len hst.cell
  have HST : Hid (St w1 X M g cap (l ++ [p])) := hst
  have HFR : Hid (Fr X w w1) := hfr
  have hnn : (l ++ [p]).length = l.length + 1 := by simp
  rw [hnn] at hml
  clear hst hfr hm
  go_wp2_with fail
  refine (len_at _ _ _ _).mono ?_
  rintro e w2 ⟨rfl, rfl⟩
  go_wp2_with fail
  refine (up_at X M g cap l.length (l ++ [p]) _ HST.out (by simp) (up_start p HO.out) (by simp; omega)).mono ?_
  rintro e w3 ⟨rfl, l', hst, hpm, hord, hgr⟩
  have HN : Hid (St w3 X M g cap l' ∧ l'.Perm (l ++ [p]) ∧ OrdN l' l'.length ∧ Fr X w w3) :=
    ⟨hst, hpm, hord, HFR.out.trans (Fr.of_grow hgr (Nat.le_of_lt HST.out.lt) (Nat.le_of_lt HST.out.blk.lt))⟩
  clear hst hpm hord hgr
  go_wp2
  go_end0
  exact ⟨rfl, g, cap, l', HN.out⟩
end Go.Proofs.Ybulkbqjy
