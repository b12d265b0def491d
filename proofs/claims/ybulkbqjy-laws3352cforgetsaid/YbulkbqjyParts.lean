/-
  The law's states.
-/
import Derived.Test.YbulkbqjyForget
namespace Go.Proofs.Ybulkbqjy
open Go.RowKit Go.Maps

/-- The requests: their number, their time. -/
def es (D : List Int) : List Ent := D.zipIdx.map fun p => (p.2, p.1)
theorem es_get (D : List Int) (i : Nat) : (es D)[i]? = D[i]?.map fun x => (i, x) := by
  simp [es, List.getElem?_zipIdx]
  cases D[i]? <;> simp
theorem es_len (D : List Int) : (es D).length = D.length := by simp [es]
theorem es_take {D : List Int} {k : Nat} {x : Int} (h : D[k]? = some x) : (es D).take (k + 1) = (es D).take k ++ [(k, x)] := by
  rw [List.take_add_one, es_get, h]
  rfl
theorem es_fst (D : List Int) : (es D).map (·.1) = List.range D.length := by
  apply List.ext_getElem?
  intro i
  rw [List.getElem?_map, es_get]
  by_cases h : i < D.length
  · simp [h]
  · rw [List.getElem?_eq_none (by omega), List.getElem?_eq_none (by simpa using h)]; rfl

/-- The law's state: t0, the map, the Replays lie in three blocks one behind the other. -/
structure Lw (w wr : World) (N cap : Nat) (q : Option Addr) (l : List Ent) (S : List Nat) (fl : Nat → Bool) : Prop where
  pre : Pre wr (w.heap.size + 1 + 1) (w.heap.size + 1) (.slice q l.length cap) l
  ord : OrdN l l.length
  map : MapIs wr (w.heap.size + 1) N S fl
  t0 : Blk wr w.heap.size 28 [.int .u64 0, .int .i64 0, .pointer none]
  below : Below w.heap.size w wr

theorem Pre.kept {w w' : World} {X M : Nat} {gv : Value} {l : List Ent} {row : Option Nat} (h : Pre w X M gv l) (hg : w.grownBy w' row) (h1 : some X ≠ row) (h2 : gv.ownBlock = none ∨ gv.ownBlock ≠ row) : Pre w' X M gv l := ⟨h.blk.kept hg h1, h.own.kept hg h2⟩

theorem below_grow {w wr w' : World} {B : Nat} {row : Option Nat} (h : Below B w wr) (hB : B ≤ wr.heap.size) (hg : wr.grownBy w' row) (hr : ∀ k, row = some k → B ≤ k) : Below B w w' :=
  ⟨hg.os.trans h.os, hg.tape.trans h.tape, hg.output.trans h.output, Nat.le_trans h.size hg.size, fun k hk => (hg.block k (by omega) (fun e => by have := hr k e.symm; omega)).trans (h.block k hk)⟩

theorem Lw.grow {w wr w' : World} {N cap : Nat} {q : Option Addr} {l : List Ent} {S : List Nat} {fl : Nat → Bool} (h : Lw w wr N cap q l S fl) (hg : wr.grownBy w' none) : Lw w w' N cap q l S fl := by
  have hX := h.pre.blk.lt
  refine ⟨h.pre.kept hg (by simp) ?_, h.ord, h.map.kept hg (by simp), h.t0.kept hg (by simp), below_grow h.below (by omega) hg (by simp)⟩
  cases hv : (Value.slice q l.length cap).ownBlock <;> simp

theorem Lw.put {w wr w' : World} {N N' cap : Nat} {q : Option Addr} {l : List Ent} {S S' : List Nat} {fl : Nat → Bool} (h : Lw w wr N cap q l S fl) (hm : MapIs w' (w.heap.size + 1) N' S' fl) (hg : wr.grownBy w' (some (w.heap.size + 1))) : Lw w w' N' cap q l S' fl := by
  have hX := h.pre.blk.lt
  refine ⟨h.pre.kept hg (by simp) ?_, h.ord, hm, h.t0.kept hg (by simp), below_grow h.below (by omega) hg (by simp)⟩
  cases hv : (Value.slice q l.length cap).ownBlock with
  | none => exact Or.inl rfl
  | some k => have := (h.pre.own.lt k hv).1; right; simp; omega

theorem Lw.pushed {w wr w' : World} {N cap cap' g : Nat} {q : Option Addr} {l l' : List Ent} {S S' : List Nat} {fl : Nat → Bool} (h : Lw w wr N cap q l S fl) (hst : St w' (w.heap.size + 1 + 1) (w.heap.size + 1) g cap' l') (ho : OrdN l' l'.length) (hf : Fr (w.heap.size + 1 + 1) wr w') (hS : S.Perm S') :
    Lw w w' N cap' (some ⟨g, 0, none⟩) l' S' fl := by
  have hX := h.pre.blk.lt
  have hb0 := hf.block w.heap.size (by omega)
  refine ⟨hst.pre, ho, (h.map.block (hf.block _ (by omega))).perm hS, ?_, ⟨hf.os.trans h.below.os, hf.tape.trans h.below.tape, hf.output.trans h.below.output, Nat.le_trans h.below.size hf.size, fun k hk => (hf.block k (by omega)).trans (h.below.block k hk)⟩⟩
  unfold Blk
  rw [hb0]
  exact h.t0

theorem Lw.forgot {w wr w' : World} {N cap : Nat} {q : Option Addr} {l l' : List Ent} {S S' : List Nat} {fl : Nat → Bool} (h : Lw w wr N cap q l S fl) (hp : Pre w' (w.heap.size + 1 + 1) (w.heap.size + 1) (.slice q l'.length cap) l') (hm : MapIs w' (w.heap.size + 1) N S' fl) (ho : OrdN l' l'.length)
    (hf : FrS (turns (w.heap.size + 1 + 1) (w.heap.size + 1) q) wr w') : Lw w w' N cap q l' S' fl := by
  have hX := h.pre.blk.lt
  have hq : ∀ k, k ≤ w.heap.size → k ∉ turns (w.heap.size + 1 + 1) (w.heap.size + 1) q := by
    intro k hk hm
    simp only [turns, List.mem_cons, Option.mem_toList, Option.map_eq_some_iff] at hm
    rcases hm with hm | hm | ⟨a, ha, hm⟩
    · omega
    · omega
    · subst ha
      have := (h.pre.own.lt a.block rfl).1
      omega
  refine ⟨hp, ho, hm, ?_, ⟨hf.os.trans h.below.os, hf.tape.trans h.below.tape, hf.output.trans h.below.output, Nat.le_trans h.below.size hf.size, fun k hk => (hf.block k (by omega) (hq k (by omega))).trans (h.below.block k hk)⟩⟩
  unfold Blk
  rw [hf.block w.heap.size (by omega) (hq _ (Nat.le_refl _))]
  exact h.t0

theorem grow_below_drew {w w' : World} (hb : Below w.drew.heap.size w.drew w') : w.grownBy w' none := ⟨hb.os, hb.tape, hb.output, hb.size, fun k hk _ => hb.block k hk⟩

/-- The start. -/
theorem lw_start (w : World) (fl : Nat → Bool) :
    Lw w (((w.alloc (.cells #[.int .u64 0, .int .i64 0, .pointer none] 28)).alloc (.map #[] 0)).alloc (.cells #[.int .i32 0, .int .u32 0, .map (some (w.heap.size + 1)), .slice none 0 0] 41)) 0 0 none [] [] fl := by
  have hm := MapIs.made (w.alloc (.cells #[.int .u64 0, .int .i64 0, .pointer none] 28)) fl
  have hs : (w.alloc (.cells #[.int .u64 0, .int .i64 0, .pointer none] 28)).heap.size = w.heap.size + 1 := by simp
  rw [hs] at hm
  have hb := blk_new ((w.alloc (.cells #[.int .u64 0, .int .i64 0, .pointer none] 28)).alloc (.map #[] 0)) [.int .i32 0, .int .u32 0, .map (some (w.heap.size + 1)), .slice none 0 0] 41
  have hs2 : ((w.alloc (.cells #[.int .u64 0, .int .i64 0, .pointer none] 28)).alloc (.map #[] 0)).heap.size = w.heap.size + 1 + 1 := by simp
  rw [hs2] at hb
  refine ⟨⟨hb, World.ownsRow_nil _ _ _ _⟩, fun k _ h => absurd h (Nat.not_lt_zero _), hm.block (Below.heap_alloc _ _ _ (by simp)), ?_, ?_⟩
  · exact ((blk_new w [.int .u64 0, .int .i64 0, .pointer none] 28).alloc _).alloc _
  · exact (((Below.refl _ w).alloc (Nat.le_refl _) _).alloc (by simp) _).alloc (by simp; omega) _

theorem not_in_range {l : List Ent} {D : List Int} {k : Nat} (h : l.Perm ((es D).take k)) : k ∉ l.map (·.1) := by
  intro hm
  have := (h.map (·.1)).mem_iff.1 hm
  rw [List.map_take, es_fst] at this
  have h2 := List.mem_take_iff_getElem.1 this
  obtain ⟨i, hi, e⟩ := h2
  simp at e hi
  omega

def gt (nv : Int) : Ent → Bool := fun p => decide (nv < p.2)

theorem take_all {D : List Int} {n : Nat} (h : D.length = n) : (es D).take n = es D := List.take_of_length_le (by rw [es_len]; omega)

/-- What the first forget keeps. -/
theorem kept_all {l l2 : List Ent} {D : List Int} {nv : Int} (hp : l.Perm (es D)) (ha : ∀ p ∈ l2, nv < p.2) (hf : (l2.filter fun p => decide (nv < p.2)).Perm (l.filter fun p => decide (nv < p.2))) : l2.Perm ((es D).filter (gt nv)) := by
  have e : (l2.filter fun p => decide (nv < p.2)) = l2 := List.filter_eq_self.2 (by simpa using ha)
  rw [e] at hf
  exact hf.trans (hp.filter _)

theorem mem_kept {l2 : List Ent} {D : List Int} {nv x : Int} {k : Nat} (hp : l2.Perm ((es D).filter (gt nv))) (hx : D[k]? = some x) : k ∈ l2.map (·.1) ↔ nv < x := by
  rw [(hp.map (·.1)).mem_iff, List.mem_map]
  constructor
  · rintro ⟨p, hp, rfl⟩
    rw [List.mem_filter] at hp
    obtain ⟨h1, h2⟩ := hp
    obtain ⟨i, hi⟩ := List.mem_iff_getElem?.1 h1
    rw [es_get] at hi
    cases hD : D[i]? with
    | none => rw [hD] at hi; simp at hi
    | some y =>
      rw [hD] at hi
      simp at hi
      subst hi
      simp only at hx
      rw [hD] at hx
      cases hx
      simpa [gt] using h2
  · intro h
    refine ⟨(k, x), ?_, rfl⟩
    rw [List.mem_filter]
    exact ⟨List.mem_iff_getElem?.2 ⟨k, by rw [es_get, hx]; rfl⟩, by simpa [gt] using h⟩

/-- The count behind k rounds. -/
def cnt (D : List Int) (nv : Int) (k : Nat) : Nat := (((es D).take k).filter (gt nv)).length
theorem cnt_yes {D : List Int} {nv x : Int} {k : Nat} (hx : D[k]? = some x) (h : nv < x) : cnt D nv (k + 1) = cnt D nv k + 1 := by
  unfold cnt
  rw [es_take hx, List.filter_append]
  simp [gt, h]
theorem cnt_no {D : List Int} {nv x : Int} {k : Nat} (hx : D[k]? = some x) (h : ¬ nv < x) : cnt D nv (k + 1) = cnt D nv k := by
  unfold cnt
  rw [es_take hx, List.filter_append]
  simp [gt, h]
theorem cnt_le (D : List Int) (nv : Int) (k : Nat) : cnt D nv k ≤ k := by
  unfold cnt
  exact Nat.le_trans (List.length_filter_le _ _) (by simp; omega)
theorem cnt_all {D : List Int} {nv : Int} {n : Nat} {l2 : List Ent} (h : D.length = n) (hp : l2.Perm ((es D).filter (gt nv))) : cnt D nv n = l2.length := by
  unfold cnt
  rw [take_all h, hp.length_eq]

/-- A later forget at an earlier time changes nothing. -/
theorem none_more {l2 l3 : List Ent} {nv e : Int} (he : e ≤ nv) (ha : ∀ p ∈ l2, nv < p.2) (ha3 : ∀ p ∈ l3, e < p.2) (hf : (l3.filter fun p => decide (e < p.2)).Perm (l2.filter fun p => decide (e < p.2))) : l3.length = l2.length := by
  have e3 : (l3.filter fun p => decide (e < p.2)) = l3 := List.filter_eq_self.2 (by simpa using ha3)
  have e2 : (l2.filter fun p => decide (e < p.2)) = l2 := List.filter_eq_self.2 (by intro p hp; have := ha p hp; simp; omega)
  rw [e3, e2] at hf
  exact hf.length_eq

/-- The now block stands. -/
theorem now_kept {w wr w' : World} {N cap NW : Nat} {q : Option Addr} {l : List Ent} {S : List Nat} {fl : Nat → Bool} {t : TypeId} {cs : List Value} (h : Lw w wr N cap q l S fl) (hNW : wr.heap.size ≤ NW) {wx : World} (hb : Blk wx NW t cs) (hf : FrS (turns (w.heap.size + 1 + 1) (w.heap.size + 1) q) wx w') : Blk w' NW t cs := by
  have hX := h.pre.blk.lt
  have hl := hb.lt
  have e := hf.block NW hl (by
    intro hm
    simp only [turns, List.mem_cons, Option.mem_toList, Option.map_eq_some_iff] at hm
    rcases hm with hm | hm | ⟨a, ha, hm⟩
    · omega
    · omega
    · subst ha
      have := (h.pre.own.lt a.block rfl).2
      omega)
  unfold Blk
  rw [e]
  exact hb
end Go.Proofs.Ybulkbqjy
