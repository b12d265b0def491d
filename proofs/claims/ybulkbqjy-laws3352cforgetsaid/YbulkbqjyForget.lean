/-
  (*Replays).forget.
-/
import Derived.Test.YbulkbqjyKey
namespace Go.Proofs.Ybulkbqjy
open Go.RowKit Go.Maps

/-- delete(m, k), as one step of a region that draws. -/
theorem step_delete {ops : Array Oper} {o : Oper} {a : Act} {w : World} {K : Act → World → Prop} {Q : Exit → Act → World → Prop} {E : Prop}
    (hg : o.guard = none) (m x : Operand) (hop : o.op = Op.call { callee := Callee.builtin Builtin.delete, args := #[m, x], argTypes := #[30, 43] })
    (M N : Nat) (S : List Nat) (fl : Nat → Bool) (i : Nat) (hm : a.eval m = .map (some M)) (hx : a.eval x = keyV i) (h : MapIs w M N (S ++ [i]) fl)
    (hK : ∀ w', MapIs w' M N S fl → w.grownBy w' (some M) → K (a.put o.dst (.tuple #[])) w') :
    if Region.wanted o (yielded ops a.tmps) = true then Oper.wp Yba.prog o a w K Q else E := by
  have hw : Region.wanted o (yielded ops a.tmps) = true := by simp [Region.wanted, hg]
  rw [if_pos hw]
  obtain ⟨w', hrun, r1, r2⟩ := h.drop o.type
  unfold Oper.wp
  simp [execOp, hop, resolve, invoke, builtin, hm, hx, hrun, Result.andThen]
  exact hK w' r1 r2

theorem Pre.st {w : World} {X M g cap n : Nat} {l : List Ent} (h : Pre w X M (.slice (some ⟨g, 0, none⟩) n cap) l) (hn : l.length = n) : St w X M g cap l := by
  subst hn
  obtain ⟨h1, cs, hr⟩ := row_of_own h.own rfl
  exact ⟨h.blk, h1, cs, hr⟩

theorem filter_drop {l l' : List Ent} {p : Ent} {d : Int} (h : (l' ++ [p]).Perm l) (hp : ¬ d < p.2) : (l'.filter fun q => decide (d < q.2)).Perm (l.filter fun q => decide (d < q.2)) := by
  have := h.filter fun q => decide (d < q.2)
  simpa [List.filter_append, hp] using this

/-- The blocks that forget turns. -/
def turns (X M : Nat) (q : Option Addr) : List Nat := X :: M :: (q.map (·.block)).toList

/-- forget's state in its loop. -/
structure Fg (w wr : World) (X M N cap : Nat) (q : Option Addr) (l0 l : List Ent) (fl : Nat → Bool) (d : Int) : Prop where
  pre : Pre wr X M (.slice q l.length cap) l
  map : MapIs wr M N (l.map (·.1)) fl
  ord : OrdN l l.length
  keep : (l.filter fun p => decide (d < p.2)).Perm (l0.filter fun p => decide (d < p.2))
  small : l.length ≤ 4000
  fr : FrS (turns X M q) w wr
  now : Blk wr w.heap.size 28 [.int .u64 (d % 1000000000), .int .i64 (d / 1000000000), .pointer none]

/-- The loop's last word. -/
theorem Fg.last {w wr : World} {X M N cap : Nat} {q : Option Addr} {l0 l : List Ent} {fl : Nat → Bool} {d : Int} (h : Fg w wr X M N cap q l0 l fl d) (hd : ∀ p, l[0]? = some p → d < p.2) : ∀ p ∈ l, d < p.2 := by
  intro p hp
  obtain ⟨k, hk, rfl⟩ := List.getElem_of_mem hp
  have h0 : l[0]? = some l[0] := List.getElem?_eq_getElem (by omega)
  have h1 := hd _ h0
  have h2 := root_min h.ord k hk
  rw [ky_of h0, ky_of (List.getElem?_eq_getElem hk)] at h2
  omega

theorem Pre.alloc {w : World} {X M : Nat} {gv : Value} {l : List Ent} (h : Pre w X M gv l) (o : Obj) : Pre (w.alloc o) X M gv l := ⟨h.blk.alloc o, h.own.alloc o⟩
theorem Pre.form {w : World} {X M cap n : Nat} {q : Option Addr} {l : List Ent} (h : Pre w X M (.slice q n cap) l) (hl : 0 < l.length) : ∃ g, q = some ⟨g, 0, none⟩ := by
  rcases h.own.2 with ⟨_, h0⟩ | ⟨g, cap', cur, hv, _⟩
  · omega
  · simp only [Value.slice.injEq] at hv; exact ⟨g, hv.1⟩

theorem blk_new (w : World) (cs : List Value) (t : TypeId) : Blk (w.alloc (.cells cs.toArray t)) w.heap.size t cs := heap_alloc_new w _

theorem fg_start {w : World} {X M N cap : Nat} {q : Option Addr} {l0 : List Ent} {fl : Nat → Bool} {d : Int} (h : Pre w X M (.slice q l0.length cap) l0) (hm : MapIs w M N (l0.map (·.1)) fl) (ho : OrdN l0 l0.length) (hl : l0.length ≤ 4000) :
    Fg w (w.alloc (.cells #[.int .u64 (d % 1000000000), .int .i64 (d / 1000000000), .pointer none] 28)) X M N cap q l0 l0 fl d :=
  ⟨h.alloc _, hm.block (Below.heap_alloc _ _ _ hm.lt), ho, List.Perm.refl _, hl, (FrS.refl _ w).alloc _, blk_new _ [_, _, _] 28⟩

/-- Behind the test the map and the rest are as they were. -/
theorem fg_map {w wr w1 w2 : World} {X M N cap g : Nat} {l0 l l' : List Ent} {p : Ent} {fl : Nat → Bool} {d : Int} {o : Obj} (h : Fg w wr X M N cap (some ⟨g, 0, none⟩) l0 l fl d) (hMX : M < X) (hXg : X < g)
    (hb : Below wr.drew.heap.size wr.drew w1) (hf : FrS [X, g] w1 w2) (hp : (l' ++ [p]).Perm l) : MapIs (w2.alloc o).drew M N (l'.map (·.1) ++ [p.1]) fl := by
  have hM := h.map.lt
  have hs : wr.heap.size ≤ w1.heap.size := hb.size
  have hs2 := hf.size
  have e : (w2.alloc o).drew.heap[M]? = wr.heap[M]? := by
    show (w2.alloc o).heap[M]? = _
    rw [Below.heap_alloc _ _ _ (by omega), hf.block M (by omega) (by simp; omega)]
    exact hb.block M hM
  have := (h.map.block e).perm (hp.map (·.1)).symm
  simpa using this

/-- A round's end. -/
theorem fg_round {w wr w1 w2 w4 : World} {X M N cap g : Nat} {l0 l l' : List Ent} {p : Ent} {fl : Nat → Bool} {d : Int} {o : Obj} (h : Fg w wr X M N cap (some ⟨g, 0, none⟩) l0 l fl d) (hMX : M < X) (hNg : w.heap.size ≠ X ∧ w.heap.size ≠ M ∧ w.heap.size ≠ g)
    (hb : Below wr.drew.heap.size wr.drew w1) (hst : St w2 X M g cap l') (hf : FrS [X, g] w1 w2) (hp : (l' ++ [p]).Perm l) (ho : OrdN l' l'.length) (hd : ¬ d < p.2) (hm : MapIs w4 M N (l'.map (·.1)) fl) (hg : (w2.alloc o).drew.grownBy w4 (some M)) :
    Fg w w4 X M N cap (some ⟨g, 0, none⟩) l0 l' fl d := by
  have hXg := hst.lt
  have hs : wr.heap.size ≤ w1.heap.size := hb.size
  have hs2 := hf.size
  have hs4 : (w2.alloc o).heap.size ≤ w4.heap.size := hg.size
  have g1 : wr.grownBy w1 none := ⟨hb.os, hb.tape, hb.output, hb.size, fun k hk _ => hb.block k hk⟩
  have F1 : FrS (turns X M (some ⟨g, 0, none⟩)) wr w1 := FrS.of_none g1
  have F2 : FrS (turns X M (some ⟨g, 0, none⟩)) w1 w2 := hf.mono (by simp [turns])
  have F3 : FrS (turns X M (some ⟨g, 0, none⟩)) w2 (w2.alloc o).drew := ((FrS.refl _ w2).alloc o).drew
  have F4 : FrS (turns X M (some ⟨g, 0, none⟩)) (w2.alloc o).drew w4 := FrS.of_grow hg (by simp [turns])
  have F := ((F1.trans F2).trans F3).trans F4
  have hlen := hp.length_eq
  simp at hlen
  have hMg : some X ≠ some M := by simp; omega
  have hMg' : some g ≠ some M := by simp; omega
  obtain ⟨cs, hr⟩ := hst.row
  have hblk : Blk (w2.alloc o).drew X 41 [.int .i32 0, .int .u32 0, .map (some M), .slice (some ⟨g, 0, none⟩) l'.length cap] := (hst.blk.alloc o).drew
  have hrow : Row (w2.alloc o).drew g cap l' cs := ⟨(hr.blk.alloc o).drew, hr.len, hr.fits, hr.max, hr.at0⟩
  refine ⟨⟨hblk.kept hg hMg, (hrow.kept hg hMg').own hXg⟩, hm, ho, (filter_drop hp hd).trans h.keep, by have := h.small; omega, h.fr.trans F, ?_⟩
  have hl := h.now.lt
  have e := F.block w.heap.size hl (by simp [turns]; omega)
  unfold Blk
  rw [e]
  exact h.now

def lenAt (X : Nat) (w : World) : Nat := match w.cell? ⟨X, 3, none⟩ with
  | some (.slice _ n _) => n
  | _ => 0
theorem Fg.lenAt {w wr : World} {X M N cap : Nat} {q : Option Addr} {l0 l : List Ent} {fl : Nat → Bool} {d : Int} (h : Fg w wr X M N cap q l0 l fl d) : lenAt X wr = l.length := by
  unfold Ybulkbqjy.lenAt
  rw [show wr.cell? ⟨X, 3, none⟩ = some (.slice q l.length cap) from h.pre.blk.cell rfl]

set_option maxHeartbeats 1000000 in
theorem forget_at (X M N cap n0 : Nat) (q : Option Addr) (l0 : List Ent) (fl : Nat → Bool) (d : Int) (w : World) (hn0 : l0.length = n0) (h : Pre w X M (.slice q n0 cap) l0) (hm : MapIs w M N (l0.map (·.1)) fl) (ho : OrdN l0 l0.length) (hMX : M < X) (hl : l0.length ≤ 4000) :
    Calls Yba.prog 7 #[.pointer (some ⟨X, 0, none⟩), T d] w fun e w' => e = .returned (.tuple #[]) ∧ ∃ l, Pre w' X M (.slice q l.length cap) l ∧ MapIs w' M N (l.map (·.1)) fl ∧ OrdN l l.length ∧ (∀ p ∈ l, d < p.2) ∧
      (l.filter fun p => decide (d < p.2)).Perm (l0.filter fun p => decide (d < p.2)) ∧ FrS (turns X M q) w w' := by
  subst hn0
  have HP : Hid (Pre w X M (.slice q l0.length cap) l0) := h
  have HM : Hid (MapIs w M N (l0.map (·.1)) fl) := hm
  have HO : Hid (OrdN l0 l0.length) := ho
  clear h hm ho
  unfold T
  go_enter Yba.func7, Yba.ntmps7
  go_wp2
  go_loopw [] (fun wr => ∃ l, Hid (Fg w wr X M N cap q l0 l fl d)) (fun wr => lenAt X wr)
  case atStart => exact ⟨l0, (show Hid _ from fg_start HP.out HM.out HO.out hl)⟩
  case round =>
    obtain ⟨l, HF⟩ := hrel
    have hX := HF.out.pre.blk.lt
    have hc3 : wr.cell? ⟨X, 3, none⟩ = some (.slice q l.length cap) := HF.out.pre.blk.cell rfl
    have hc2 : wr.cell? ⟨X, 2, none⟩ = some (.map (some M)) := HF.out.pre.blk.cell rfl
    have hn0 : wr.cell? ⟨w.heap.size, 0, none⟩ = some (.int .u64 (d % 1000000000)) := HF.out.now.cell rfl
    have hn1 : wr.cell? ⟨w.heap.size, 1, none⟩ = some (.int .i64 (d / 1000000000)) := HF.out.now.cell rfl
    have hn2 : wr.cell? ⟨w.heap.size, 2, none⟩ = some (.pointer none) := HF.out.now.cell rfl
    have hN := HF.out.now.lt
    by_cases hl0 : l.length = 0
    · have hnil : l = [] := List.eq_nil_of_length_eq_zero hl0
      have HE : Hid (∃ l, Pre wr.drew X M (.slice q l.length cap) l ∧ MapIs wr.drew M N (l.map (·.1)) fl ∧ OrdN l l.length ∧ (∀ p ∈ l, d < p.2) ∧ (l.filter fun p => decide (d < p.2)).Perm (l0.filter fun p => decide (d < p.2)) ∧ FrS (turns X M q) w wr.drew) := by
        have h := HF.out
        exact ⟨l, ⟨h.pre.blk.drew, h.pre.own⟩, h.map.block rfl, h.ord, h.last (by intro p hp; rw [hnil] at hp; simp at hp), h.keep, h.fr.drew⟩
      rw [hl0] at hc3
      clear hnil hl0
      go_wp2
      go_region
      all_goals go_wp2
      all_goals go_end0
      all_goals exact ⟨rfl, HE.out⟩
    · obtain ⟨g, rfl⟩ := HF.out.pre.form (by omega)
      obtain ⟨p, hp⟩ : ∃ p, l[0]? = some p := ⟨_, List.getElem?_eq_getElem (by omega)⟩
      have hst : St wr X M g cap l := HF.out.pre.st rfl
      obtain ⟨cs, hr⟩ := hst.row
      obtain ⟨-, -, -, a3, a4, a5⟩ := hr.cells hp
      simp only [Nat.zero_mul, Nat.zero_add] at a3 a4 a5
      have hg := hr.blk.lt
      have hXg := hst.lt
      have hNg : w.heap.size ≠ X ∧ w.heap.size ≠ M ∧ w.heap.size ≠ g := ⟨Nat.ne_of_gt HP.out.blk.lt, Nat.ne_of_gt HM.out.lt, Nat.ne_of_gt (HP.out.own.lt g rfl).2⟩
      have HNG : Hid (w.heap.size ≠ X ∧ w.heap.size ≠ M ∧ w.heap.size ≠ g) := hNg
      have HP0 : Hid (l[0]? = some p) := hp
      have HST : Hid (St wr X M g cap l) := hst
      have hlen : (0 : Int) < (l.length : Int) := by omega
      have hlenN : 0 < l.length := by omega
      have h4000 := HF.out.small
      clear hst hr hp hNg
      by_cases hd : d < p.2
      · have hdd : decide (d < p.2) = true := by simpa using hd
        have HD : Hid (d < p.2) := hd
        clear hd
        go_wp2
        go_region_law (go_simp; go_at_call 8; refine (before_at d p.2 _).mono ?_; rintro e w1 ⟨rfl, hb1⟩)
        all_goals
          have HE : Hid (∃ l, Pre w1 X M (.slice (some ⟨g, 0, none⟩) l.length cap) l ∧ MapIs w1 M N (l.map (·.1)) fl ∧ OrdN l l.length ∧ (∀ p ∈ l, d < p.2) ∧ (l.filter fun p => decide (d < p.2)).Perm (l0.filter fun p => decide (d < p.2)) ∧ FrS (turns X M (some ⟨g, 0, none⟩)) w w1) := by
            have h := HF.out
            have g1 : wr.grownBy w1 none := ⟨hb1.os, hb1.tape, hb1.output, hb1.size, fun k hk _ => hb1.block k hk⟩
            have hst1 := HST.out.same g1
            exact ⟨l, hst1.pre, h.map.kept g1 (by simp), h.ord, h.last (by intro p' hp'; rw [HP0.out] at hp'; cases hp'; have := HD.out; omega), h.keep, h.fr.trans (FrS.of_none g1)⟩
          clear hb1
          go_wp2
          go_end0
          exact ⟨rfl, HE.out⟩
      · have hdd : decide (d < p.2) = false := by simpa using hd
        have HD : Hid (¬ d < p.2) := hd
        clear hd
        go_wp2
        go_region_law (go_simp; go_at_call 8; refine (before_at d p.2 _).mono ?_; rintro e w1 ⟨rfl, hb1⟩)
        all_goals
          have hst1 : St w1 X M g cap l := HST.out.same ⟨hb1.os, hb1.tape, hb1.output, hb1.size, fun k hk _ => hb1.block k hk⟩
          have HST1 : Hid (St w1 X M g cap l) := hst1
          have HB1 : Hid (Below wr.drew.heap.size wr.drew w1) := hb1
          have hX1 := hst1.blk.lt
          clear hst1 hb1
          go_wp2_with fail
          refine (pop_at X M g cap l p _ HST1.out HP0.out HF.out.ord h4000).mono ?_
          rintro e w2 ⟨rfl, l', hst2, hpm, ho2, hf2⟩
          have hc2' : w2.cell? ⟨X, 2, none⟩ = some (.map (some M)) := hst2.blk.cell rfl
          have hX2 := hst2.blk.lt
          have h50 := assert50
          have HST2 : Hid (St w2 X M g cap l') := hst2
          have HPM : Hid ((l' ++ [p]).Perm l) := hpm
          have HO2 : Hid (OrdN l' l'.length) := ho2
          have HF2 : Hid (FrS [X, g] w1 w2) := hf2
          clear hst2 hpm ho2 hf2
          unfold entV
          go_wp2
          go_region_law (refine step_delete rfl (.tmp 32) (.tmp 34) rfl M N (l'.map (·.1)) fl p.1 rfl rfl (fg_map HF.out hMX hXg HB1.out HF2.out HPM.out) ?_; intro w4 hm4 hg4)
          all_goals
            have HN : Hid (Fg w w4 X M N cap (some ⟨g, 0, none⟩) l0 l' fl d) := fg_round HF.out hMX HNG.out HB1.out HST2.out HF2.out HPM.out HO2.out (by have := HD.out; omega) hm4 hg4
            have hms : lenAt X w4 < lenAt X wr := by
              rw [HN.out.lenAt, HF.out.lenAt]
              have := HPM.out.length_eq
              simp at this
              omega
            clear hm4 hg4
            go_wp2
            go_roundw
            case rel => exact ⟨l', HN⟩
            case measure => exact hms
end Go.Proofs.Ybulkbqjy
