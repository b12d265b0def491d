/-
  Pop of the heap.
-/
import Derived.Test.YbulkbqjyPush
namespace Go.Proofs.Ybulkbqjy
open Go.RowKit

def zero6 (cs : List Value) (i : Nat) : List Value :=
  (((((cs.set (i * 6) (.string ⟨#[]⟩)).set (i * 6 + 1) (.string ⟨#[]⟩)).set (i * 6 + 2) (.string ⟨#[]⟩)).set (i * 6 + 3) (.int .u64 0)).set (i * 6 + 4) (.int .i64 0)).set (i * 6 + 5) (.pointer none)
def zero6W (w : World) (g i : Nat) : World :=
  (((((w.setCell ⟨g, i * 6, none⟩ (.string ⟨#[]⟩)).setCell ⟨g, i * 6 + 1, none⟩ (.string ⟨#[]⟩)).setCell ⟨g, i * 6 + 2, none⟩ (.string ⟨#[]⟩)).setCell ⟨g, i * 6 + 3, none⟩ (.int .u64 0)).setCell ⟨g, i * 6 + 4, none⟩ (.int .i64 0)).setCell ⟨g, i * 6 + 5, none⟩ (.pointer none)

theorem zero6_other (cs : List Value) (i k c : Nat) (hc : c < 6) (hk : k ≠ i) : (zero6 cs i)[k * 6 + c]? = cs[k * 6 + c]? := by
  unfold zero6
  rw [List.getElem?_set_ne (by omega), List.getElem?_set_ne (by omega), List.getElem?_set_ne (by omega), List.getElem?_set_ne (by omega), List.getElem?_set_ne (by omega), List.getElem?_set_ne (by omega)]

theorem Row.zero {w : World} {g cap : Nat} {l : List Ent} {cs : List Value} (h : Row w g cap l cs) (n : Nat) : Row (zero6W w g n) g cap (l.take n) (zero6 cs n) := by
  have hlen := h.len
  refine ⟨((((((h.blk.set _ _).set _ _).set _ _).set _ _).set _ _).set _ _), by simp [zero6, hlen], Nat.le_trans (List.length_take_le' _ _) h.fits, h.max, fun k q hk => ?_⟩
  rw [List.getElem?_take] at hk
  have hkn : k < n := by
    rcases Nat.lt_or_ge k n with h' | h'
    · exact h'
    · rw [if_neg (by omega)] at hk; cases hk
  rw [if_pos hkn] at hk
  have o := fun c hc => zero6_other cs n k c hc (by omega)
  have o0 := o 0 (by omega)
  simp only [Nat.add_zero] at o0
  rw [o0, o 1 (by omega), o 2 (by omega), o 3 (by omega), o 4 (by omega), o 5 (by omega)]
  exact h.at0 k q hk

/-- All blocks but those of S are as they were. -/
structure FrS (S : List Nat) (w w' : World) : Prop where
  os : w'.os = w.os
  tape : w'.tape = w.tape
  output : w'.output = w.output
  size : w.heap.size ≤ w'.heap.size
  block : ∀ k, k < w.heap.size → k ∉ S → w'.heap[k]? = w.heap[k]?
theorem FrS.refl (S : List Nat) (w : World) : FrS S w w := ⟨rfl, rfl, rfl, Nat.le_refl _, fun _ _ _ => rfl⟩
theorem FrS.trans {S : List Nat} {a b c : World} (h : FrS S a b) (k : FrS S b c) : FrS S a c :=
  ⟨k.os.trans h.os, k.tape.trans h.tape, k.output.trans h.output, Nat.le_trans h.size k.size, fun i hi hn => (k.block i (Nat.lt_of_lt_of_le hi h.size) hn).trans (h.block i hi hn)⟩
theorem FrS.of_grow {S : List Nat} {g : Nat} {a b : World} (h : a.grownBy b (some g)) (hg : g ∈ S) : FrS S a b := ⟨h.os, h.tape, h.output, h.size, fun i hi hn => h.block i hi (by simp; intro e; subst e; exact hn hg)⟩
theorem FrS.of_none {S : List Nat} {a b : World} (h : a.grownBy b none) : FrS S a b := ⟨h.os, h.tape, h.output, h.size, fun i hi _ => h.block i hi (by simp)⟩
theorem FrS.mono {S S' : List Nat} {a b : World} (h : FrS S a b) (hs : ∀ x ∈ S, x ∈ S') : FrS S' a b := ⟨h.os, h.tape, h.output, h.size, fun i hi hn => h.block i hi fun hm => hn (hs _ hm)⟩
theorem FrS.set {S : List Nat} {a b : World} (h : FrS S a b) {p : Addr} (hp : p.block ∈ S) (v : Value) : FrS S a (b.setCell p v) :=
  ⟨h.os, h.tape, h.output, by simpa [World.setCell] using h.size, fun i hi hn => by
    have hip : i ≠ p.block := fun e => hn (by rw [e]; exact hp)
    rw [Below.heap_setCell _ _ _ _ hip]; exact h.block i hi hn⟩
theorem FrS.alloc {S : List Nat} {a b : World} (h : FrS S a b) (o : Obj) : FrS S a (b.alloc o) := h.trans (FrS.of_none ⟨rfl, rfl, rfl, by simp, fun i hi _ => Below.heap_alloc _ _ _ hi⟩)
theorem FrS.drew {S : List Nat} {a b : World} (h : FrS S a b) : FrS S a b.drew := ⟨h.os, h.tape, h.output, h.size, h.block⟩

theorem popped {w : World} {X M g cap n : Nat} {l : List Ent} (h : St w X M g cap l) (hn : l.length = n + 1) (o : Obj) :
    St (((zero6W w g n).setCell ⟨X, 3, none⟩ (.slice (some ⟨g, 0, none⟩) n cap)).alloc o) X M g cap (l.take n) ∧ FrS [X, g] w (((zero6W w g n).setCell ⟨X, 3, none⟩ (.slice (some ⟨g, 0, none⟩) n cap)).alloc o) := by
  obtain ⟨cs, hr⟩ := h.row
  have hXg := h.lt
  have hr' := hr.zero n
  have hlt : (l.take n).length = n := by simp [hn]
  have hb : Blk (zero6W w g n) X 41 [.int .i32 0, .int .u32 0, .map (some M), .slice (some ⟨g, 0, none⟩) l.length cap] :=
    (((((h.blk.other (by simp; omega) _).other (by simp; omega) _).other (by simp; omega) _).other (by simp; omega) _).other (by simp; omega) _).other (by simp; omega) _
  refine ⟨⟨?_, hXg, _, ⟨(hr'.blk.other (by simp; omega) _).alloc o, hr'.len, hr'.fits, hr'.max, hr'.at0⟩⟩, ?_⟩
  · rw [hlt]
    have := (hb.set 3 (.slice (some ⟨g, 0, none⟩) n cap)).alloc o
    simpa using this
  · have m1 : X ∈ [X, g] := by simp
    have m2 : g ∈ [X, g] := by simp
    exact (((((((((FrS.refl _ w).set (p := ⟨g, n * 6, none⟩) m2 _).set (p := ⟨g, n * 6 + 1, none⟩) m2 _).set (p := ⟨g, n * 6 + 2, none⟩) m2 _).set (p := ⟨g, n * 6 + 3, none⟩) m2 _).set (p := ⟨g, n * 6 + 4, none⟩) m2 _).set (p := ⟨g, n * 6 + 5, none⟩) m2 _).set (p := ⟨X, 3, none⟩) m1 _).alloc o)

set_option maxHeartbeats 1000000 in
theorem hpop_at (X M g cap n : Nat) (l : List Ent) (p : Ent) (w : World) (h : St w X M g cap l) (hn : l.length = n + 1) (hp : l[n]? = some p) (hl : n ≤ 4096) :
    Calls Yba.prog 39 #[.pointer (some ⟨X, 3, none⟩)] w fun e w' => e = .returned (.iface 50 (entV p)) ∧ St w' X M g cap (l.take n) ∧ FrS [X, g] w w' := by
  have HP : Hid (∀ o, St (((zero6W w g n).setCell ⟨X, 3, none⟩ (.slice (some ⟨g, 0, none⟩) n cap)).alloc o) X M g cap (l.take n) ∧ FrS [X, g] w (((zero6W w g n).setCell ⟨X, 3, none⟩ (.slice (some ⟨g, 0, none⟩) n cap)).alloc o)) := fun o => popped h hn o
  obtain ⟨cs, hr⟩ := h.row
  obtain ⟨a0, a1, a2, a3, a4, a5⟩ := hr.cells hp
  have hg := hr.blk.lt
  have hfg := hr.blk.free
  have hX := h.blk.lt
  have hc := h.cell
  have hfX := h.blk.free 3
  have hXg := h.lt
  have hne : ¬ X = g := by omega
  have hne' : ¬ g = X := by omega
  have hcap : n ≤ cap := by have := hr.fits; omega
  have hcap' : n + 1 ≤ cap := by have := hr.fits; omega
  rw [hn] at hc
  clear h hr hXg
  go_enter Yba.func39, Yba.ntmps39
  go_wp2
  go_ret
  exact ⟨rfl, HP.out _⟩

set_option maxHeartbeats 1000000 in
theorem pop_at (X M g cap : Nat) (l : List Ent) (p : Ent) (w : World) (h : St w X M g cap l) (hp : l[0]? = some p) (ho : OrdN l l.length) (hl : l.length ≤ 4000) :
    Calls Yba.prog 14 #[.iface 46 (.pointer (some ⟨X, 3, none⟩))] w fun e w' => e = .returned (.iface 50 (entV p)) ∧ ∃ l', St w' X M g cap l' ∧ (l' ++ [p]).Perm l ∧ OrdN l' l'.length ∧ FrS [X, g] w w' := by
  have hl0 : 0 < l.length := (List.getElem?_eq_some_iff.1 hp).1
  obtain ⟨n, hn⟩ : ∃ n, l.length = n + 1 := ⟨l.length - 1, by omega⟩
  obtain ⟨q, hq⟩ : ∃ q, l[n]? = some q := ⟨_, List.getElem?_eq_getElem (by omega)⟩
  have HS : Hid (St w X M g cap l) := h
  have HN : Hid (l.length = n + 1) := hn
  have HP : Hid (l[0]? = some p) := hp
  have HQ : Hid (l[n]? = some q) := hq
  have HO : Hid (OrdN l l.length) := ho
  have hn40 : n ≤ 4000 := by omega
  have hc := h.cell
  rw [hn] at hc
  have hml := method_len hc
  have hms := method_swap hc
  have hmp := method_pop
  obtain ⟨cs, hr⟩ := h.row
  have HR : Hid (Row w g cap l cs) := hr
  clear h hp hq ho hl hl0 hn hr
  go_enter Yba.func14, Yba.ntmps14
  go_wp2_with fail
  refine (len_at _ _ _ _).mono ?_
  rintro e w0 ⟨rfl, rfl⟩
  go_wp2_with fail
  refine (swap_at g cap (n + 1) 0 n l cs p q _ HR.out HN.out HP.out HQ.out).mono ?_
  rintro e w1 ⟨rfl, hr1, hg1⟩
  have hst1 := HS.out.kept hg1 (sw_length l 0 n) hr1
  have HST1 : Hid (St w1 X M g cap (sw l 0 n)) := hst1
  have HF1 : Hid (FrS [X, g] w0 w1) := FrS.of_grow hg1 (by simp)
  clear hr1 hg1 hst1 hml hms
  go_wp2_with fail
  refine (down_at X M g cap n (sw l 0 n) _ HST1.out (by rw [sw_length, HN.out]; omega) (down_start HN.out HO.out) (by rw [sw_length, HN.out]; omega)).mono ?_
  rintro e w2 ⟨⟨b, rfl⟩, l2, hst2, hpm2, hord2, hkp2, hg2⟩
  have hlen2 : l2.length = n + 1 := by rw [hpm2.length_eq, sw_length, HN.out]
  have hlast : l2[n]? = some p := by rw [hkp2 n (Nat.le_refl _), sw_at l 0 n n (by rw [HN.out]; omega) (by rw [HN.out]; omega), if_pos rfl]; exact HP.out
  have HST2 : Hid (St w2 X M g cap l2) := hst2
  have HL2 : Hid (l2.length = n + 1) := hlen2
  have HLA : Hid (l2[n]? = some p) := hlast
  have HPM2 : Hid (l2.Perm (sw l 0 n)) := hpm2
  have HOR2 : Hid (OrdN l2 n) := hord2
  have HF2 : Hid (FrS [X, g] w0 w2) := HF1.out.trans (FrS.of_grow hg2 (by simp))
  clear hst2 hpm2 hord2 hkp2 hg2 hlen2 hlast
  go_wp2_with fail
  refine (hpop_at X M g cap n l2 p _ HST2.out HL2.out HLA.out (by omega)).mono ?_
  rintro e w3 ⟨rfl, hst3, hf3⟩
  have HEND : Hid (∃ l', St w3 X M g cap l' ∧ (l' ++ [p]).Perm l ∧ OrdN l' l'.length ∧ FrS [X, g] w0 w3) := by
    refine ⟨l2.take n, hst3, ?_, ord_take (by rw [HL2.out]; omega) HOR2.out, HF2.out.trans hf3⟩
    have e1 : l2.take n ++ [p] = l2 := by
      have h1 := HLA.out
      obtain ⟨h2, h3⟩ := List.getElem?_eq_some_iff.1 h1
      have h4 := List.take_append_getElem (l := l2) (i := n) h2
      have h5 : l2.take (n + 1) = l2 := List.take_of_length_le (by rw [HL2.out]; omega)
      rw [h3, h5] at h4
      exact h4
    rw [e1]
    exact HPM2.out.trans (sw_perm l 0 n (by rw [HN.out]; omega) (by rw [HN.out]; omega))
  clear hst3 hf3
  go_wp2
  go_ret
  exact ⟨rfl, HEND.out⟩
end Go.Proofs.Ybulkbqjy
