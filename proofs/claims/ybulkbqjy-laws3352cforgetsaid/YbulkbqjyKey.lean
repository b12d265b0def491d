/-
  The i-th key; the map.
-/
import Derived.Test.YbulkbqjyPop
import Derived.Maps.OwnSet
import Derived.Lib.AppendStr
import Derived.DeepKeys4
namespace Go.Proofs.Ybulkbqjy
open Go.RowKit Go.Maps

def keyV (i : Nat) : Value := .agg #[.string kid, .string (nonce i), .string ⟨#[]⟩]

theorem nonce_nums (i : Nat) (hi : i < 1024) : strOfNums [(i : Int) % 256, (i : Int) / 256] = nonce i := by
  unfold strOfNums nonce
  have h1 : ((i : Int) % 256).toNat = i % 256 := by omega
  have h2 : ((i : Int) / 256).toNat = i / 256 := by omega
  have e : UInt8.ofNat (i % 256) = UInt8.ofNat i := by apply UInt8.toNat_inj.1; simp
  simp [h1, h2, e]

theorem conv2 (w : World) (o : Obj) (x y : Int) : (convert 56 9 (.slice (some ⟨w.heap.size + 1, 0, none⟩) 2 2)).run Yba.prog ((w.alloc o).alloc (.cells #[.int .u8 x, .int .u8 y] 5)) = .ok (.string (strOfNums [x, y])) ((w.alloc o).alloc (.cells #[.int .u8 x, .int .u8 y] 5)) := by
  refine run_convert_bytes_arg _ 56 5 Yba.underlying56 Yba.underlying5 _ 0 2 2 [x, y] rfl ?_ 9 Yba.underlying9
  intro i hi
  match i, hi with
  | 0, _ => exact cell_second _ _ _ _ 0 _ rfl
  | 1, _ => exact cell_second _ _ _ _ 1 _ rfl

set_option maxHeartbeats 1000000 in
theorem key_at (i : Nat) (w : World) (hi : i < 1024) : Calls Yba.prog 4 #[.int .i64 i] w fun e w' => e = .returned (keyV i) ∧ Below w.heap.size w w' := by
  have hi' : (i : Int) < 1024 := by omega
  have hcv := conv2 w
  have hnn := nonce_nums i hi
  go_enter Yba.func4, Yba.ntmps4
  go_wp2
  refine bodyPost_ret (results_cell_row rfl _ _ w.heap.size 43 _ (0, 0) _ rfl (heap_alloc2_old _ _ _) Yba.underlying43 rfl (by kernel_rfl)) rfl ?_
  exact ⟨rfl, add_below _ _ _⟩

theorem key_lit (a b : UInt8) : keyOf Yba.prog 43 (.agg #[.string kid, .string ⟨#[a, b]⟩, .string ⟨#[]⟩]) = some (.string (keyBytes [.string [107], .string [a, b], .string []])) := by kernel_rfl
theorem row43 : 43 < Yba.prog.types.size := of_decide_eq_true (by kernel_rfl)
theorem laid_out : laidOutB Yba.prog = true := by kernel_rfl
theorem klaw : Keyed Yba.prog 43 := Keyed.of_law (deep_law_laid laid_out (m := 2) (by omega) row43 (by kernel_rfl) (by rw [Yba.underlying43]))

/-- What the i-th key reads as. -/
def kl (i : Nat) : Lit := .string (keyBytes [.string [107], .string [UInt8.ofNat i, UInt8.ofNat (i / 256)], .string []])
theorem keyOf_at (i : Nat) : keyOf Yba.prog 43 (keyV i) = some (kl i) := key_lit (UInt8.ofNat i) (UInt8.ofNat (i / 256))

theorem nonce_inj {i j : Nat} (hi : i < 1024) (hj : j < 1024) (h : nonce i = nonce j) : i = j := by
  unfold nonce at h
  simp only [ByteArray.mk.injEq, Array.mk.injEq, List.cons.injEq, and_true] at h
  obtain ⟨h1, h2⟩ := h
  have e1 := congrArg UInt8.toNat h1
  have e2 := congrArg UInt8.toNat h2
  simp at e1 e2
  omega

theorem kl_ne {i j : Nat} (hi : i < 1024) (hj : j < 1024) (h : i ≠ j) : kl i ≠ kl j := fun e => by
  have h1 := keyOf_at i
  have h2 := keyOf_at j
  rw [← e] at h2
  have := klaw.inj h1 h2
  simp only [keyV, Value.agg.injEq, Array.mk.injEq, List.cons.injEq, Value.string.injEq, and_true, true_and] at this
  exact h (nonce_inj hi hj this)

theorem kl_key (i : Nat) : WideAt.IsKeyLit (kl i) := klaw.key (keyOf_at i)

/-- The map at block M: just the keys of S, each with its flag. -/
structure Mp (D : DataW Unit) (w : World) (M N : Nat) (S : List Nat) (fl : Nat → Bool) : Prop where
  own : w.ownsMap Yba.prog 43 (plainElem Yba.prog 4) M N D
  has : ∀ i, i < 1024 → Maps.has D (kl i) = decide (i ∈ S)
  val : ∀ i, i < 1024 → i ∈ S → D.atKey (kl i) (.lit (.bool false)) = .lit (.bool (fl i))
  size : Maps.size D = S.length
  nodup : S.Nodup
  small : ∀ i ∈ S, i < 1024
def MapIs (w : World) (M N : Nat) (S : List Nat) (fl : Nat → Bool) : Prop := ∃ D, Mp D w M N S fl

theorem MapIs.lt {w : World} {M N : Nat} {S : List Nat} {fl : Nat → Bool} (h : MapIs w M N S fl) : M < w.heap.size := by obtain ⟨D, h⟩ := h; exact h.own.lt
theorem MapIs.made (w : World) (fl : Nat → Bool) : MapIs (w.alloc (.map #[] 0)) w.heap.size 0 [] fl :=
  ⟨.map [], World.ownsMap_made _ _ _ _, fun i _ => by simp [Maps.has], fun i _ h => by simp at h, rfl, List.nodup_nil, fun i h => by simp at h⟩
theorem MapIs.kept {w w' : World} {M N : Nat} {S : List Nat} {fl : Nat → Bool} {row : Option Nat} (h : MapIs w M N S fl) (hg : w.grownBy w' row) (hne : some M ≠ row) : MapIs w' M N S fl := by
  obtain ⟨D, h⟩ := h
  exact ⟨D, h.own.kept hg hne, h.has, h.val, h.size, h.nodup, h.small⟩
theorem MapIs.block {w w' : World} {M N : Nat} {S : List Nat} {fl : Nat → Bool} (h : MapIs w M N S fl) (hb : w'.heap[M]? = w.heap[M]?) : MapIs w' M N S fl := by
  obtain ⟨D, h⟩ := h
  obtain ⟨es, clock, h1, r⟩ := h.own
  exact ⟨D, ⟨es, clock, by rw [hb]; exact h1, r⟩, h.has, h.val, h.size, h.nodup, h.small⟩
theorem MapIs.perm {w : World} {M N : Nat} {S S' : List Nat} {fl : Nat → Bool} (h : MapIs w M N S fl) (hp : S.Perm S') : MapIs w M N S' fl := by
  obtain ⟨D, h⟩ := h
  refine ⟨D, h.own, fun i hi => ?_, fun i hi hm => h.val i hi (hp.mem_iff.2 hm), by rw [h.size, hp.length_eq], hp.nodup_iff.1 h.nodup, fun i hi => h.small i (hp.mem_iff.2 hi)⟩
  rw [h.has i hi, decide_eq_decide]
  exact hp.mem_iff

theorem MapIs.store {w : World} {M N : Nat} {S : List Nat} {fl : Nat → Bool} (h : MapIs w M N S fl) (hN : N < 4096) {i : Nat} (hi : i < 1024) (hnew : i ∉ S) :
    ∃ w', (Instr.mapUpdate 30 (.map (some M)) (keyV i) (.bool (fl i))).run Yba.prog w = .ok () w' ∧ MapIs w' M (N + 1) (S ++ [i]) fl ∧ w.grownBy w' (some M) := by
  obtain ⟨D, h⟩ := h
  obtain ⟨w', hrun, hown, hg⟩ := h.own.update klaw Yba.underlying30 (by unfold maxLen; omega) (keyOf_at i) (plainElem_bool Yba.underlying4 (fl i))
  refine ⟨w', hrun, ⟨_, hown, fun j hj => ?_, fun j hj hm => ?_, ?_, ?_, ?_⟩, hg⟩
  · by_cases e : j = i
    · subst e
      rw [Maps.has_put_same h.own.isMap (kl_key j)]; simp
    · rw [Maps.has_put_other (kl_ne hj hi e), h.has j hj]; simp [e]
  · by_cases e : j = i
    · subst e
      rw [Maps.atKey_put_same h.own.isMap (kl_key j)]
    · rw [Maps.atKey_put_other (kl_ne hj hi e)]
      exact h.val j hj (by simpa [e] using hm)
  · rw [Maps.size_put (h.own.tidy klaw), h.has i hi, h.size]; simp [hnew]
  · rw [List.nodup_append]
    exact ⟨h.nodup, by simp, by intro a ha b hb e; simp at hb; subst hb; subst e; exact hnew ha⟩
  · intro j hj
    rcases List.mem_append.1 hj with hj | hj
    · exact h.small j hj
    · simp at hj; omega

theorem MapIs.drop {w : World} {M N : Nat} {S : List Nat} {fl : Nat → Bool} {i : Nat} (h : MapIs w M N (S ++ [i]) fl) (ty : TypeId) :
    ∃ w', (Builtin.delete_ #[30, 43] ty #[.map (some M), keyV i]).run Yba.prog w = .ok (.tuple #[]) w' ∧ MapIs w' M N S fl ∧ w.grownBy w' (some M) := by
  obtain ⟨D, h⟩ := h
  have hi : i < 1024 := h.small i (by simp)
  obtain ⟨w', hrun, hown, ht⟩ := h.own.drop klaw Yba.underlying30 (keyOf_at i) ty
  have hnd := List.nodup_append.1 h.nodup
  have hni : i ∉ S := fun hm => hnd.2.2 i hm i (by simp) rfl
  refine ⟨w', hrun, ⟨_, hown, fun j hj => ?_, fun j hj hm => ?_, ?_, hnd.1, fun j hj => h.small j (by simp [hj])⟩, ht.grown⟩
  · by_cases e : j = i
    · subst e
      rw [Maps.has_del_same]; simp [hni]
    · rw [Maps.has_del_other (kl_ne hj hi e), h.has j hj]; simp [e]
  · have e : j ≠ i := fun e => hni (e ▸ hm)
    rw [Maps.atKey_del_other (kl_ne hj hi e)]
    exact h.val j hj (by simp [hm])
  · have := Maps.size_del (k := kl i) (h.own.tidy klaw)
    rw [h.has i hi, h.size] at this
    simp at this
    omega

theorem zero4 (w : World) : (zeroValue 4).run Yba.prog w = .ok (.bool false) w := by kernel_rfl

theorem plainElem_bool_inv {v : Value} {z : DataW Unit × List MemPlace} (h : plainElem Yba.prog 4 v = some z) : ∃ x, v = .bool x ∧ z = (.lit (.bool x), []) := by
  unfold plainElem at h
  rw [Yba.underlying4] at h
  cases v <;> simp at h
  exact ⟨_, rfl, h.symm⟩

theorem MapIs.look {w : World} {M N : Nat} {S : List Nat} {fl : Nat → Bool} (h : MapIs w M N S fl) {i : Nat} (hi : i < 1024) :
    (Instr.lookup 30 (.map (some M)) (keyV i) true).run Yba.prog w = .ok (.tuple #[.bool (decide (i ∈ S) && fl i), .bool (decide (i ∈ S))]) w := by
  obtain ⟨D, h⟩ := h
  obtain ⟨v, ps, hrun, hv⟩ := h.own.look_ok klaw Yba.underlying30 (zero4 w) (plainElem_bool Yba.underlying4 false) (keyOf_at i)
  obtain ⟨x, rfl, hx⟩ := plainElem_bool_inv hv
  simp only [Prod.mk.injEq] at hx
  rw [hrun, h.has i hi]
  by_cases hm : i ∈ S
  · have := h.val i hi hm
    rw [hx.1] at this
    simp at this
    simp [hm, this]
  · have h0 := Maps.atKey_of_not_has (D := D) (k := kl i) (by rw [h.has i hi]; simpa using hm) (.lit (.bool false))
    rw [hx.1] at h0
    simp at h0
    simp [hm, h0]
end Go.Proofs.Ybulkbqjy
