import Derived.Test.Qxb6000011aBytes
namespace Go.Proofs.Qxb6000011a
open Go.RowKit

theorem splice_all (cur cs : List Value) (h : cur.length = cs.length) : splice cur 0 cs = cs := by
  unfold splice
  rw [Nat.zero_add, List.take_zero, List.nil_append, ← h, List.drop_length, List.append_nil]

/-- what a slice in a row of the call's own is good for -/
structure Own (w : World) (g n : Nat) (ys : List Int) : Prop where
  cell : ∀ i, i < n → w.cell? ⟨g, i, none⟩ = some (.int .u8 (ys.getD i 0))
  free : Free w g

theorem own_of_heap {w : World} {g n : Nat} {ys : List Int} (hl : ys.length = n) (h : w.heap[g]? = some (.cells ((ys.map (Value.int .u8)).toArray) 5 (0, 0))) : Own w g n ys := by
  constructor
  · intro i hi
    unfold World.cell?
    rw [h]
    have : i < ys.length := by omega
    simp [this]
  · intro i
    unfold World.frozen?
    rw [h]
    simp

theorem copy_src {w W : World} {b : Option Addr} {ys : List Int} (g : Addr) (hb : Bytes w b ys) (hbl : Below w.heap.size w W) :
    0 < (ys.map (Value.int .u8)).length → some g = some g ∧ ∃ ad, b = some ad ∧ ∀ j v, (ys.map (Value.int .u8))[j]? = some v → W.cell? (ad.add j) = some v := by
  intro hp
  refine ⟨rfl, ?_⟩
  rcases hb.later hbl with h | ⟨bb, off, rfl, hc⟩
  · rw [h] at hp; simp at hp
  · refine ⟨_, rfl, fun j v hj => ?_⟩
    have hlt : j < ys.length := by
      by_cases q : j < ys.length
      · exact q
      · rw [List.getElem?_eq_none (by simp; omega)] at hj; cases hj
    have e := hc j hlt
    rw [Go.WideShapes.add_plain, e]
    simp [hlt] at hj
    simp [hlt, hj]

theorem made_heap (w : World) (c : Array Value) (t : TypeId) (n : Nat) :
    ((w.alloc (.cells c t)).alloc (.cells (madeCells #[Value.int .u8 0] n) 5)).heap[w.heap.size + 1]? = some (.cells (madeCells #[Value.int .u8 0] n).toList.toArray 5 (0, 0)) := by
  have h : (w.alloc (.cells c t)).heap.size = w.heap.size + 1 := by simp
  rw [← h, Array.toArray_toList]
  exact (MapKept.heap_alloc _ _).1

theorem below_two (w : World) (c d : Array Value) (t u : TypeId) : Below w.heap.size w ((w.alloc (.cells c t)).alloc (.cells d u)) :=
  ((Below.refl _ _).alloc (Nat.le_refl _) _).alloc (by simp) _

theorem one_cells (ys : List Int) : ∀ v ∈ ys.map (Value.int .u8), v.oneCell' = true := by
  intro v hv
  obtain ⟨z, _, rfl⟩ := List.mem_map.1 hv
  rfl

set_option maxHeartbeats 400000 in
theorem copyValue_any (a b : Option Addr) (m ca n cb : Nat) (x y : Int) (ys : List Int) (w : World) (hl : ys.length = n) (hn : n ≤ 1048576) (hb : Bytes w b ys) :
    Calls Try.prog 12 #[.agg #[.slice a m ca, .slice b n cb, .int .i64 x, .int .i64 y]] w fun e w' => ∃ g, e = .returned (.slice (some ⟨g, 0, none⟩) n n) ∧ w.heap.size ≤ g ∧ Own w' g n ys ∧ Below w.heap.size w w' := by
  have hmk := run_make_row' (P := Try.prog) 29 5 (.int .u8 0) 1 Try.underlying29 info5 rfl .i64 .i64 n (by omega) (by omega)
  have HL : Hid (ys.length = n) := hl
  have HB : Hid (Bytes w b ys) := hb
  clear hl hb
  go_enter Try.func12, Try.ntmps12
  go_wp2_with (refine wpList_copy_splice rfl (.tmp 8) (.tmp 10) 29 29 rfl 5 Try.underlying29 size5 _ _ _ _ _ _ rfl rfl (w.heap.size + 1) 0 (madeCells #[Value.int .u8 0] n).toList 5 (made_heap w _ _ n) (ys.map (Value.int .u8)) (by simp [HL.out]) (copy_src _ HB.out (below_two w _ _ _ _)) (by simp [HL.out, size_madeCells]) (one_cells ys) w.heap.size w (below_two w _ _ _ _) (by omega) ?_; intro w1 HG hb1)
  go_ret
  have e : splice (madeCells #[Value.int .u8 0] n).toList 0 (ys.map (Value.int .u8)) = ys.map (Value.int .u8) := splice_all _ _ (by simp [size_madeCells, HL.out])
  have hg := HG.out
  rw [e] at hg
  exact ⟨_, rfl, by omega, own_of_heap HL.out hg, hb1⟩

set_option maxHeartbeats 400000 in
theorem zzCopy_any (a b : Option Addr) (m ca n cb : Nat) (x y : Int) (ys : List Int) (w : World) (hl : ys.length = n) (hn : n ≤ 1048576) (hb : Bytes w b ys) :
    Calls Try.prog 10 #[.slice a m ca, .slice b n cb, .int .i64 x, .int .i64 y] w fun e w' => ∃ g, e = .returned (.slice (some ⟨g, 0, none⟩) n n) ∧ w.heap.size ≤ g ∧ Own w' g n ys ∧ Below w.heap.size w w' := by
  have HC := copyValue_any a b m ca n cb x y ys w hl hn hb
  clear hl hb
  go_enter Try.func10, Try.ntmps10
  go_wp2_with (go_at_call 12; refine HC.mono ?_; rintro e w' ⟨g, rfl, hg, ho, hbl⟩)
  go_ret
  exact ⟨g, rfl, hg, ho, hbl⟩
end Go.Proofs.Qxb6000011a
