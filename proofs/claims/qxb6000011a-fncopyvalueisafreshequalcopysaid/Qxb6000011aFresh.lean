import Derived.Test.Qxb6000011aCopy
namespace Go.Proofs.Qxb6000011a
open Go.RowKit

theorem Bytes.nil {w : World} {a : Option Addr} {ys : List Int} {n : Nat} (h : Bytes w a ys) (hl : ys.length = n) : a = none → n = 0 := by
  rintro rfl
  rcases h with h | ⟨b, off, ha, _⟩
  · rw [← hl, h]; rfl
  · cases ha

theorem Own.bytes {w : World} {g n : Nat} {ys : List Int} (h : Own w g n ys) (hl : ys.length = n) : Bytes w (some ⟨g, 0, none⟩) ys :=
  .inr ⟨g, 0, rfl, fun i hi => by rw [Nat.zero_add]; exact h.cell i (by omega)⟩

/-- some bytes or other -/
def Some8 (w : World) (g n : Nat) : Prop := ∀ i, i < n → ∃ z, w.cell? ⟨g, i, none⟩ = some (.int .u8 z)

theorem Some8.step {w : World} {g n k : Nat} (h : Some8 w g n) (v : Int) (hk : k < n) : Some8 (w.setCell ⟨g, k, none⟩ (.int .u8 v)) g n := by
  intro i hi
  by_cases e : i = k
  · subst e
    obtain ⟨z, hz⟩ := h i hi
    exact ⟨v, World.cell?_setCell_same _ _ _ hz⟩
  · obtain ⟨z, hz⟩ := h i hi
    exact ⟨z, by rw [World.cell?_setCell_other _ _ _ _ (by intro q; simp only [Addr.mk.injEq] at q; omega)]; exact hz⟩

set_option maxHeartbeats 400000 in
theorem fresh_out (a b : Option Addr) (n ca m cb : Nat) (x y : Int) (w : World) (h : 1048576 < n + m) (hn : n ≤ maxLen) (hm : m ≤ maxLen) :
    Calls Try.prog 6 #[.slice a n ca, .slice b m cb, .int .i64 x, .int .i64 y] w fun e w' => e = .returned (.bool true) ∧ Below w.heap.size w w' := by
  go_enter Try.func6, Try.ntmps6
  go_wp2_with (go_at_call 8; refine (bytes_no a b n ca m cb x y _ h hn hm).mono ?_; rintro e w' ⟨rfl, rfl⟩)
  go_ret
  exact ⟨rfl, Below.refl _ _⟩

set_option maxHeartbeats 1000000 in
theorem fresh_in (a b : Option Addr) (n ca m cb : Nat) (x y : Int) (xs ys : List Int) (w : World) (h : n + m ≤ 1048576) (hxl : xs.length = n) (hyl : ys.length = m) (ha : Bytes w a xs) (hb : Bytes w b ys) :
    Calls Try.prog 6 #[.slice a n ca, .slice b m cb, .int .i64 x, .int .i64 y] w fun e w' => e = .returned (.bool true) ∧ Below w.heap.size w w' := by
  have h1 : n ≤ 1048576 := by omega
  have h2 : m ≤ 1048576 := by omega
  have HX : Hid (xs.length = n) := hxl
  have HY : Hid (ys.length = m) := hyl
  clear hxl hyl
  go_enter Try.func6, Try.ntmps6
  go_wp2_with (go_at_call 8; refine (bytes_yes a b n ca m cb x y _ h).mono ?_; rintro e w' ⟨rfl, rfl⟩)
  refine (clone_any a n ca xs _ HX.out h1 ha (ha.nil HX.out)).mono ?_
  rintro e w1 ⟨a1, rfl, ka, l1⟩
  go_wp2_with fail
  refine (clone_any b m cb ys _ HY.out h2 (hb.later l1) (hb.nil HY.out)).mono ?_
  rintro e w2 ⟨b1, rfl, kb, l2⟩
  have ka2 := ka.later l2
  go_wp2_with fail
  refine (clone_any a1 n n xs _ HX.out h1 ka2 (ka2.nil HX.out)).mono ?_
  rintro e w3 ⟨a2, rfl, va, l3⟩
  have ka3 := ka2.later l3
  have kb3 := kb.later l3
  go_wp2_with fail
  refine (clone_any b1 m m ys _ HY.out h2 kb3 (kb3.nil HY.out)).mono ?_
  rintro e w4 ⟨b2, rfl, vb, l4⟩
  have ka4 := ka3.later l4
  have kb4 := kb3.later l4
  have va4 := va.later l4
  go_wp2_with fail
  refine (zzCopy_any a2 b2 n n m m x y ys _ HY.out h2 vb).mono ?_
  rintro e w5 ⟨g, rfl, hg, ho, l5⟩
  have heq := fun w => Lib.run_eql_slice_nil (P := Try.prog) w 29 5 (some ⟨g, 0, none⟩) m m 0 0 Try.underlying29
  simp only [Option.isNone_some] at heq
  go_wp2_with fail
  refine (same_any (some ⟨g, 0, none⟩) b1 m m m ys _ HY.out h2 (ho.bytes HY.out) (kb4.later l5)).mono ?_
  rintro e w6 ⟨rfl, q, rfl⟩
  go_wp2_with fail
  have S0 : Some8 (w5.drewN q) g m := fun i hi => ⟨_, ho.cell i hi⟩
  have F0 : Free (w5.drewN q) g := ho.free
  have B0 : Below w4.heap.size w4 (w5.drewN q) := below_drewN l5 q
  have L : Below w.heap.size w w4 := below_trans (below_trans (below_trans l1 l2) l3) l4
  clear ho l1 l2 l3 l4 l5 ha hb ka kb ka2 ka3 kb3 va heq
  go_loopw [12] (fun ti wr => ∃ k : Nat, k ≤ m ∧ ti = .int .i64 k ∧ Hid (Some8 wr g m) ∧ Hid (Free wr g) ∧ Below w4.heap.size w4 wr) (fun ti _ => m - (intOf ti).toNat)
  case atStart => exact ⟨0, by omega, rfl, S0, F0, B0⟩
  case round =>
    obtain ⟨k, hk, rfl, HS, HF, hbl⟩ := hrel
    clear S0 F0 B0
    by_cases hlt : k < m
    · obtain ⟨z, hz⟩ := HS.out k hlt
      have f1 : wr.frozen? ⟨g, k, none⟩ = false := HF.out k
      go_wp2
      go_roundw
      case rel => exact ⟨k + 1, by omega, by go_num, HS.out.step _ hlt, HF.out.setCell _ _, hbl.setCell hg _⟩
      case measure => simp [intOf]; omega
    · go_wp2_with fail
      refine (same_any b2 b1 m m m ys _ HY.out h2 (vb.later hbl) (kb4.later hbl)).mono ?_
      rintro e w7 ⟨rfl, q2, rfl⟩
      have hbl2 := below_drewN hbl q2
      go_wp2_with fail
      refine (same_any a2 a1 n n n xs _ HX.out h1 (va4.later hbl2) (ka4.later hbl2)).mono ?_
      rintro e w8 ⟨rfl, q3, rfl⟩
      go_wp2
      go_ret
      exact ⟨rfl, below_trans L (below_drewN hbl (q2 + q3))⟩

/-- a slice that came in, as bytes -/
theorem row_bytes {w : World} {a : Option Addr} {len cap : Nat} {zs : List Int}
    (h : (a = none ∧ len = 0 ∧ cap = 0 ∧ zs = []) ∨ ∃ x, a = some x ∧ len ≤ cap ∧ cap ≤ maxLen ∧ zs.length = cap ∧ (∀ i, i < zs.length → w.cell? (x.add i) = some (.int .u8 (zs.getD i 0))) ∧ ∀ n ∈ zs, (Lit.int .u8 n).wf = true) :
    len ≤ maxLen ∧ ∃ ys : List Int, ys.length = len ∧ Bytes w a ys := by
  rcases h with ⟨rfl, rfl, rfl, rfl⟩ | ⟨x, rfl, h1, h2, h3, hc, _⟩
  · exact ⟨Nat.zero_le _, [], rfl, .inl rfl⟩
  · refine ⟨Nat.le_trans h1 h2, zs.take len, by simp; omega, ?_⟩
    by_cases h0 : len = 0
    · subst h0
      exact .inl (by simp)
    · obtain ⟨b, off, rfl, hcell⟩ := ints_at hc (by omega)
      refine .inr ⟨b, off, rfl, fun i hi => ?_⟩
      have hi' : i < len ∧ i < zs.length := by rw [List.length_take] at hi; omega
      rw [hcell i hi'.2]
      simp [hi'.1]

theorem fresh_walk (a0 : Option Addr) (len0 cap0 : Nat) (z0 : List Int) (a1 : Option Addr) (len1 cap1 : Nat) (z1 : List Int) (a2 : Int) (a3 : Int) (w : World)
    (w0 : (a0 = none ∧ len0 = 0 ∧ cap0 = 0 ∧ z0 = []) ∨ ∃ x, a0 = some x ∧ len0 ≤ cap0 ∧ cap0 ≤ maxLen ∧ z0.length = cap0 ∧ (∀ i, i < z0.length → w.cell? (x.add i) = some (.int .u8 (z0.getD i 0))) ∧ ∀ n ∈ z0, (Lit.int .u8 n).wf = true)
    (w1 : (a1 = none ∧ len1 = 0 ∧ cap1 = 0 ∧ z1 = []) ∨ ∃ x, a1 = some x ∧ len1 ≤ cap1 ∧ cap1 ≤ maxLen ∧ z1.length = cap1 ∧ (∀ i, i < z1.length → w.cell? (x.add i) = some (.int .u8 (z1.getD i 0))) ∧ ∀ n ∈ z1, (Lit.int .u8 n).wf = true) :
    Calls Try.prog 6 #[.slice a0 len0 cap0, .slice a1 len1 cap1, .int .i64 a2, .int .i64 a3] w fun e w' => e = .returned (.bool true) ∧ Below w.heap.size w w' := by
  obtain ⟨m0, xs, hxl, hx⟩ := row_bytes w0
  obtain ⟨m1, ys, hyl, hy⟩ := row_bytes w1
  by_cases h : len0 + len1 ≤ 1048576
  · exact fresh_in a0 a1 len0 cap0 len1 cap1 a2 a3 xs ys w h hxl hyl hx hy
  · exact fresh_out a0 a1 len0 cap0 len1 cap1 a2 a3 w (by omega) m0 m1
end Go.Proofs.Qxb6000011a
