import Derived.Test.Qxb6000010aRows
import Derived.Test.Qxb6000010aGf
import Derived.WalkKit
import Derived.WalkSpells
import Derived.WalkLawsBesides
import Derived.RowKit3
import Derived.OpenShut
namespace Go.Proofs.Qxb6000010a
open Go.RowKit Gf

theorem ret_u64 {a b : Int} (h : a = b) : Ending.returned (.int .u64 a) = .returned (.int .u64 b) := by rw [h]

theorem ret_bool {a b : Bool} (h : a = b) : Ending.returned (.bool a) = .returned (.bool b) := by rw [h]

/-- new blocks alone, none of them frozen -/
def Gr (w w' : World) : Prop := Below w.heap.size w w' ∧ ∀ a, w'.frozen? a = w.frozen? a

theorem Gr.refl (w : World) : Gr w w := ⟨Below.refl _ _, fun _ => rfl⟩

theorem Gr.trans {a b c : World} (h : Gr a b) (k : Gr b c) : Gr a c :=
  ⟨h.1.trans (k.1.mono h.1.size), fun x => (k.2 x).trans (h.2 x)⟩

theorem Gr.alloc {a w : World} (h : Gr a w) (c : Array Value) (t : TypeId) : Gr a (w.alloc (.cells c t)) :=
  ⟨h.1.alloc h.1.size _, fun x => (frozen?_alloc_cells _ _ _ x).trans (h.2 x)⟩

theorem Gr.grown {w w' : World} (h : Gr w w') : Grown w w' := ⟨h.1.frame _, h.2, h.1.size⟩

theorem Gr.cell {w w' : World} (h : Gr w w') (b o : Nat) (hb : b < w.heap.size) : w'.cell? ⟨b, o, none⟩ = w.cell? ⟨b, o, none⟩ :=
  h.1.cell (p := ⟨b, o, none⟩) hb

theorem xor_nat (a b : Nat) (ha : a < 18446744073709551616) (hb : b < 18446744073709551616) :
    bits .xor .u64 (a : Int) (b : Int) = ((a ^^^ b : Nat) : Int) := bits_xor_u64_nat a b ha hb

theorem tx_odd (p v : Nat) (hp : p < 18446744073709551616) (hv : v < 18446744073709551616) (ho : ((v : Int) % 2) = 1) :
    bits .xor .u64 ((v : Int) / 2) (p : Int) = (tx p v : Nat) := by
  have e : ((v : Int) / 2) = ((v / 2 : Nat) : Int) := by omega
  rw [e, bits_xor_u64_nat _ _ (by omega) hp]
  unfold tx; rw [if_pos (by omega)]

theorem tx_even (p v : Nat) (ho : ((v : Int) % 2) = 0) : ((v : Int) / 2) = (tx p v : Nat) := by
  unfold tx; rw [if_neg (by omega)]; omega

/-- what fits the width fits the word -/
theorem fit (W a : Nat) (hW : W ≤ 64) (h : a < 2 ^ W) : a < 18446744073709551616 :=
  Nat.lt_of_lt_of_le h (Nat.pow_le_pow_right (n := 2) (by omega) hW)

set_option maxHeartbeats 400000 in
theorem timesX_any (W p v : Nat) (hp : p < 18446744073709551616) (hv : v < 18446744073709551616) (w : World) :
    Calls Try.prog 17 #[.agg #[.int .u64 W, .int .u64 p], .int .u64 v] w fun e w' => e = .returned (.int .u64 (tx p v : Nat)) ∧ Gr w w' := by
  have h1 := and_one_u64 v (by omega) (by omega)
  have h2 : ((v : Int) % 2) = 1 ∨ ((v : Int) % 2) = 0 := by omega
  rcases h2 with h2 | h2
  · go_enter Try.func17, Try.ntmps17
    go_wp2
    go_ret
    exact ⟨ret_u64 (tx_odd p v hp hv h2), (Gr.refl _).alloc _ _⟩
  · go_enter Try.func17, Try.ntmps17
    go_wp2
    go_ret
    exact ⟨ret_u64 (tx_even p v h2), (Gr.refl _).alloc _ _⟩

set_option maxHeartbeats 400000 in
theorem zzTimesX_any (W p v : Nat) (hp : p < 18446744073709551616) (hv : v < 18446744073709551616) (w : World) :
    Calls Try.prog 12 #[.int .u64 W, .int .u64 p, .int .u64 v] w fun e w' => e = .returned (.int .u64 (tx p v : Nat)) ∧ Gr w w' := by
  go_enter Try.func12, Try.ntmps12
  go_wp2_with (go_at_call 17; refine (timesX_any _ _ _ hp hv _).mono ?_; rintro e w' ⟨rfl, hg⟩)
  go_ret
  exact ⟨rfl, hg⟩

/-- the test 'u>>k&1' -/
theorem bit_and (u k : Nat) (hu : u < 18446744073709551616) : bits .and .u64 ((u : Int) / 2 ^ k) 1 = if u.testBit k then 1 else 0 := by
  have e : ((u : Int) / 2 ^ k) = ((u / 2 ^ k : Nat) : Int) := by simp
  rw [e, and_one_u64 _ (Int.natCast_nonneg _) (by have := Nat.div_le_self u (2 ^ k); omega)]
  rw [Nat.testBit_eq_decide_div_mod_eq]
  by_cases h : u / 2 ^ k % 2 = 1
  · simp [h]; omega
  · simp [h]; omega

set_option maxHeartbeats 400000 in
theorem times_any (W p u v : Nat) (hW : W ≤ 64) (hp : p < 2 ^ W) (hu : u < 18446744073709551616) (hv : v < 2 ^ W) (w : World) :
    Calls Try.prog 19 #[.agg #[.int .u64 W, .int .u64 p], .int .u64 u, .int .u64 v] w fun e w' => e = .returned (.int .u64 (tms p u W v : Nat)) ∧ Gr w w' := by
  have hp' := fit W p hW hp
  go_enter Try.func19, Try.ntmps19
  go_wp2
  go_loopw [2, 7, 8] (fun tv tr ti wr => ∃ (n x r : Nat) (k : Int), k + 1 = n ∧ n ≤ W ∧ x < 2 ^ W ∧ r < 2 ^ W ∧ r ^^^ tms p u n x = tms p u W v ∧ tv = .int .u64 x ∧ tr = .int .u64 r ∧ ti = .int .i64 k ∧ Gr (w.alloc (Obj.cells #[Value.int IntKind.u64 ↑W, Value.int IntKind.u64 ↑p] 35)) wr) (fun _ _ ti _ => (intOf ti + 1).toNat)
  case atStart => exact ⟨W, v, 0, _, by omega, Nat.le_refl _, hv, Nat.two_pow_pos _, by simp, rfl, rfl, rfl, Gr.refl _⟩
  case round =>
    obtain ⟨n, x, r, k, hk, hn, hx, hr, hsum, rfl, rfl, rfl, hg⟩ := hrel
    have HS : Hid (r ^^^ tms p u n x = tms p u W v) := hsum
    clear hsum
    have hx' := fit W x hW hx
    have hr' := fit W r hW hr
    have c0 : wr.cell? ⟨w.heap.size, 0, none⟩ = some (.int .u64 W) := by rw [hg.cell _ _ (by simp)]; simp
    have c1 : wr.cell? ⟨w.heap.size, 1, none⟩ = some (.int .u64 p) := by rw [hg.cell _ _ (by simp)]; simp
    by_cases hk0 : k < 0
    · have : n = 0 := by omega
      subst this
      clear hk
      go_wp2
      go_ret
      exact ⟨by rw [← HS.out]; simp [tms], ((Gr.refl _).alloc _ _).trans hg⟩
    · obtain ⟨m, rfl⟩ := Int.eq_ofNat_of_zero_le (by omega : 0 ≤ k)
      have : n = m + 1 := by omega
      subst this
      clear hk hk0
      have hm : m < W := by omega
      have hb := bit_and u m hu
      have hx2 := tx_lt p x W hp hx
      cases hbit : u.testBit m
      · have HS2 : Hid (r ^^^ tms p u m (tx p x) = tms p u W v) := by
          have h := HS.out
          simp only [tms, hbit, Bool.false_eq_true, if_false, Nat.zero_xor] at h
          exact h
        rw [hbit] at hb
        simp only [Bool.false_eq_true, if_false] at hb
        clear HS hbit
        go_wp2_with (go_at_call 17; refine (timesX_any _ _ _ hp' hx' _).mono ?_; rintro e w' ⟨rfl, hg'⟩)
        go_roundw
        case rel => exact ⟨m, tx p x, r, _, by omega, by omega, hx2, hr, HS2.out, rfl, rfl, rfl, hg.trans hg'⟩
        case measure => simp [intOf]
      · have HS2 : Hid ((r ^^^ x) ^^^ tms p u m (tx p x) = tms p u W v) := by
          have h := HS.out
          simp only [tms, hbit, if_true] at h
          rw [Nat.xor_assoc]; exact h
        have hrx := Nat.xor_lt_two_pow hr hx
        have hxr := bits_xor_u64_nat r x hr' hx'
        rw [hbit] at hb
        simp only [if_true] at hb
        clear HS hbit
        go_wp2_with (go_at_call 17; refine (timesX_any _ _ _ hp' hx' _).mono ?_; rintro e w' ⟨rfl, hg'⟩)
        go_roundw
        case rel => exact ⟨m, tx p x, r ^^^ x, _, by omega, by omega, hx2, hrx, HS2.out, rfl, rfl, rfl, hg.trans hg'⟩
        case measure => simp [intOf]

set_option maxHeartbeats 400000 in
theorem zzTimes_any (W p u v : Nat) (hW : W ≤ 64) (hp : p < 2 ^ W) (hu : u < 18446744073709551616) (hv : v < 2 ^ W) (w : World) :
    Calls Try.prog 14 #[.int .u64 W, .int .u64 p, .int .u64 u, .int .u64 v] w fun e w' => e = .returned (.int .u64 (tms p u W v : Nat)) ∧ Gr w w' := by
  go_enter Try.func14, Try.ntmps14
  go_wp2_with (go_at_call 19; refine (times_any _ _ _ _ hW hp hu hv _).mono ?_; rintro e w' ⟨rfl, hg⟩)
  go_ret
  exact ⟨rfl, hg⟩

/-- does x fit the width? -/
def fitsB (x W : Nat) : Bool := decide (x < 2 ^ W)

theorem fits_wide (x W : Nat) (hx : x < 18446744073709551616) (hW : 64 ≤ W) : fitsB x W = true := by
  unfold fitsB
  have : 2 ^ 64 ≤ 2 ^ W := Nat.pow_le_pow_right (by omega) hW
  simp; omega

theorem fits_slim (x W : Nat) : ((x : Int) / 2 ^ W == 0) = fitsB x W := by
  unfold fitsB
  have e : ((x : Int) / 2 ^ W) = ((x / 2 ^ W : Nat) : Int) := by simp
  have hp := Nat.two_pow_pos W
  rw [Bool.eq_iff_iff, beq_iff_eq, e, decide_eq_true_iff]
  constructor
  · intro h
    have h' : x / 2 ^ W = 0 := by omega
    rcases Nat.div_eq_zero_iff.1 h' with h0 | h0
    · omega
    · exact h0
  · intro h
    rw [Nat.div_eq_of_lt h]; rfl

set_option maxHeartbeats 400000 in
theorem fitsWidth_any (x W : Nat) (hx : x < 18446744073709551616) (hW : W < 18446744073709551616) (w : World) :
    Calls Try.prog 11 #[.int .u64 x, .int .u64 W] w fun e w' => e = .returned (.bool (fitsB x W)) ∧ w' = w := by
  by_cases h : 64 ≤ W
  · have H : Hid (fitsB x W = true) := fits_wide x W hx h
    go_enter Try.func11, Try.ntmps11
    go_wp2
    go_ret
    exact ⟨ret_bool H.out.symm, rfl⟩
  · have hlt : W < 64 := by omega
    go_enter Try.func11, Try.ntmps11
    go_wp2
    go_ret
    exact ⟨ret_bool (fits_slim x W), rfl⟩

theorem fits_of {x W : Nat} (h : fitsB x W = true) : x < 2 ^ W := by
  unfold fitsB at h; exact of_decide_eq_true h

/-- a number of the kind uint64, as a natural number -/
theorem u64_nat {a : Int} (h : (Lit.int .u64 a).wf = true) : ∃ n : Nat, a = n ∧ n < 18446744073709551616 := by
  have hb : 0 ≤ a ∧ a ≤ 18446744073709551615 := bounds_u64 h
  exact ⟨a.toNat, by omega, by omega⟩

theorem wrap_nat (x : Nat) (h : x < 18446744073709551616) : IntKind.u64.wrap (x : Int) = x := by
  rw [IntKind.wrap_u64]; omega

/-- 2^k, behind a name -/
def tp (k : Nat) : Nat := 2 ^ k

theorem wrap_tp (k : Nat) (h : k < 64) : IntKind.u64.wrap (2 ^ k) = (tp k : Nat) := by
  have h1 : (2 : Nat) ^ k < 2 ^ 64 := Nat.pow_lt_pow_right (by omega) h
  have e : ((2 : Int) ^ k) = ((2 ^ k : Nat) : Int) := by simp
  rw [e]; exact wrap_nat _ h1

theorem tp_lt (k : Nat) (h : k < 64) : tp k < 18446744073709551616 := by
  have h1 : (2 : Nat) ^ k < 2 ^ 64 := Nat.pow_lt_pow_right (by omega) h
  unfold tp; omega

theorem tp_lt' (k W : Nat) (h : k < W) : tp k < 2 ^ W := Nat.pow_lt_pow_right (by omega) h
end Go.Proofs.Qxb6000010a
