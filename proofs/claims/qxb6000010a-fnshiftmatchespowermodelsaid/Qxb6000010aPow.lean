import Derived.Test.Qxb6000010aPower
namespace Go.Proofs.Qxb6000010a
open Go.RowKit Gf

set_option maxHeartbeats 400000 in
theorem power_out (W p v : Nat) (n : Int) (hW : W < 18446744073709551616) (hp : p < 18446744073709551616) (hv : v < 18446744073709551616) (w : World)
    (h : W < 2 ∨ 64 < W ∨ n < 0 ∨ 1152921504606846976 ≤ n ∨ fitsB p W = false ∨ fitsB v W = false) :
    Calls Try.prog 8 #[.int .u64 W, .int .u64 p, .int .u64 v, .int .i64 n] w fun e w' => e = .returned (.bool true) ∧ w' = w := by
  by_cases g1 : W < 2
  · clear h
    go_enter Try.func8, Try.ntmps8
    go_wp2
    go_ret
    exact ⟨rfl, rfl⟩
  by_cases g2 : 64 < W
  · clear h
    go_enter Try.func8, Try.ntmps8
    go_wp2
    go_ret
    exact ⟨rfl, rfl⟩
  by_cases g3 : n < 0
  · clear h
    go_enter Try.func8, Try.ntmps8
    go_wp2
    go_ret
    exact ⟨rfl, rfl⟩
  by_cases g4 : 1152921504606846976 ≤ n
  · clear h
    go_enter Try.func8, Try.ntmps8
    go_wp2
    go_ret
    exact ⟨rfl, rfl⟩
  have h' : fitsB p W = false ∨ fitsB v W = false := by
    rcases h with h | h | h | h | h
    · exact absurd h g1
    · exact absurd h g2
    · exact absurd h g3
    · exact absurd h g4
    · exact h
  clear h
  cases f1 : fitsB p W
  · clear h'
    go_enter Try.func8, Try.ntmps8
    go_wp2_with (go_at_call 11; refine (fitsWidth_any _ _ (by omega) (by omega) _).mono ?_; rintro e w' ⟨rfl, rfl⟩)
    go_ret
    exact ⟨rfl, rfl⟩
  cases f3 : fitsB v W
  · clear h'
    go_enter Try.func8, Try.ntmps8
    go_wp2_with (go_at_call 11; refine (fitsWidth_any _ _ (by omega) (by omega) _).mono ?_; rintro e w' ⟨rfl, rfl⟩)
    go_ret
    exact ⟨rfl, rfl⟩
  simp [f1, f3] at h'

set_option maxHeartbeats 400000 in
theorem power_in (W p v n : Nat) (w : World) (h1 : 2 ≤ W) (h2 : W ≤ 64) (hn : n < 1152921504606846976) (f1 : fitsB p W = true) (f3 : fitsB v W = true) :
    Calls Try.prog 8 #[.int .u64 W, .int .u64 p, .int .u64 v, .int .i64 n] w fun e w' => e = .returned (.bool true) ∧ Gr w w' := by
  have lp := fits_of f1
  have lv := fits_of f3
  have hp := fit W p h2 lp
  have hv := fit W v h2 lv
  have lX := X_lt p W (8 * n) (by omega) lp
  have HC : Hid (tms p (X p W (8 * n)) W v = iter p (8 * n) v) := tms_X_left p W v (8 * n) (by omega) lp lv
  go_enter Try.func8, Try.ntmps8
  go_wp2_with (first | (go_at_call 11; refine (fitsWidth_any _ _ (by omega) (by omega) _).mono ?_; rintro e w' ⟨rfl, rfl⟩) | (go_at_call 15; refine (zzShift_any _ _ _ _ h1 h2 lp lv hn _).mono ?_; rintro e w' ⟨rfl, hg⟩) | (go_at_call 16; refine (modelPow_any _ _ _ h1 h2 lp hn _).mono ?_; rintro e w' ⟨rfl, rfl⟩) | (go_at_call 13; refine (modelMul_eq _ _ _ _ (by omega) h2 lp lv lX _).mono ?_; rintro e w' ⟨rfl, rfl⟩))
  go_ret
  refine ⟨ret_bool (by rw [HC.out]; simp), ?_⟩
  repeat (first | exact Gr.refl _ | refine Gr.trans ?_ (by assumption))

theorem power_walk (a0 : Int) (a1 : Int) (a2 : Int) (a3 : Int) (w0 : (Lit.int .u64 a0).wf = true) (w1 : (Lit.int .u64 a1).wf = true) (w2 : (Lit.int .u64 a2).wf = true) (w : World) :
    Calls Try.prog 8 #[.int .u64 a0, .int .u64 a1, .int .u64 a2, .int .i64 a3] w fun e w' => e = .returned (.bool true) ∧ Grown w w' := by
  obtain ⟨W, rfl, hW⟩ := u64_nat w0
  obtain ⟨p, rfl, hp⟩ := u64_nat w1
  obtain ⟨v, rfl, hv⟩ := u64_nat w2
  by_cases h : W < 2 ∨ 64 < W ∨ a3 < 0 ∨ 1152921504606846976 ≤ a3 ∨ fitsB p W = false ∨ fitsB v W = false
  · refine (power_out W p v a3 hW hp hv w h).mono ?_
    rintro e w' ⟨rfl, rfl⟩
    exact ⟨rfl, Grown.refl _⟩
  · simp only [not_or, Bool.not_eq_false] at h
    obtain ⟨h1, h2, h3, h4, f1, f3⟩ := h
    obtain ⟨n, rfl⟩ := Int.eq_ofNat_of_zero_le (by omega : 0 ≤ a3)
    refine (power_in W p v n w (by omega) (by omega) (by omega) f1 f3).mono ?_
    rintro e w' ⟨rfl, hg⟩
    exact ⟨rfl, hg.grown⟩
end Go.Proofs.Qxb6000010a
