import Derived.Test.Qxb6000010aModel
namespace Go.Proofs.Qxb6000010a
open Go.RowKit Gf

set_option maxHeartbeats 400000 in
theorem match_out (W p u v : Nat) (hW : W < 18446744073709551616) (hp : p < 18446744073709551616) (hu : u < 18446744073709551616) (hv : v < 18446744073709551616) (w : World)
    (h : W < 1 ∨ 64 < W ∨ fitsB p W = false ∨ fitsB u W = false ∨ fitsB v W = false) :
    Calls Try.prog 5 #[.int .u64 W, .int .u64 p, .int .u64 u, .int .u64 v] w fun e w' => e = .returned (.bool true) ∧ w' = w := by
  by_cases g1 : W < 1
  · clear h
    go_enter Try.func5, Try.ntmps5
    go_wp2
    go_ret
    exact ⟨rfl, rfl⟩
  by_cases g2 : 64 < W
  · clear h
    go_enter Try.func5, Try.ntmps5
    go_wp2
    go_ret
    exact ⟨rfl, rfl⟩
  have h' : fitsB p W = false ∨ fitsB u W = false ∨ fitsB v W = false := by
    rcases h with h | h | h
    · exact absurd h g1
    · exact absurd h g2
    · exact h
  clear h
  cases f1 : fitsB p W
  · clear h'
    go_enter Try.func5, Try.ntmps5
    go_wp2_with (go_at_call 11; refine (fitsWidth_any _ _ (by omega) (by omega) _).mono ?_; rintro e w' ⟨rfl, rfl⟩)
    go_ret
    exact ⟨rfl, rfl⟩
  cases f2 : fitsB u W
  · clear h'
    go_enter Try.func5, Try.ntmps5
    go_wp2_with (go_at_call 11; refine (fitsWidth_any _ _ (by omega) (by omega) _).mono ?_; rintro e w' ⟨rfl, rfl⟩)
    go_ret
    exact ⟨rfl, rfl⟩
  cases f3 : fitsB v W
  · clear h'
    go_enter Try.func5, Try.ntmps5
    go_wp2_with (go_at_call 11; refine (fitsWidth_any _ _ (by omega) (by omega) _).mono ?_; rintro e w' ⟨rfl, rfl⟩)
    go_ret
    exact ⟨rfl, rfl⟩
  simp [f1, f2, f3] at h'

set_option maxHeartbeats 400000 in
theorem match_in (W p u v : Nat) (w : World) (h1 : 1 ≤ W) (h2 : W ≤ 64) (f1 : fitsB p W = true) (f2 : fitsB u W = true) (f3 : fitsB v W = true) :
    Calls Try.prog 5 #[.int .u64 W, .int .u64 p, .int .u64 u, .int .u64 v] w fun e w' => e = .returned (.bool true) ∧ Gr w w' := by
  have lp := fits_of f1
  have lu := fits_of f2
  have lv := fits_of f3
  have hp := fit W p h2 lp
  have hu := fit W u h2 lu
  have hv := fit W v h2 lv
  have HC : Hid (tms p u W v = tms p v W u) := tms_comm p W u v lu lv
  go_enter Try.func5, Try.ntmps5
  go_wp2_with (first | (go_at_call 11; refine (fitsWidth_any _ _ (by omega) (by omega) _).mono ?_; rintro e w' ⟨rfl, rfl⟩) | (go_at_call 14; refine (zzTimes_any _ _ _ _ h2 lp hu lv _).mono ?_; rintro e w' ⟨rfl, hg⟩) | (go_at_call 13; refine (modelMul_any _ _ _ _ h1 h2 lp lu lv _).mono ?_; rintro e w' ⟨rfl, rfl⟩))
  go_ret
  refine ⟨ret_bool (by rw [HC.out]; simp), ?_⟩
  repeat (first | exact Gr.refl _ | refine Gr.trans ?_ (by assumption))

theorem match_walk (a0 : Int) (a1 : Int) (a2 : Int) (a3 : Int) (w0 : (Lit.int .u64 a0).wf = true) (w1 : (Lit.int .u64 a1).wf = true) (w2 : (Lit.int .u64 a2).wf = true) (w3 : (Lit.int .u64 a3).wf = true) (w : World) :
    Calls Try.prog 5 #[.int .u64 a0, .int .u64 a1, .int .u64 a2, .int .u64 a3] w fun e w' => e = .returned (.bool true) ∧ Grown w w' := by
  obtain ⟨W, rfl, hW⟩ := u64_nat w0
  obtain ⟨p, rfl, hp⟩ := u64_nat w1
  obtain ⟨u, rfl, hu⟩ := u64_nat w2
  obtain ⟨v, rfl, hv⟩ := u64_nat w3
  by_cases h : W < 1 ∨ 64 < W ∨ fitsB p W = false ∨ fitsB u W = false ∨ fitsB v W = false
  · refine (match_out W p u v hW hp hu hv w h).mono ?_
    rintro e w' ⟨rfl, rfl⟩
    exact ⟨rfl, Grown.refl _⟩
  · simp only [not_or, Bool.not_eq_false] at h
    obtain ⟨h1, h2, f1, f2, f3⟩ := h
    refine (match_in W p u v w (by omega) (by omega) f1 f2 f3).mono ?_
    rintro e w' ⟨rfl, hg⟩
    exact ⟨rfl, hg.grown⟩

set_option maxHeartbeats 400000 in
theorem matchX_out (W p v : Nat) (hW : W < 18446744073709551616) (hp : p < 18446744073709551616) (hv : v < 18446744073709551616) (w : World)
    (h : W < 2 ∨ 64 < W ∨ fitsB p W = false ∨ fitsB v W = false) :
    Calls Try.prog 3 #[.int .u64 W, .int .u64 p, .int .u64 v] w fun e w' => e = .returned (.bool true) ∧ w' = w := by
  by_cases g1 : W < 2
  · clear h
    go_enter Try.func3, Try.ntmps3
    go_wp2
    go_ret
    exact ⟨rfl, rfl⟩
  by_cases g2 : 64 < W
  · clear h
    go_enter Try.func3, Try.ntmps3
    go_wp2
    go_ret
    exact ⟨rfl, rfl⟩
  have h' : fitsB p W = false ∨ fitsB v W = false := by
    rcases h with h | h | h
    · exact absurd h g1
    · exact absurd h g2
    · exact h
  clear h
  cases f1 : fitsB p W
  · clear h'
    go_enter Try.func3, Try.ntmps3
    go_wp2_with (go_at_call 11; refine (fitsWidth_any _ _ (by omega) (by omega) _).mono ?_; rintro e w' ⟨rfl, rfl⟩)
    go_ret
    exact ⟨rfl, rfl⟩
  cases f3 : fitsB v W
  · clear h'
    go_enter Try.func3, Try.ntmps3
    go_wp2_with (go_at_call 11; refine (fitsWidth_any _ _ (by omega) (by omega) _).mono ?_; rintro e w' ⟨rfl, rfl⟩)
    go_ret
    exact ⟨rfl, rfl⟩
  simp [f1, f3] at h'

set_option maxHeartbeats 400000 in
theorem matchX_in (W p v : Nat) (w : World) (h1 : 2 ≤ W) (h2 : W ≤ 64) (f1 : fitsB p W = true) (f3 : fitsB v W = true) :
    Calls Try.prog 3 #[.int .u64 W, .int .u64 p, .int .u64 v] w fun e w' => e = .returned (.bool true) ∧ Gr w w' := by
  have lp := fits_of f1
  have lv := fits_of f3
  have hp := fit W p h2 lp
  have hv := fit W v h2 lv
  have ho := wrap_tp (W - 2) (by omega)
  have lt := tp_lt' (W - 2) W (by omega)
  have HC : Hid (tms p (tp (W - 2)) W v = tx p v) := by
    show tms p (2 ^ (W - 2)) W v = tx p v
    rw [tms_pow' p W (W - 2) v (by omega), show W - 1 - (W - 2) = 1 by omega]; rfl
  go_enter Try.func3, Try.ntmps3
  go_wp2_with (first | (go_at_call 11; refine (fitsWidth_any _ _ (by omega) (by omega) _).mono ?_; rintro e w' ⟨rfl, rfl⟩) | (go_at_call 12; refine (zzTimesX_any _ _ _ hp hv _).mono ?_; rintro e w' ⟨rfl, hg⟩) | (go_at_call 13; refine (modelMul_any _ _ _ _ (by omega) h2 lp lv lt _).mono ?_; rintro e w' ⟨rfl, rfl⟩))
  go_ret
  refine ⟨ret_bool (by rw [HC.out]; simp), ?_⟩
  repeat (first | exact Gr.refl _ | refine Gr.trans ?_ (by assumption))

theorem matchX_walk (a0 : Int) (a1 : Int) (a2 : Int) (w0 : (Lit.int .u64 a0).wf = true) (w1 : (Lit.int .u64 a1).wf = true) (w2 : (Lit.int .u64 a2).wf = true) (w : World) :
    Calls Try.prog 3 #[.int .u64 a0, .int .u64 a1, .int .u64 a2] w fun e w' => e = .returned (.bool true) ∧ Grown w w' := by
  obtain ⟨W, rfl, hW⟩ := u64_nat w0
  obtain ⟨p, rfl, hp⟩ := u64_nat w1
  obtain ⟨v, rfl, hv⟩ := u64_nat w2
  by_cases h : W < 2 ∨ 64 < W ∨ fitsB p W = false ∨ fitsB v W = false
  · refine (matchX_out W p v hW hp hv w h).mono ?_
    rintro e w' ⟨rfl, rfl⟩
    exact ⟨rfl, Grown.refl _⟩
  · simp only [not_or, Bool.not_eq_false] at h
    obtain ⟨h1, h2, f1, f3⟩ := h
    refine (matchX_in W p v w (by omega) (by omega) f1 f3).mono ?_
    rintro e w' ⟨rfl, hg⟩
    exact ⟨rfl, hg.grown⟩
end Go.Proofs.Qxb6000010a
