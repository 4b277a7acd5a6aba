import Derived.Test.Qxb6000010aTimes
namespace Go.Proofs.Qxb6000010a
open Go.RowKit Gf

set_option maxHeartbeats 400000 in
theorem dist_out (W p u v t : Nat) (hW : W < 18446744073709551616) (hp : p < 18446744073709551616) (hu : u < 18446744073709551616) (hv : v < 18446744073709551616) (ht : t < 18446744073709551616) (w : World)
    (h : W < 1 ∨ 64 < W ∨ fitsB p W = false ∨ fitsB u W = false ∨ fitsB v W = false ∨ fitsB t W = false) :
    Calls Try.prog 7 #[.int .u64 W, .int .u64 p, .int .u64 u, .int .u64 v, .int .u64 t] w fun e w' => e = .returned (.bool true) ∧ w' = w := by
  by_cases g1 : W < 1
  · clear h
    go_enter Try.func7, Try.ntmps7
    go_wp2
    go_ret
    exact ⟨rfl, rfl⟩
  by_cases g2 : 64 < W
  · clear h
    go_enter Try.func7, Try.ntmps7
    go_wp2
    go_ret
    exact ⟨rfl, rfl⟩
  have h' : fitsB p W = false ∨ fitsB u W = false ∨ fitsB v W = false ∨ fitsB t W = false := by
    rcases h with h | h | h
    · exact absurd h g1
    · exact absurd h g2
    · exact h
  clear h
  cases f1 : fitsB p W
  · clear h'
    go_enter Try.func7, Try.ntmps7
    go_wp2_with (go_at_call 11; refine (fitsWidth_any _ _ (by omega) (by omega) _).mono ?_; rintro e w' ⟨rfl, rfl⟩)
    go_ret
    exact ⟨rfl, rfl⟩
  cases f2 : fitsB u W
  · clear h'
    go_enter Try.func7, Try.ntmps7
    go_wp2_with (go_at_call 11; refine (fitsWidth_any _ _ (by omega) (by omega) _).mono ?_; rintro e w' ⟨rfl, rfl⟩)
    go_ret
    exact ⟨rfl, rfl⟩
  cases f3 : fitsB v W
  · clear h'
    go_enter Try.func7, Try.ntmps7
    go_wp2_with (go_at_call 11; refine (fitsWidth_any _ _ (by omega) (by omega) _).mono ?_; rintro e w' ⟨rfl, rfl⟩)
    go_ret
    exact ⟨rfl, rfl⟩
  cases f4 : fitsB t W
  · clear h'
    go_enter Try.func7, Try.ntmps7
    go_wp2_with (go_at_call 11; refine (fitsWidth_any _ _ (by omega) (by omega) _).mono ?_; rintro e w' ⟨rfl, rfl⟩)
    go_ret
    exact ⟨rfl, rfl⟩
  simp [f1, f2, f3, f4] at h'

set_option maxHeartbeats 400000 in
theorem dist_in (W p u v t : Nat) (w : World) (h1 : 1 ≤ W) (h2 : W ≤ 64) (f1 : fitsB p W = true) (f2 : fitsB u W = true) (f3 : fitsB v W = true) (f4 : fitsB t W = true) :
    Calls Try.prog 7 #[.int .u64 W, .int .u64 p, .int .u64 u, .int .u64 v, .int .u64 t] w fun e w' => e = .returned (.bool true) ∧ Gr w w' := by
  have lp := fits_of f1
  have lu := fits_of f2
  have lv := fits_of f3
  have lt := fits_of f4
  have hp := fit W p h2 lp
  have hu := fit W u h2 lu
  have hv := fit W v h2 lv
  have ht := fit W t h2 lt
  have ho := wrap_tp (W - 1) (by omega)
  have hx := bits_xor_u64_nat v t hv ht
  have lx := Nat.xor_lt_two_pow lv lt
  have e1 : tms p (tp (W - 1)) W v = v := tms_one_left p W v h1
  have ea := tms_lt p u W lp W v lv
  have eb := tms_lt p u W lp W t lt
  have ex := bits_xor_u64_nat (tms p u W v) (tms p u W t) (fit W _ h2 ea) (fit W _ h2 eb)
  have H2 : Hid (tms p u W (v ^^^ t) = tms p u W v ^^^ tms p u W t) := (tms_lin p u W).2 v t
  have htp := tp_lt (W - 1) (by omega)
  clear ea eb
  go_enter Try.func7, Try.ntmps7
  go_wp2_with (first | (go_at_call 11; refine (fitsWidth_any _ _ (by omega) (by omega) _).mono ?_; rintro e w' ⟨rfl, rfl⟩) | (go_at_call 14; refine (zzTimes_any _ _ _ _ h2 lp (by omega) (by assumption) _).mono ?_; rintro e w' ⟨rfl, hg⟩))
  go_ret
  refine ⟨ret_bool (by rw [H2.out]; simp), ?_⟩
  repeat (first | exact Gr.refl _ | refine Gr.trans ?_ (by assumption))

theorem dist_walk (a0 : Int) (a1 : Int) (a2 : Int) (a3 : Int) (a4 : Int) (w0 : (Lit.int .u64 a0).wf = true) (w1 : (Lit.int .u64 a1).wf = true) (w2 : (Lit.int .u64 a2).wf = true) (w3 : (Lit.int .u64 a3).wf = true) (w4 : (Lit.int .u64 a4).wf = true) (w : World) :
    Calls Try.prog 7 #[.int .u64 a0, .int .u64 a1, .int .u64 a2, .int .u64 a3, .int .u64 a4] w fun e w' => e = .returned (.bool true) ∧ Grown w w' := by
  obtain ⟨W, rfl, hW⟩ := u64_nat w0
  obtain ⟨p, rfl, hp⟩ := u64_nat w1
  obtain ⟨u, rfl, hu⟩ := u64_nat w2
  obtain ⟨v, rfl, hv⟩ := u64_nat w3
  obtain ⟨t, rfl, ht⟩ := u64_nat w4
  by_cases h : W < 1 ∨ 64 < W ∨ fitsB p W = false ∨ fitsB u W = false ∨ fitsB v W = false ∨ fitsB t W = false
  · refine (dist_out W p u v t hW hp hu hv ht w h).mono ?_
    rintro e w' ⟨rfl, rfl⟩
    exact ⟨rfl, Grown.refl _⟩
  · simp only [not_or, Bool.not_eq_false] at h
    obtain ⟨h1, h2, f1, f2, f3, f4⟩ := h
    refine (dist_in W p u v t w (by omega) (by omega) f1 f2 f3 f4).mono ?_
    rintro e w' ⟨rfl, hg⟩
    exact ⟨rfl, hg.grown⟩
end Go.Proofs.Qxb6000010a
