import Derived.Test.Qxb6000010aShift
namespace Go.Proofs.Qxb6000010a
open Go.RowKit Gf

/-- the contract with the equation turned round, so that the caller's name of the world stays -/
theorem fitsWidth_eq (x W : Nat) (hx : x < 18446744073709551616) (hW : W < 18446744073709551616) (w : World) :
    Calls Try.prog 11 #[.int .u64 x, .int .u64 W] w fun e w' => e = .returned (.bool (fitsB x W)) ∧ w = w' :=
  (fitsWidth_any x W hx hW w).mono fun _ _ h => ⟨h.1, h.2.symm⟩

set_option maxHeartbeats 400000 in
theorem agree_out (W p v : Nat) (n : Int) (hW : W < 18446744073709551616) (hp : p < 18446744073709551616) (hv : v < 18446744073709551616) (w : World)
    (h : W < 2 ∨ 64 < W ∨ n < 0 ∨ 4096 < n ∨ fitsB p W = false ∨ fitsB v W = false) :
    Calls Try.prog 9 #[.int .u64 W, .int .u64 p, .int .u64 v, .int .i64 n] w fun e w' => e = .returned (.bool true) ∧ w' = w := by
  by_cases g1 : W < 2
  · clear h
    go_enter Try.func9, Try.ntmps9
    go_wp2
    go_ret
    exact ⟨rfl, rfl⟩
  by_cases g2 : 64 < W
  · clear h
    go_enter Try.func9, Try.ntmps9
    go_wp2
    go_ret
    exact ⟨rfl, rfl⟩
  by_cases g3 : n < 0
  · clear h
    go_enter Try.func9, Try.ntmps9
    go_wp2
    go_ret
    exact ⟨rfl, rfl⟩
  by_cases g4 : 4096 < n
  · clear h
    go_enter Try.func9, Try.ntmps9
    go_wp2
    go_ret
    exact ⟨rfl, rfl⟩
  have h' : fitsB p W = false ∨ fitsB v W = false := by
    rcases h with h | h | h | h | h
    · exact absurd h g1
    · exact absurd h g2
    · exact absurd h g3
    · exact absurd h g4
    · exact h
  clear h
  cases f1 : fitsB p W
  · clear h'
    go_enter Try.func9, Try.ntmps9
    go_wp2_with (go_at_call 11; refine (fitsWidth_any _ _ (by omega) (by omega) _).mono ?_; rintro e w' ⟨rfl, rfl⟩)
    go_ret
    exact ⟨rfl, rfl⟩
  cases f3 : fitsB v W
  · clear h'
    go_enter Try.func9, Try.ntmps9
    go_wp2_with (go_at_call 11; refine (fitsWidth_any _ _ (by omega) (by omega) _).mono ?_; rintro e w' ⟨rfl, rfl⟩)
    go_ret
    exact ⟨rfl, rfl⟩
  simp [f1, f3] at h'

set_option maxHeartbeats 400000 in
theorem agree_in (W p v n : Nat) (w : World) (h1 : 2 ≤ W) (h2 : W ≤ 64) (hn : n ≤ 4096) (f1 : fitsB p W = true) (f3 : fitsB v W = true) :
    Calls Try.prog 9 #[.int .u64 W, .int .u64 p, .int .u64 v, .int .i64 n] w fun e w' => e = .returned (.bool true) ∧ Gr w w' := by
  have lp := fits_of f1
  have lv := fits_of f3
  have hp := fit W p h2 lp
  have hv := fit W v h2 lv
  go_enter Try.func9, Try.ntmps9
  go_wp2_with (go_at_call 11; refine (fitsWidth_eq _ _ (by omega) (by omega) _).mono ?_; rintro e w' ⟨rfl, rfl⟩)
  go_loopw [9, 10] (fun tx tk wr => ∃ (k x : Nat), k ≤ 8 * n ∧ Hid (x = iter p k v) ∧ x < 2 ^ W ∧ tx = .int .u64 x ∧ tk = .int .i64 k ∧ Gr w wr) (fun _ tk _ => 8 * n - (intOf tk).toNat)
  case atStart => exact ⟨0, v, by omega, rfl, lv, rfl, rfl, Gr.refl _⟩
  case round =>
    obtain ⟨k, x, hk, HI, lx, rfl, rfl, hg⟩ := hrel
    have hx := fit W x h2 lx
    by_cases hlt : k < 8 * n
    · have lx' := tx_lt p x W lp lx
      go_wp2_with (go_at_call 12; refine (zzTimesX_any _ _ _ hp hx _).mono ?_; rintro e w' ⟨rfl, hg'⟩)
      go_roundw
      case rel => exact ⟨k + 1, tx p x, by omega, by show tx p x = tx p (iter p k v); rw [HI.out], lx', rfl, by go_num, hg.trans hg'⟩
      case measure => simp [intOf]; omega
    · have HI' : Hid (x = iter p (8 * n) v) := by
        have e : k = 8 * n := by omega
        rw [← e]; exact HI
      go_wp2_with (go_at_call 15; refine (zzShift_any _ _ _ _ h1 h2 lp lv (by omega) _).mono ?_; rintro e w' ⟨rfl, hg'⟩)
      go_ret
      exact ⟨ret_bool (by rw [← HI'.out]; simp), hg.trans hg'⟩

theorem agree_walk (a0 : Int) (a1 : Int) (a2 : Int) (a3 : Int) (w0 : (Lit.int .u64 a0).wf = true) (w1 : (Lit.int .u64 a1).wf = true) (w2 : (Lit.int .u64 a2).wf = true) (w : World) :
    Calls Try.prog 9 #[.int .u64 a0, .int .u64 a1, .int .u64 a2, .int .i64 a3] w fun e w' => e = .returned (.bool true) ∧ Grown w w' := by
  obtain ⟨W, rfl, hW⟩ := u64_nat w0
  obtain ⟨p, rfl, hp⟩ := u64_nat w1
  obtain ⟨v, rfl, hv⟩ := u64_nat w2
  by_cases h : W < 2 ∨ 64 < W ∨ a3 < 0 ∨ 4096 < a3 ∨ fitsB p W = false ∨ fitsB v W = false
  · refine (agree_out W p v a3 hW hp hv w h).mono ?_
    rintro e w' ⟨rfl, rfl⟩
    exact ⟨rfl, Grown.refl _⟩
  · simp only [not_or, Bool.not_eq_false] at h
    obtain ⟨h1, h2, h3, h4, f1, f3⟩ := h
    obtain ⟨n, rfl⟩ := Int.eq_ofNat_of_zero_le (by omega : 0 ≤ a3)
    refine (agree_in W p v n w (by omega) (by omega) (by omega) f1 f3).mono ?_
    rintro e w' ⟨rfl, hg⟩
    exact ⟨rfl, hg.grown⟩
end Go.Proofs.Qxb6000010a
