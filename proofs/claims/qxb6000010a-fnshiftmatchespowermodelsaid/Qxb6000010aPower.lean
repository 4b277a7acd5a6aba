import Derived.Test.Qxb6000010aModel
import Derived.Test.Qxb6000010aShift
namespace Go.Proofs.Qxb6000010a
open Go.RowKit Gf

theorem half_step (n j : Nat) : n / 2 ^ j = 2 * (n / 2 ^ (j + 1)) + (if n.testBit j then 1 else 0) := by
  have e : n / 2 ^ (j + 1) = n / 2 ^ j / 2 := by rw [Nat.pow_succ, Nat.div_div_eq_div_mul]
  rw [e, Nat.testBit_eq_decide_div_mod_eq]
  by_cases h : n / 2 ^ j % 2 = 1
  · simp [h]; omega
  · simp [h]; omega

theorem modelMul_eq (W p u v : Nat) (h1 : 1 ≤ W) (hW : W ≤ 64) (lp : p < 2 ^ W) (lu : u < 2 ^ W) (lv : v < 2 ^ W) (w : World) :
    Calls Try.prog 13 #[.int .u64 W, .int .u64 p, .int .u64 u, .int .u64 v] w fun e w' => e = .returned (.int .u64 (tms p v W u : Nat)) ∧ w = w' :=
  (modelMul_any W p u v h1 hW lp lu lv w).mono fun _ _ h => ⟨h.1, h.2.symm⟩

set_option maxHeartbeats 400000 in
theorem modelPow_any (W p n : Nat) (h2 : 2 ≤ W) (hW : W ≤ 64) (lp : p < 2 ^ W) (hn : n < 1152921504606846976) (w : World) :
    Calls Try.prog 16 #[.int .u64 W, .int .u64 p, .int .i64 n] w fun e w' => e = .returned (.int .u64 (X p W (8 * n) : Nat)) ∧ w = w' := by
  have hp := fit W p hW lp
  have ho := wrap_tp (W - 1) (by omega)
  have ht := wrap_tp (W - 2) (by omega)
  have h1 : 1 ≤ W := by omega
  have HX : Hid (∀ k, X p W k < 2 ^ W) := fun k => X_lt p W k (by omega) lp
  have HM : Hid (∀ a b, tms p (X p W a) W (X p W b) = X p W (a + b)) := fun a b => tms_X_X p W a b (by omega) lp
  have H1 : Hid (tp (W - 2) = X p W 1) := by
    show tp (W - 2) = X p W 1
    rw [X_low p W 1 (by omega)]; rfl
  go_enter Try.func16, Try.ntmps16
  go_wp2
  rw [ht, H1.out]
  clear ht H1
  go_loop [7, 8] (fun tb tk => ∃ (k c : Nat), k ≤ 3 ∧ Hid (c = 2 ^ k) ∧ tb = .int .u64 (X p W c : Nat) ∧ tk = .int .i64 k) (fun _ tk => 3 - (intOf tk).toNat)
  case atStart => exact ⟨0, 1, by omega, rfl, rfl, rfl⟩
  case round =>
    obtain ⟨k, c, hk, HC, rfl, rfl⟩ := hrel
    have lk := HX.out c
    by_cases hlt : k < 3
    · have hm := HM.out c c
      have HC' : Hid (c + c = 2 ^ (k + 1)) := by
        show c + c = 2 ^ (k + 1)
        rw [Nat.pow_succ, Nat.mul_two, HC.out]
      go_wp2_with (go_at_call 13; refine (modelMul_eq _ _ _ _ h1 hW lp lk lk _).mono ?_; rintro e w' ⟨rfl, rfl⟩)
      go_round
      case rel => exact ⟨k + 1, c + c, by omega, HC', rfl, by go_num⟩
      case measure => simp [intOf]; omega
    · have : c = 8 := by
        have e : k = 3 := by omega
        rw [HC.out, e]
      subst this
      clear HC
      go_wp2
      go_loop [9, 10] (fun tr ti => ∃ (m c : Nat) (i : Int), i + 1 = m ∧ m ≤ 63 ∧ Hid (c = 8 * (n / 2 ^ m)) ∧ tr = .int .u64 (X p W c : Nat) ∧ ti = .int .i64 i) (fun _ ti => (intOf ti + 1).toNat)
      case atStart => exact ⟨63, 0, 62, by omega, by omega, by show 0 = 8 * (n / 2 ^ 63); rw [Nat.div_eq_of_lt (by omega)], rfl, rfl⟩
      case round =>
        obtain ⟨m, c, i, hm, hm2, HC, rfl, rfl⟩ := hrel
        have lc := HX.out c
        by_cases hi : i < 0
        · have HR : Hid (c = 8 * n) := by
            have e : m = 0 := by omega
            have h := HC.out
            rw [e, Nat.pow_zero, Nat.div_one] at h
            exact h
          clear hm
          go_wp2
          go_ret
          exact ⟨ret_u64 (by rw [HR.out]), rfl⟩
        · obtain ⟨j, rfl⟩ := Int.eq_ofNat_of_zero_le (by omega : 0 ≤ i)
          have e : m = j + 1 := by omega
          subst e
          clear hm hi
          have hj : j < 64 := by omega
          have hs := HM.out c c
          have lcc := HX.out (c + c)
          have hb := bit_and n j (by omega)
          cases hbit : n.testBit j
          · rw [hbit] at hb
            simp only [Bool.false_eq_true, if_false] at hb
            have HC' : Hid (c + c = 8 * (n / 2 ^ j)) := by
              have h := half_step n j
              rw [hbit] at h
              have h' := HC.out
              show c + c = 8 * (n / 2 ^ j)
              simp at h
              omega
            go_wp2_with (go_at_call 13; refine (modelMul_eq _ _ _ _ h1 hW lp (by assumption) (by assumption) _).mono ?_; rintro e w' ⟨rfl, rfl⟩)
            go_round
            case rel => exact ⟨j, c + c, _, by omega, by omega, HC', rfl, rfl⟩
            case measure => simp [intOf]
          · rw [hbit] at hb
            simp only [if_true] at hb
            have HC' : Hid (8 + (c + c) = 8 * (n / 2 ^ j)) := by
              have h := half_step n j
              rw [hbit] at h
              have h' := HC.out
              show 8 + (c + c) = 8 * (n / 2 ^ j)
              simp at h
              omega
            have hs2 := HM.out 8 (c + c)
            go_wp2_with (go_at_call 13; refine (modelMul_eq _ _ _ _ h1 hW lp (by assumption) (by assumption) _).mono ?_; rintro e w' ⟨rfl, rfl⟩)
            go_round
            case rel => exact ⟨j, 8 + (c + c), _, by omega, by omega, HC', rfl, rfl⟩
            case measure => simp [intOf]
end Go.Proofs.Qxb6000010a
