import Derived.Test.Qxb6000010aTimes
namespace Go.Proofs.Qxb6000010a
open Go.RowKit Gf

/-- a word shifted left, and right, behind names -/
def sl (a i : Nat) : Nat := (a <<< i) % 2 ^ 64
def sr (a i : Nat) : Nat := a >>> i

theorem sl_lt (a i : Nat) : sl a i < 18446744073709551616 := Nat.mod_lt _ (by decide)
theorem sr_lt (a i : Nat) (h : a < 18446744073709551616) : sr a i < 18446744073709551616 := by
  unfold sr; rw [Nat.shiftRight_eq_div_pow]; exact Nat.lt_of_le_of_lt (Nat.div_le_self _ _) h

theorem wrap_sl (a i : Nat) : IntKind.u64.wrap ((a : Int) * 2 ^ i) = (sl a i : Nat) := by
  have e : ((a : Int) * 2 ^ i) = ((a * 2 ^ i : Nat) : Int) := by simp
  rw [e, IntKind.wrap_u64]
  unfold sl
  rw [Nat.shiftLeft_eq]
  omega

theorem div_sr (a i : Nat) : ((a : Int) / 2 ^ i) = (sr a i : Nat) := by
  unfold sr; rw [Nat.shiftRight_eq_div_pow]; simp

theorem sl_zero (a : Nat) (h : a < 18446744073709551616) : sl a 0 = a := by
  unfold sl; rw [Nat.shiftLeft_zero]; exact Nat.mod_eq_of_lt h

theorem sr_full (a : Nat) (h : a < 18446744073709551616) : sr a 64 = 0 := by
  unfold sr; rw [Nat.shiftRight_eq_div_pow]; exact Nat.div_eq_of_lt h

theorem jn_put (hi lo a i : Nat) (h : i < 64) : jn (hi ^^^ sr a (64 - i)) (lo ^^^ sl a i) = jn hi lo ^^^ (a <<< i) := by
  unfold sr sl; rw [jn_xor, jn_shl a i h]

theorem jn_flip_low (hi lo d : Nat) : jn hi (lo ^^^ tp d) = jn hi lo ^^^ 2 ^ d := by
  have h := jn_xor hi lo 0 (tp d)
  rw [Nat.xor_zero, jn_zero] at h
  exact h

theorem jn_flip_high (hi lo d : Nat) (h : 64 ≤ d) : jn (hi ^^^ tp (d - 64)) lo = jn hi lo ^^^ 2 ^ d := by
  have e := jn_xor hi lo (tp (d - 64)) 0
  rw [Nat.xor_zero] at e
  unfold tp at e ⊢
  rw [e, jn_pow_high d h]

theorem jn_put0 (hi lo a i : Nat) (h : a < 18446744073709551616) (h0 : i = 0) : jn hi (lo ^^^ sl a i) = jn hi lo ^^^ (a <<< i) := by
  subst h0
  have e := jn_put hi lo a 0 (by omega)
  rw [Nat.sub_zero, sr_full a h, Nat.xor_zero] at e
  exact e

theorem xor_lt (a b : Nat) (ha : a < 18446744073709551616) (hb : b < 18446744073709551616) : a ^^^ b < 18446744073709551616 :=
  Nat.xor_lt_two_pow (n := 64) ha hb

theorem keep_step {W d hi lo : Nat} (h1 : 1 ≤ W) (hd : W ≤ d) (HG : Hid (jn hi lo < 2 ^ (d + 1))) (ht : (jn hi lo).testBit d = false) : Hid (jn hi lo < 2 ^ (d - 1 + 1)) := by
  show jn hi lo < 2 ^ (d - 1 + 1)
  rw [show d - 1 + 1 = d by omega]
  exact keep_lt d _ HG.out ht

theorem flip_step {p u v W d hi lo G' : Nat} (h1 : 1 ≤ W) (lp : p < 2 ^ W) (hd : W ≤ d) (hd2 : d < 128) (HG : Hid (jn hi lo < 2 ^ (d + 1))) (HE : Hid (ev p W (jn hi lo) 128 = tms p v W u)) (ht : (jn hi lo).testBit d = true)
    (e : G' = jn hi lo ^^^ 2 ^ d ^^^ (rv p W W <<< (d - W))) : Hid (G' < 2 ^ (d - 1 + 1)) ∧ Hid (ev p W G' 128 = tms p v W u) := by
  constructor
  · show G' < 2 ^ (d - 1 + 1)
    rw [show d - 1 + 1 = d by omega, e]
    exact red_lt p W d _ hd HG.out ht
  · show ev p W G' 128 = tms p v W u
    rw [e, ev_red p W d _ h1 lp hd hd2]
    exact HE.out

set_option maxHeartbeats 400000 in
theorem revBits_any (v W : Nat) (hv : v < 18446744073709551616) (hW : W ≤ 64) (w : World) :
    Calls Try.prog 18 #[.int .u64 v, .int .u64 W] w fun e w' => e = .returned (.int .u64 (rv v W W : Nat)) ∧ w' = w := by
  go_enter Try.func18, Try.ntmps18
  go_wp2
  go_loop [5, 6] (fun tr ti => ∃ (i r : Nat), i ≤ W ∧ r = rv v W i ∧ tr = .int .u64 r ∧ ti = .int .u64 i) (fun _ ti => W - (intOf ti).toNat)
  case atStart => exact ⟨0, 0, Nat.zero_le _, rfl, rfl, rfl⟩
  case round =>
    obtain ⟨i, r, hi, hr, rfl, rfl⟩ := hrel
    have hrl := fit W r hW (by rw [hr]; exact rv_lt v W i hi)
    have HR : Hid (r = rv v W i) := hr
    clear hr
    by_cases hlt : i < W
    · have hb := bit_and v i hv
      cases hbit : v.testBit i
      · rw [hbit] at hb
        simp only [Bool.false_eq_true, if_false] at hb
        go_wp2
        go_round
        case rel => exact ⟨i + 1, r, by omega, by simp [rv, hbit, HR.out], rfl, by go_num⟩
        case measure => simp [intOf]; omega
      · rw [hbit] at hb
        simp only [if_true] at hb
        have ht := wrap_tp (W - 1 - i) (by omega)
        have ho := u64_or_nat r (tp (W - 1 - i)) hrl (tp_lt _ (by omega))
        go_wp2
        go_round
        case rel => exact ⟨i + 1, r ||| tp (W - 1 - i), by omega, by simp [rv, hbit, HR.out, tp], rfl, by go_num⟩
        case measure => simp [intOf]; omega
    · have : i = W := by omega
      subst this
      go_wp2
      go_ret
      exact ⟨ret_u64 (by rw [HR.out]), rfl⟩

set_option maxRecDepth 100000 in
set_option maxHeartbeats 1000000 in
theorem modelMul_any (W p u v : Nat) (h1 : 1 ≤ W) (hW : W ≤ 64) (lp : p < 2 ^ W) (lu : u < 2 ^ W) (lv : v < 2 ^ W) (w : World) :
    Calls Try.prog 13 #[.int .u64 W, .int .u64 p, .int .u64 u, .int .u64 v] w fun e w' => e = .returned (.int .u64 (tms p v W u : Nat)) ∧ w' = w := by
  have hp := fit W p hW lp
  have hu := fit W u hW lu
  have hv := fit W v hW lv
  have la := fit W _ hW (rv_lt u W W (Nat.le_refl _))
  have lb := fit W _ hW (rv_lt v W W (Nat.le_refl _))
  have ln := fit W _ hW (rv_lt p W W (Nat.le_refl _))
  go_enter Try.func13, Try.ntmps13
  go_wp2_with (go_at_call 18; refine (revBits_any _ _ (by omega) hW _).mono ?_; rintro e w' ⟨rfl, rfl⟩)
  go_loop [12, 13, 14] (fun th tl ti => ∃ (i hi lo : Nat), i ≤ W ∧ hi < 18446744073709551616 ∧ lo < 18446744073709551616 ∧ jn hi lo = pr (rv u W W) (rv v W W) i ∧ th = .int .u64 hi ∧ tl = .int .u64 lo ∧ ti = .int .u64 i) (fun _ _ ti => W - (intOf ti).toNat)
  case atStart => exact ⟨0, 0, 0, Nat.zero_le _, by omega, by omega, rfl, rfl, rfl, rfl⟩
  case round =>
    obtain ⟨i, hi, lo, hi', lh, ll, hj, rfl, rfl, rfl⟩ := hrel
    have HJ : Hid (jn hi lo = pr (rv u W W) (rv v W W) i) := hj
    clear hj
    by_cases hlt : i < W
    · have hb := bit_and (rv v W W) i lb
      cases hbit : (rv v W W).testBit i
      · rw [hbit] at hb
        simp only [Bool.false_eq_true, if_false] at hb
        go_wp2
        go_round
        case rel => exact ⟨i + 1, hi, lo, by omega, lh, ll, by rw [HJ.out]; simp [pr, hbit], rfl, rfl, by go_num⟩
        case measure => simp [intOf]; omega
      · rw [hbit] at hb
        simp only [if_true] at hb
        have hs := wrap_sl (rv u W W) i
        have hx := bits_xor_u64_nat lo (sl (rv u W W) i) ll (sl_lt _ _)
        have lx := xor_lt lo _ ll (sl_lt (rv u W W) i)
        by_cases h0 : 0 < i
        · have hr := div_sr (rv u W W) (64 - i)
          have hy := bits_xor_u64_nat hi (sr (rv u W W) (64 - i)) lh (sr_lt _ _ la)
          have ly := xor_lt hi _ lh (sr_lt (rv u W W) (64 - i) la)
          go_wp2
          go_round
          case rel => exact ⟨i + 1, _, _, by omega, ly, lx, by rw [jn_put _ _ _ _ (by omega), HJ.out]; simp [pr, hbit], rfl, rfl, by go_num⟩
          case measure => simp [intOf]; omega
        · go_wp2
          go_round
          case rel => exact ⟨i + 1, _, _, by omega, lh, lx, by rw [jn_put0 _ _ _ _ la (by omega), HJ.out]; simp [pr, hbit], rfl, rfl, by go_num⟩
          case measure => simp [intOf]; omega
    · have : W = i := by omega
      subst this
      have hgo := pr_lt (rv u W W) (rv v W W) W h1 (rv_lt u W W (Nat.le_refl _)) W
      have hev := ev_pr p W u v h1 hW lu lv
      rw [← HJ.out] at hgo hev
      have HG : Hid (jn hi lo < 2 ^ (W - 1 + W)) := hgo
      have HE : Hid (ev p W (jn hi lo) 128 = tms p v W u) := hev
      clear hgo hev HJ
      go_wp2
      go_loop [12, 13, 15] (fun th tl td => ∃ (d hi lo : Nat), W ≤ d + 1 ∧ d + 2 ≤ 2 * W ∧ hi < 18446744073709551616 ∧ lo < 18446744073709551616 ∧ Hid (jn hi lo < 2 ^ (d + 1)) ∧ Hid (ev p W (jn hi lo) 128 = tms p v W u) ∧ th = .int .u64 hi ∧ tl = .int .u64 lo ∧ td = .int .i64 d) (fun _ _ td => (intOf td).toNat + 1)
      case atStart =>
        exact ⟨2 * W - 2, hi, lo, by omega, by omega, lh, ll, by rw [show 2 * W - 2 + 1 = W - 1 + W by omega]; exact HG, HE, rfl, rfl, congrArg (Value.int .i64) (by omega)⟩
      case round =>
        clear HG HE lh ll
        obtain ⟨d, hi, lo, hd1, hd2, lh, ll, HG, HE, rfl, rfl, rfl⟩ := hrel
        by_cases hd : W ≤ d
        · have hs := wrap_sl (rv p W W) (d - W)
          have lsl := sl_lt (rv p W W) (d - W)
          have hr := div_sr (rv p W W) (64 - (d - W))
          have lsr := sr_lt (rv p W W) (64 - (d - W)) ln
          by_cases h64 : d < 64
          · have hb := bit_and lo d ll
            have HT : Hid ((jn hi lo).testBit d = lo.testBit d) := by
              show (jn hi lo).testBit d = lo.testBit d
              rw [jn_testBit hi lo d ll, if_pos h64]
            cases hbit : lo.testBit d
            · rw [hbit] at hb
              simp only [Bool.false_eq_true, if_false] at hb
              go_wp2
              go_round
              case rel => exact ⟨d - 1, hi, lo, by omega, by omega, lh, ll, keep_step h1 hd HG (by rw [HT.out, hbit]), HE, rfl, rfl, congrArg (Value.int .i64) (by omega)⟩
              case measure => simp [intOf]; omega
            · rw [hbit] at hb
              simp only [if_true] at hb
              have ht := wrap_tp d h64
              have hx1 := bits_xor_u64_nat lo (tp d) ll (tp_lt d h64)
              have lx1 := xor_lt lo _ ll (tp_lt d h64)
              have hx2 := bits_xor_u64_nat (lo ^^^ tp d) (sl (rv p W W) (d - W)) lx1 lsl
              have lx2 := xor_lt _ _ lx1 lsl
              by_cases h0 : W < d
              · have hx3 := bits_xor_u64_nat hi (sr (rv p W W) (64 - (d - W))) lh lsr
                have lx3 := xor_lt _ _ lh lsr
                go_wp2
                go_round
                case rel =>
                  obtain ⟨HG', HE'⟩ := flip_step h1 lp hd (by omega) HG HE (by rw [HT.out, hbit]) (G' := jn (hi ^^^ sr (rv p W W) (64 - (d - W))) (lo ^^^ tp d ^^^ sl (rv p W W) (d - W))) (by rw [jn_put _ _ _ _ (by omega), jn_flip_low])
                  exact ⟨d - 1, _, _, by omega, by omega, lx3, lx2, HG', HE', rfl, rfl, congrArg (Value.int .i64) (by omega)⟩
                case measure => simp [intOf]; omega
              · go_wp2
                go_round
                case rel =>
                  obtain ⟨HG', HE'⟩ := flip_step h1 lp hd (by omega) HG HE (by rw [HT.out, hbit]) (G' := jn hi (lo ^^^ tp d ^^^ sl (rv p W W) (d - W))) (by rw [jn_put0 _ _ _ _ ln (by omega), jn_flip_low])
                  exact ⟨d - 1, _, _, by omega, by omega, lh, lx2, HG', HE', rfl, rfl, congrArg (Value.int .i64) (by omega)⟩
                case measure => simp [intOf]; omega
          · have hb := bit_and hi (d - 64) lh
            have HT : Hid ((jn hi lo).testBit d = hi.testBit (d - 64)) := by
              show (jn hi lo).testBit d = hi.testBit (d - 64)
              rw [jn_testBit hi lo d ll, if_neg h64]
            cases hbit : hi.testBit (d - 64)
            · rw [hbit] at hb
              simp only [Bool.false_eq_true, if_false] at hb
              go_wp2
              go_round
              case rel => exact ⟨d - 1, hi, lo, by omega, by omega, lh, ll, keep_step h1 hd HG (by rw [HT.out, hbit]), HE, rfl, rfl, congrArg (Value.int .i64) (by omega)⟩
              case measure => simp [intOf]; omega
            · rw [hbit] at hb
              simp only [if_true] at hb
              have ht := wrap_tp (d - 64) (by omega)
              have hx1 := bits_xor_u64_nat hi (tp (d - 64)) lh (tp_lt (d - 64) (by omega))
              have lx1 := xor_lt hi _ lh (tp_lt (d - 64) (by omega))
              have hx2 := bits_xor_u64_nat lo (sl (rv p W W) (d - W)) ll lsl
              have lx2 := xor_lt _ _ ll lsl
              by_cases h0 : W < d
              · have hx3 := bits_xor_u64_nat (hi ^^^ tp (d - 64)) (sr (rv p W W) (64 - (d - W))) lx1 lsr
                have lx3 := xor_lt _ _ lx1 lsr
                go_wp2
                go_round
                case rel =>
                  obtain ⟨HG', HE'⟩ := flip_step h1 lp hd (by omega) HG HE (by rw [HT.out, hbit]) (G' := jn (hi ^^^ tp (d - 64) ^^^ sr (rv p W W) (64 - (d - W))) (lo ^^^ sl (rv p W W) (d - W))) (by rw [jn_put _ _ _ _ (by omega), jn_flip_high _ _ _ (by omega)])
                  exact ⟨d - 1, _, _, by omega, by omega, lx3, lx2, HG', HE', rfl, rfl, congrArg (Value.int .i64) (by omega)⟩
                case measure => simp [intOf]; omega
              · go_wp2
                go_round
                case rel =>
                  obtain ⟨HG', HE'⟩ := flip_step h1 lp hd (by omega) HG HE (by rw [HT.out, hbit]) (G' := jn (hi ^^^ tp (d - 64)) (lo ^^^ sl (rv p W W) (d - W))) (by rw [jn_put0 _ _ _ _ ln (by omega), jn_flip_high _ _ _ (by omega)])
                  exact ⟨d - 1, _, _, by omega, by omega, lx1, lx2, HG', HE', rfl, rfl, congrArg (Value.int .i64) (by omega)⟩
                case measure => simp [intOf]; omega
        · have HR : Hid (rv lo W W = tms p v W u) := by
            have e : d + 1 = W := by omega
            have hg := HG.out
            rw [e] at hg
            have hl := jn_low hi lo W ll hW hg
            have he := HE.out
            rw [hl] at he hg
            rw [ev_low p W 128 lo (by omega) hg] at he
            exact he
          go_wp2_with (go_at_call 18; refine (revBits_any _ _ ll hW _).mono ?_; rintro e w' ⟨rfl, rfl⟩)
          go_ret
          exact ⟨ret_u64 (by rw [HR.out]), rfl⟩
end Go.Proofs.Qxb6000010a
