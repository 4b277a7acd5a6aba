import Derived.Test.Qxb6000010aTimes
namespace Go.Proofs.Qxb6000010a
open Go.RowKit Gf

theorem half_tp (p W : Nat) (h : 2 ≤ W) : ((tp (W - 1) : Int) / 2) = (X p W 1 : Nat) := by
  rw [X_low p W 1 (by omega)]
  unfold tp
  have e : 2 ^ (W - 1) = 2 * 2 ^ (W - 1 - 1) := by
    rw [← Nat.pow_succ']; congr 1; omega
  rw [e]; omega

theorem even_step (a b e : Nat) (h : e % 2 = 0) : a + (b + b) * (e / 2) = a + b * e := by
  have e1 : e = 2 * (e / 2) := by omega
  generalize e / 2 = q at e1
  subst e1
  rw [← Nat.mul_assoc, Nat.mul_comm b 2, Nat.two_mul]

theorem odd_step (a b e : Nat) (h : e % 2 = 1) : a + b + (b + b) * (e / 2) = a + b * e := by
  have e1 : e = 2 * (e / 2) + 1 := by omega
  generalize e / 2 = q at e1
  subst e1
  rw [Nat.mul_add, ← Nat.mul_assoc, Nat.mul_comm b 2, Nat.mul_one, Nat.two_mul]; omega

set_option maxHeartbeats 400000 in
theorem shift_any (W p v n : Nat) (h2 : 2 ≤ W) (hW : W ≤ 64) (lp : p < 2 ^ W) (lv : v < 2 ^ W) (hn : n < 1152921504606846976) (w : World) :
    Calls Try.prog 20 #[.agg #[.int .u64 W, .int .u64 p], .int .u64 v, .int .i64 n] w fun e w' => e = .returned (.int .u64 (iter p (8 * n) v : Nat)) ∧ Gr w w' := by
  have hp := fit W p hW lp
  have hv := fit W v hW lv
  have ho := wrap_tp (W - 1) (by omega)
  have hh := half_tp p W h2
  have lX : ∀ k, X p W k < 2 ^ W := fun k => X_lt p W k (by omega) lp
  have HX : Hid (∀ k, X p W k < 2 ^ W) := lX
  clear lX
  go_enter Try.func20, Try.ntmps20
  go_wp2
  go_loopw [8, 9, 10] (fun tf tq te wr => ∃ (a b e : Nat), Hid (a + b * e = 8 * n) ∧ e < 18446744073709551616 ∧ tf = .int .u64 (X p W a : Nat) ∧ tq = .int .u64 (X p W b : Nat) ∧ te = .int .u64 e ∧ Gr (w.alloc (Obj.cells #[Value.int IntKind.u64 ↑W, Value.int IntKind.u64 ↑p] 35)) wr) (fun _ _ te _ => (intOf te).toNat)
  case atStart => exact ⟨0, 1, n * 8, by show 0 + 1 * (n * 8) = 8 * n; omega, by omega, rfl, rfl, by go_num, Gr.refl _⟩
  case round =>
    obtain ⟨a, b, e, HE, le, rfl, rfl, rfl, hg⟩ := hrel
    have c0 : wr.cell? ⟨w.heap.size, 0, none⟩ = some (.int .u64 W) := by rw [hg.cell _ _ (by simp)]; simp
    have c1 : wr.cell? ⟨w.heap.size, 1, none⟩ = some (.int .u64 p) := by rw [hg.cell _ _ (by simp)]; simp
    have la := HX.out a
    have lb := HX.out b
    have la' := fit W _ hW la
    have lb' := fit W _ hW lb
    clear hh ho
    by_cases h0 : e = 0
    · subst h0
      have HR : Hid (tms p v W (X p W a) = iter p (8 * n) v) := by
        have h := HE.out
        rw [Nat.mul_zero, Nat.add_zero] at h
        show tms p v W (X p W a) = iter p (8 * n) v
        rw [tms_X_right p W v a lv, h]
      go_wp2_with (go_at_call 19; refine (times_any _ _ _ _ hW lp hv la _).mono ?_; rintro e w' ⟨rfl, hg'⟩)
      go_ret
      exact ⟨ret_u64 (by rw [HR.out]), ((Gr.refl _).alloc _ _).trans (hg.trans hg')⟩
    · have hpos : 0 < e := by omega
      have hb := and_one_u64 e (by omega) (by omega)
      have e2 := tms_X_X p W b b (by omega) lp
      have hm : ((e : Int) % 2) = 0 ∨ ((e : Int) % 2) = 1 := by omega
      rcases hm with hm | hm
      · rw [hm] at hb
        have HE' : Hid (a + (b + b) * (e / 2) = 8 * n) := (even_step a b e (by omega)).trans HE.out
        clear hm
        go_wp2_with (go_at_call 19; refine (times_any _ _ _ _ hW lp (by assumption) (by assumption) _).mono ?_; rintro e w' ⟨rfl, hg'⟩)
        go_roundw
        case rel => exact ⟨a, b + b, e / 2, HE', by omega, rfl, rfl, by go_num, hg.trans hg'⟩
        case measure => simp [intOf]; omega
      · rw [hm] at hb
        have HE' : Hid (a + b + (b + b) * (e / 2) = 8 * n) := (odd_step a b e (by omega)).trans HE.out
        have e1 := tms_X_X p W a b (by omega) lp
        clear hm
        go_wp2_with fail
        refine (times_any _ _ _ _ hW lp la' lb _).mono ?_
        rintro x w1 ⟨rfl, hg1⟩
        have d0 : w1.cell? ⟨w.heap.size, 0, none⟩ = some (.int .u64 W) := by rw [(hg.trans hg1).cell _ _ (by simp)]; simp
        have d1 : w1.cell? ⟨w.heap.size, 1, none⟩ = some (.int .u64 p) := by rw [(hg.trans hg1).cell _ _ (by simp)]; simp
        go_wp2_with (go_at_call 19; refine (times_any _ _ _ _ hW lp lb' lb _).mono ?_; rintro e w' ⟨rfl, hg'⟩)
        go_roundw
        case rel => exact ⟨a + b, b + b, e / 2, HE', by omega, rfl, rfl, by go_num, (hg.trans hg1).trans hg'⟩
        case measure => simp [intOf]; omega

set_option maxHeartbeats 400000 in
theorem zzShift_any (W p v n : Nat) (h2 : 2 ≤ W) (hW : W ≤ 64) (lp : p < 2 ^ W) (lv : v < 2 ^ W) (hn : n < 1152921504606846976) (w : World) :
    Calls Try.prog 15 #[.int .u64 W, .int .u64 p, .int .u64 v, .int .i64 n] w fun e w' => e = .returned (.int .u64 (iter p (8 * n) v : Nat)) ∧ Gr w w' := by
  go_enter Try.func15, Try.ntmps15
  go_wp2_with (go_at_call 20; refine (shift_any _ _ _ _ h2 hW lp lv hn _).mono ?_; rintro e w' ⟨rfl, hg⟩)
  go_ret
  exact ⟨rfl, hg⟩
end Go.Proofs.Qxb6000010a
