import Derived.Test.Qxb6000011aUnit
namespace Go.Proofs.Qxb6000011a
open Go.RowKit Fl

/-- as many hits as misses: a half -/
theorem rate_same (h : Nat) (h0 : 0 < h) (h1 : h < 18446744073709551616) : Rate h h 4602678819172646912 := by
  obtain ⟨k, e, hk, _, e2⟩ := of_nat h0 h1
  obtain ⟨s, hs, hf⟩ := add_same hk (by omega)
  exact .inr ⟨.inl h0, s, hs, div_double hk hf⟩

/-- small counts: the quotient by the float of the exact total -/
theorem rate_small (h m : Nat) (h0 : 0 < h) (m0 : 0 < m) (hs : h + m < 9007199254740992) :
    ∃ r k e, Rate h m r ∧ IsFl r k e ∧ Ieee.double.div (fl h) (fl (h + m)) = some r := by
  obtain ⟨r, k, e, hr, hf, _⟩ := rate_both h m h0 (by omega) m0 (by omega)
  have ha : Ieee.double.add (fl h) (fl m) = some (fl (h + m)) := add_small h0 m0 hs
  refine ⟨r, k, e, hr, hf, ?_⟩
  rcases hr with ⟨h', _, _⟩ | ⟨_, s, hs', hd⟩
  · omega
  · rw [ha] at hs'
    cases hs'
    exact hd

set_option maxHeartbeats 400000 in
theorem frac_out (h m : Nat) (c2 c3 c4 c5 : Int) (w : World) (hh : h < 18446744073709551616) (hm : m < 18446744073709551616) (ho : 4503599627370496 < h ∨ 4503599627370496 < m) :
    Calls Try.prog 3 #[.int .u64 h, .int .u64 m, .int .u64 c2, .int .u64 c3, .int .u64 c4, .int .i64 c5] w fun e w' => e = .returned (.bool true) ∧ Gr w w' := by
  by_cases h1 : 4503599627370496 < h
  · clear ho
    go_enter Try.func3, Try.ntmps3
    go_wp2
    go_ret
    exact ⟨rfl, Gr.refl _⟩
  · have h2 : 4503599627370496 < m := by omega
    clear ho
    go_enter Try.func3, Try.ntmps3
    go_wp2
    go_ret
    exact ⟨rfl, Gr.refl _⟩

set_option maxHeartbeats 400000 in
theorem frac_nohit (m : Nat) (c2 c3 c4 c5 : Int) (w : World) (hm : m ≤ 4503599627370496) :
    Calls Try.prog 3 #[.int .u64 0, .int .u64 m, .int .u64 c2, .int .u64 c3, .int .u64 c4, .int .i64 c5] w fun e w' => e = .returned (.bool true) ∧ Gr w w' := by
  have hr := rate_nohit m (by omega)
  have o0 : FloatKind.f64.format.order 0 0 = some .eq := order_00
  by_cases m0 : 0 < m
  · go_enter Try.func3, Try.ntmps3
    go_wp2_with (go_at_call 7; refine (hitRate_any 0 m 0 c2 c3 c4 c5 _ hr).mono ?_; rintro e w' ⟨rfl, hg⟩)
    go_ret
    exact ⟨rfl, ((Gr.refl _).alloc _ _).trans hg⟩
  · have mz : m = 0 := by omega
    subst mz
    clear m0
    go_enter Try.func3, Try.ntmps3
    go_wp2_with (go_at_call 7; refine (hitRate_any 0 0 0 c2 c3 c4 c5 _ hr).mono ?_; rintro e w' ⟨rfl, hg⟩)
    go_ret
    exact ⟨rfl, ((Gr.refl _).alloc _ _).trans hg⟩

set_option maxHeartbeats 400000 in
theorem frac_nomiss (h : Nat) (c2 c3 c4 c5 : Int) (w : World) (h0 : 0 < h) (h1 : h ≤ 4503599627370496) :
    Calls Try.prog 3 #[.int .u64 h, .int .u64 0, .int .u64 c2, .int .u64 c3, .int .u64 c4, .int .i64 c5] w fun e w' => e = .returned (.bool true) ∧ Gr w w' := by
  have hr := rate_nomiss h h0 (by omega)
  have o1 : FloatKind.f64.format.order 4607182418800017408 4607182418800017408 = some .eq := order_11
  go_enter Try.func3, Try.ntmps3
  go_wp2_with (go_at_call 7; refine (hitRate_any h 0 4607182418800017408 c2 c3 c4 c5 _ hr).mono ?_; rintro e w' ⟨rfl, hg⟩)
  go_ret
  exact ⟨rfl, ((Gr.refl _).alloc _ _).trans hg⟩

set_option maxHeartbeats 400000 in
theorem frac_same (h : Nat) (c2 c3 c4 c5 : Int) (w : World) (h0 : 0 < h) (h1 : h ≤ 4503599627370496) :
    Calls Try.prog 3 #[.int .u64 h, .int .u64 h, .int .u64 c2, .int .u64 c3, .int .u64 c4, .int .i64 c5] w fun e w' => e = .returned (.bool true) ∧ Gr w w' := by
  have hr := rate_same h h0 (by omega)
  have o1 : FloatKind.f64.format.order 4602678819172646912 4602678819172646912 = some .eq := order_hh
  go_enter Try.func3, Try.ntmps3
  go_wp2_with (go_at_call 7; refine (hitRate_any h h 4602678819172646912 c2 c3 c4 c5 _ hr).mono ?_; rintro e w' ⟨rfl, hg⟩)
  go_ret
  exact ⟨rfl, ((Gr.refl _).alloc _ _).trans hg⟩

theorem floatOf_sum (h m : Nat) : floatOfInt .f64 ((h : Int) + (m : Int)) = fl (h + m) := by
  rw [← Int.natCast_add]; exact floatOf (h + m)

set_option maxHeartbeats 400000 in
theorem frac_both (h m r : Nat) (c2 c3 c4 c5 : Int) (w : World) (h0 : 0 < h) (h1 : h ≤ 4503599627370496) (m0 : 0 < m) (m1 : m ≤ 4503599627370496) (hne : ((h : Int) == (m : Int)) = false)
    (hr : Rate h m r) (o : FloatKind.f64.format.order r r = some .eq) (hd : Ieee.double.div (fl h) (fl (h + m)) = some r) :
    Calls Try.prog 3 #[.int .u64 h, .int .u64 m, .int .u64 c2, .int .u64 c3, .int .u64 c4, .int .i64 c5] w fun e w' => e = .returned (.bool true) ∧ Gr w w' := by
  have f1 := floatOf h
  have f2 := floatOf_sum h m
  have hq : ∀ t w, (binOp .quo t (.float .f64 (fl h)) (.float .f64 (fl (h + m)))).run Try.prog w = .ok (.float .f64 r) w := fun t w => run_float_arith w .quo t .f64 _ _ r hd
  clear hd
  go_enter Try.func3, Try.ntmps3
  go_wp2_with (go_at_call 7; refine (hitRate_any h m r c2 c3 c4 c5 _ hr).mono ?_; rintro e w' ⟨rfl, hg⟩)
  go_ret
  exact ⟨ret_bool (by simp), ((Gr.refl _).alloc _ _).trans hg⟩

theorem frac_walk (a0 : Int) (a1 : Int) (a2 : Int) (a3 : Int) (a4 : Int) (a5 : Int) (w0 : (Lit.int .u64 a0).wf = true) (w1 : (Lit.int .u64 a1).wf = true) (w : World) :
    Calls Try.prog 3 #[.int .u64 a0, .int .u64 a1, .int .u64 a2, .int .u64 a3, .int .u64 a4, .int .i64 a5] w fun e w' => e = .returned (.bool true) ∧ Grown w w' := by
  obtain ⟨h, rfl, hh⟩ := u64_nat w0
  obtain ⟨m, rfl, hm⟩ := u64_nat w1
  have fin : ∀ (e : Ending) (w' : World), e = .returned (.bool true) ∧ Gr w w' → e = .returned (.bool true) ∧ Grown w w' := fun _ _ q => ⟨q.1, q.2.grown⟩
  by_cases ho : 4503599627370496 < h ∨ 4503599627370496 < m
  · exact (frac_out h m a2 a3 a4 a5 w hh hm ho).mono fin
  by_cases h0 : h = 0
  · subst h0
    exact (frac_nohit m a2 a3 a4 a5 w (by omega)).mono fin
  by_cases m0 : m = 0
  · subst m0
    exact (frac_nomiss h a2 a3 a4 a5 w (by omega) (by omega)).mono fin
  by_cases he : h = m
  · subst he
    exact (frac_same h a2 a3 a4 a5 w (by omega) (by omega)).mono fin
  obtain ⟨r, k, e, hr, hf, hd⟩ := rate_small h m (by omega) (by omega) (by omega)
  have hne : ((h : Int) == (m : Int)) = false := by simp; omega
  exact (frac_both h m r a2 a3 a4 a5 w (by omega) (by omega) (by omega) (by omega) hne hr (order_self hf) hd).mono fin
end Go.Proofs.Qxb6000011a
