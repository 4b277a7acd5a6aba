import Derived.Test.Qxb6000011aRate
namespace Go.Proofs.Qxb6000011a
open Go.RowKit Fl

/-- no hit: nought -/
theorem rate_nohit (m : Nat) (hm : m < 18446744073709551616) : Rate 0 m 0 := by
  by_cases h : m = 0
  · exact .inl ⟨rfl, h, rfl⟩
  · obtain ⟨k, e, hk, _, _⟩ := of_nat (h := m) (by omega) hm
    refine .inr ⟨.inr (by omega), _, ?_, zero_div hk⟩
    rw [fl_zero]
    exact add_zero_left hk

/-- no miss: one -/
theorem rate_nomiss (h : Nat) (h0 : 0 < h) (h1 : h < 18446744073709551616) : Rate h 0 4607182418800017408 := by
  obtain ⟨k, e, hk, _, _⟩ := of_nat h0 h1
  refine .inr ⟨.inl h0, fl h, ?_, div_self hk⟩
  rw [fl_zero]
  exact add_zero_right hk

/-- both: above nought, at most one -/
theorem rate_both (h m : Nat) (h0 : 0 < h) (h1 : h < 18446744073709551616) (m0 : 0 < m) (m1 : m < 18446744073709551616) :
    ∃ r k e, Rate h m r ∧ IsFl r k e ∧ r ≤ 4607182418800017408 := by
  obtain ⟨ka, ea, ha, a1, a2⟩ := of_nat h0 h1
  obtain ⟨kb, eb, hb, b1, b2⟩ := of_nat m0 m1
  obtain ⟨s, ks, es, hs, hf, hle, s1, s2⟩ := add_fl ha hb a1 a2 b1 b2
  obtain ⟨r, k, e, hd, hr, hle'⟩ := div_unit ha hf hle a1 s2
  exact ⟨r, k, e, .inr ⟨.inl h0, s, hs, hd⟩, hr, hle'⟩

set_option maxHeartbeats 400000 in
theorem unit_nohit (m : Nat) (hm : m < 18446744073709551616) (w : World) :
    Calls Try.prog 4 #[.int .u64 0, .int .u64 m] w fun e w' => e = .returned (.bool true) ∧ Gr w w' := by
  have hr := rate_nohit m hm
  have o0 : FloatKind.f64.format.order 0 0 = some .eq := order_00
  have o1 : FloatKind.f64.format.order 0 4607182418800017408 = some .lt := order_01
  go_enter Try.func4, Try.ntmps4
  go_wp2_with (go_at_call 7; refine (hitRate_any 0 m 0 0 0 0 0 _ hr).mono ?_; rintro e w' ⟨rfl, hg⟩)
  go_ret
  exact ⟨rfl, hg⟩

set_option maxHeartbeats 400000 in
theorem unit_nomiss (h : Nat) (h0 : 0 < h) (h1 : h < 18446744073709551616) (w : World) :
    Calls Try.prog 4 #[.int .u64 h, .int .u64 0] w fun e w' => e = .returned (.bool true) ∧ Gr w w' := by
  have hr := rate_nomiss h h0 h1
  have o0 : FloatKind.f64.format.order 4607182418800017408 0 = some .gt := order_zero one_fl
  have o1 : FloatKind.f64.format.order 4607182418800017408 4607182418800017408 = some .eq := order_11
  go_enter Try.func4, Try.ntmps4
  go_wp2_with (go_at_call 7; refine (hitRate_any h 0 4607182418800017408 0 0 0 0 _ hr).mono ?_; rintro e w' ⟨rfl, hg⟩)
  go_ret
  exact ⟨rfl, hg⟩

set_option maxHeartbeats 400000 in
theorem unit_both (h m r : Nat) (o : Ordering) (h0 : 0 < h) (m0 : 0 < m) (hr : Rate h m r) (o0 : FloatKind.f64.format.order r 0 = some .gt) (o1 : FloatKind.f64.format.order r 4607182418800017408 = some o) (ho : o = .lt ∨ o = .eq) (w : World) :
    Calls Try.prog 4 #[.int .u64 h, .int .u64 m] w fun e w' => e = .returned (.bool true) ∧ Gr w w' := by
  rcases ho with rfl | rfl
  · go_enter Try.func4, Try.ntmps4
    go_wp2_with (go_at_call 7; refine (hitRate_any h m r 0 0 0 0 _ hr).mono ?_; rintro e w' ⟨rfl, hg⟩)
    go_ret
    exact ⟨rfl, hg⟩
  · go_enter Try.func4, Try.ntmps4
    go_wp2_with (go_at_call 7; refine (hitRate_any h m r 0 0 0 0 _ hr).mono ?_; rintro e w' ⟨rfl, hg⟩)
    go_ret
    exact ⟨rfl, hg⟩

theorem unit_walk (a0 : Int) (a1 : Int) (w0 : (Lit.int .u64 a0).wf = true) (w1 : (Lit.int .u64 a1).wf = true) (w : World) :
    Calls Try.prog 4 #[.int .u64 a0, .int .u64 a1] w fun e w' => e = .returned (.bool true) ∧ Grown w w' := by
  obtain ⟨h, rfl, hh⟩ := u64_nat w0
  obtain ⟨m, rfl, hm⟩ := u64_nat w1
  by_cases h0 : h = 0
  · subst h0
    refine (unit_nohit m hm w).mono ?_
    rintro e w' ⟨rfl, hg⟩
    exact ⟨rfl, hg.grown⟩
  by_cases m0 : m = 0
  · subst m0
    refine (unit_nomiss h (by omega) hh w).mono ?_
    rintro e w' ⟨rfl, hg⟩
    exact ⟨rfl, hg.grown⟩
  obtain ⟨r, k, e, hr, hf, hle⟩ := rate_both h m (by omega) hh (by omega) hm
  have o0 := order_zero hf
  rcases order_one hf hle with o1 | o1
  · refine (unit_both h m r .lt (by omega) (by omega) hr o0 o1 (.inl rfl) w).mono ?_
    rintro e w' ⟨rfl, hg⟩
    exact ⟨rfl, hg.grown⟩
  · refine (unit_both h m r .eq (by omega) (by omega) hr o0 o1 (.inr rfl) w).mono ?_
    rintro e w' ⟨rfl, hg⟩
    exact ⟨rfl, hg.grown⟩
end Go.Proofs.Qxb6000011a
