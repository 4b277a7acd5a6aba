import Derived.Test.Qxb6000011aRows
import Derived.Test.Qxb6000011aFl
import Derived.WalkKit
import Derived.WalkSpells
import Derived.WalkLawsBesides
import Derived.RowKit3
import Derived.OpenShut
namespace Go.Proofs.Qxb6000011a
open Go.RowKit Fl

theorem ret_bool {a b : Bool} (h : a = b) : Ending.returned (.bool a) = .returned (.bool b) := by rw [h]

/-- new blocks alone, none of them frozen -/
def Gr (w w' : World) : Prop := Below w.heap.size w w' ∧ ∀ a, w'.frozen? a = w.frozen? a

theorem Gr.refl (w : World) : Gr w w := ⟨Below.refl _ _, fun _ => rfl⟩

theorem Gr.trans {a b c : World} (h : Gr a b) (k : Gr b c) : Gr a c :=
  ⟨h.1.trans (k.1.mono h.1.size), fun x => (k.2 x).trans (h.2 x)⟩

theorem Gr.alloc {a w : World} (h : Gr a w) (c : Array Value) (t : TypeId) : Gr a (w.alloc (.cells c t)) :=
  ⟨h.1.alloc h.1.size _, fun x => (frozen?_alloc_cells _ _ _ x).trans (h.2 x)⟩

theorem Gr.grown {w w' : World} (h : Gr w w') : Grown w w' := ⟨h.1.frame _, h.2, h.1.size⟩

/-- a number of the kind uint64, as a natural number -/
theorem u64_nat {a : Int} (h : (Lit.int .u64 a).wf = true) : ∃ n : Nat, a = n ∧ n < 18446744073709551616 := by
  have hb : 0 ≤ a ∧ a ≤ 18446744073709551615 := bounds_u64 h
  exact ⟨a.toNat, by omega, by omega⟩

/-- the float of a count -/
def fl (h : Nat) : Nat := Ieee.double.nearest false h 0

theorem floatOf (h : Nat) : floatOfInt .f64 (h : Int) = fl h := by
  unfold floatOfInt FloatKind.nearest FloatKind.encode fl
  have e : decide ((h : Int) < 0) = false := by simp
  rw [e, Int.natAbs_natCast]
  rfl

theorem fl_zero : fl 0 = 0 := of_zero

/-- what HitRate gives, as a relation on words -/
def Rate (h m r : Nat) : Prop :=
  (h = 0 ∧ m = 0 ∧ r = 0) ∨ ((0 < h ∨ 0 < m) ∧ ∃ s, Ieee.double.add (fl h) (fl m) = some s ∧ Ieee.double.div (fl h) s = some r)

set_option maxHeartbeats 400000 in
theorem hitRate_any (h m r : Nat) (c2 c3 c4 c5 : Int) (w : World) (hr : Rate h m r) :
    Calls Try.prog 7 #[.agg #[.int .u64 h, .int .u64 m, .int .u64 c2, .int .u64 c3, .int .u64 c4, .int .i64 c5]] w fun e w' => e = .returned (.float .f64 r) ∧ Gr w w' := by
  rcases hr with ⟨rfl, rfl, rfl⟩ | ⟨hpos, s, hs, hd⟩
  · go_enter Try.func7, Try.ntmps7
    go_wp2
    go_ret
    exact ⟨rfl, (Gr.refl _).alloc _ _⟩
  · have f1 := floatOf h
    have f2 := floatOf m
    have ha : ∀ t w, (binOp .add t (.float .f64 (fl h)) (.float .f64 (fl m))).run Try.prog w = .ok (.float .f64 s) w := fun t w => run_float_arith w .add t .f64 _ _ s hs
    have hq : ∀ t w, (binOp .quo t (.float .f64 (fl h)) (.float .f64 s)).run Try.prog w = .ok (.float .f64 r) w := fun t w => run_float_arith w .quo t .f64 _ _ r hd
    clear hs hd
    by_cases h0 : 0 < h
    · clear hpos
      go_enter Try.func7, Try.ntmps7
      go_wp2_with (first | simp only [ha] | simp only [hq])
      go_ret
      exact ⟨rfl, (Gr.refl _).alloc _ _⟩
    · have hm : 0 < m := by omega
      have hz : h = 0 := by omega
      subst hz
      rw [fl_zero] at ha hq
      have f0 : floatOfInt .f64 (0 : Int) = 0 := (floatOf 0).trans fl_zero
      clear f1
      clear hpos h0
      go_enter Try.func7, Try.ntmps7
      go_wp2_with (first | simp only [ha] | simp only [hq])
      go_ret
      exact ⟨rfl, (Gr.refl _).alloc _ _⟩
end Go.Proofs.Qxb6000011a
