import Derived.Test.Qxb6000011aRows
import Derived.WalkKit
import Derived.WalkSpells
import Derived.WalkLawsBesides
import Derived.RowKit3
import Derived.OpenShut
import Derived.Deep.OwnRows
import Derived.Laws.CopyOwn
import Derived.BigQuiet
import Derived.Deep.QuietTactic
namespace Go.Proofs.Qxb6000011a
open Go.RowKit

theorem info5 : (Try.prog.info? 5).map (fun i => (i.zero, i.size, i.bytes)) = some (some (.int .u8 0), 1, 1) := by kernel_rfl
theorem size5 : (Try.prog.info? 5).map (·.size) = some 1 := by kernel_rfl

/-- the slice that begins at a holds the bytes ys -/
def Bytes (w : World) (a : Option Addr) (ys : List Int) : Prop :=
  ys = [] ∨ ∃ b off, a = some ⟨b, off, none⟩ ∧ ∀ i, i < ys.length → w.cell? ⟨b, off + i, none⟩ = some (.int .u8 (ys.getD i 0))

theorem Bytes.later {w w' : World} {a : Option Addr} {ys : List Int} (h : Bytes w a ys) (hb : Below w.heap.size w w') : Bytes w' a ys := by
  rcases h with h | ⟨b, off, ha, hc⟩
  · exact .inl h
  · exact .inr ⟨b, off, ha, fun i hi => (hb.cell (p := ⟨b, off + i, none⟩) (World.block_lt_of_cell? _ _ (hc i hi))).trans (hc i hi)⟩

theorem below_trans {a b c : World} (h : Below a.heap.size a b) (k : Below b.heap.size b c) : Below a.heap.size a c :=
  h.trans (k.mono h.size)

/-- the row that is being filled: the first k cells hold ys, the others nought -/
def Filled (w : World) (g n k : Nat) (ys : List Int) : Prop :=
  ∀ i, i < n → w.cell? ⟨g, i, none⟩ = some (.int .u8 (if i < k then ys.getD i 0 else 0))

theorem filled_start (w : World) (n : Nat) (ys : List Int) : Filled (w.alloc (.cells (madeCells #[.int .u8 0] n) 5)) w.heap.size n 0 ys := by
  intro i hi
  rw [if_neg (by omega)]
  simp [madeCells, hi, Nat.mod_one, World.cell?_alloc_at]

theorem filled_step {w : World} {g n k : Nat} {ys : List Int} (h : Filled w g n k ys) (hk : k < n) : Filled (w.setCell ⟨g, k, none⟩ (.int .u8 (ys.getD k 0))) g n (k + 1) ys := by
  intro i hi
  by_cases e : i = k
  · subst e
    rw [World.cell?_setCell_same _ _ _ (h i hi), if_pos (by omega)]
  · rw [World.cell?_setCell_other _ _ _ _ (by intro q; simp only [Addr.mk.injEq] at q; omega), h i hi]
    by_cases hlt : i < k
    · rw [if_pos hlt, if_pos (by omega)]
    · rw [if_neg hlt, if_neg (by omega)]

/-- nothing of block g is frozen -/
def Free (w : World) (g : Nat) : Prop := ∀ i, w.frozen? ⟨g, i, none⟩ = false

theorem free_alloc (w : World) (c : Array Value) (t : TypeId) : Free (w.alloc (.cells c t)) w.heap.size := by
  intro i
  rw [frozen?_alloc_cells]
  simp [World.frozen?]

theorem Free.setCell {w : World} {g : Nat} (h : Free w g) (a : Addr) (v : Value) : Free (w.setCell a v) g := fun i => (World.frozen?_setCell _ _ _ _).trans (h i)

set_option maxHeartbeats 400000 in
theorem clone_any (a : Option Addr) (n c : Nat) (ys : List Int) (w : World) (hl : ys.length = n) (hn : n ≤ 1048576) (hb : Bytes w a ys) (hnil : a = none → n = 0) :
    Calls Try.prog 9 #[.slice a n c] w fun e w' => ∃ a', e = .returned (.slice a' n n) ∧ Bytes w' a' ys ∧ Below w.heap.size w w' := by
  cases a with
  | none =>
    have h0 := hnil rfl
    subst h0
    have hy : ys = [] := List.eq_nil_of_length_eq_zero hl
    have heq := fun w => Lib.run_eql_slice_nil (P := Try.prog) w 29 5 none 0 c 0 0 Try.underlying29
    clear hb hnil hl
    go_enter Try.func9, Try.ntmps9
    go_wp2
    go_ret
    exact ⟨none, rfl, .inl hy, Below.refl _ _⟩
  | some x =>
    have heq := fun w => Lib.run_eql_slice_nil (P := Try.prog) w 29 5 (some x) n c 0 0 Try.underlying29
    have hmk := run_make_row' (P := Try.prog) 29 5 (.int .u8 0) 1 Try.underlying29 info5 rfl .i64 .i64 n (by omega) (by omega)
    clear hnil
    simp only [Option.isNone_some] at heq
    rcases hb with hy | ⟨b, off, hx, hc⟩
    · have h0 : n ≤ 0 := by rw [← hl, hy]; simp
      clear hl
      go_enter Try.func9, Try.ntmps9
      go_wp2
      go_loopw [4] (fun ti wr => ti = .int .i64 0 ∧ Below w.heap.size w wr) (fun _ _ => 0)
      case atStart => exact ⟨rfl, (Below.refl _ _).alloc (Nat.le_refl _) _⟩
      case round =>
        obtain ⟨rfl, hbl⟩ := hrel
        go_wp2
        go_ret
        exact ⟨_, rfl, .inl hy, hbl⟩
    · obtain rfl : x = ⟨b, off, none⟩ := by simpa using hx
      have HL : Hid (ys.length = n) := hl
      have HC : Hid (∀ i, i < ys.length → w.cell? ⟨b, off + i, none⟩ = some (.int .u8 (ys.getD i 0))) := hc
      clear hl hc hx
      go_enter Try.func9, Try.ntmps9
      go_wp2
      go_loopw [4] (fun ti wr => ∃ k : Nat, k ≤ n ∧ ti = .int .i64 k ∧ Hid (Filled wr w.heap.size n k ys) ∧ Hid (Free wr w.heap.size) ∧ Below w.heap.size w wr) (fun ti _ => n - (intOf ti).toNat)
      case atStart => exact ⟨0, by omega, rfl, filled_start w n ys, free_alloc _ _ _, (Below.refl _ _).alloc (Nat.le_refl _) _⟩
      case round =>
        obtain ⟨k, hk, rfl, HF, HR, hbl⟩ := hrel
        by_cases hlt : k < n
        · obtain ⟨z, hz⟩ : ∃ z, z = ys.getD k 0 := ⟨_, rfl⟩
          have hcw := HC.out k (by rw [HL.out]; exact hlt)
          have c0 : wr.cell? ⟨b, off + k, none⟩ = some (.int .u8 z) := by
            rw [hz]; exact (hbl.cell (p := ⟨b, off + k, none⟩) (World.block_lt_of_cell? _ _ hcw)).trans hcw
          have c1 := HF.out k hlt
          obtain ⟨old, ho⟩ : ∃ old, wr.cell? ⟨w.heap.size, k, none⟩ = some old := ⟨_, c1⟩
          have f1 : wr.frozen? ⟨w.heap.size, k, none⟩ = false := HR.out k
          have HZ : Hid (z = ys.getD k 0) := hz
          clear hcw c1 hz
          go_wp2
          go_roundw
          case rel => exact ⟨k + 1, by omega, by go_num, by rw [HZ.out]; exact filled_step HF.out hlt, HR.out.setCell _ _, hbl.setCell (Nat.le_refl _) _⟩
          case measure => simp [intOf]; omega
        · go_wp2
          go_ret
          refine ⟨_, rfl, .inr ⟨w.heap.size, 0, rfl, fun i hi => ?_⟩, hbl⟩
          rw [HL.out] at hi
          have h := HF.out i hi
          rw [if_pos (by omega)] at h
          rw [Nat.zero_add]; exact h

set_option maxHeartbeats 400000 in
theorem same_any (a b : Option Addr) (n ca cb : Nat) (ys : List Int) (w : World) (hl : ys.length = n) (hn : n ≤ 1048576) (ha : Bytes w a ys) (hb : Bytes w b ys) :
    Calls Try.prog 11 #[.slice a n ca, .slice b n cb] w fun e w' => e = .returned (.bool true) ∧ ∃ m, w' = w.drewN m := by
  by_cases h0 : n = 0
  · have h1 : n ≤ 0 := by omega
    clear h0 ha hb hl
    go_enter Try.func11, Try.ntmps11
    go_wp2
    go_loopw [5] (fun ti wr => ti = .int .i64 0 ∧ ∃ m, wr = w.drewN m) (fun _ _ => 0)
    case atStart => exact ⟨rfl, 0, rfl⟩
    case round =>
      obtain ⟨rfl, m, rfl⟩ := hrel
      go_wp2
      go_ret
      exact ⟨rfl, m, rfl⟩
  · have hne : ¬ ys = [] := by
      intro h
      rw [h] at hl
      exact h0 hl.symm
    obtain ⟨ba, oa, rfl, hca⟩ := ha.resolve_left hne
    obtain ⟨bb, ob, rfl, hcb⟩ := hb.resolve_left hne
    have HL : Hid (ys.length = n) := hl
    have HA : Hid (∀ i, i < ys.length → w.cell? ⟨ba, oa + i, none⟩ = some (.int .u8 (ys.getD i 0))) := hca
    have HB : Hid (∀ i, i < ys.length → w.cell? ⟨bb, ob + i, none⟩ = some (.int .u8 (ys.getD i 0))) := hcb
    clear hl hca hcb hne ha hb h0
    go_enter Try.func11, Try.ntmps11
    go_wp2
    go_loopw [5] (fun ti wr => ∃ k m : Nat, k ≤ n ∧ ti = .int .i64 k ∧ wr = w.drewN m) (fun ti _ => n - (intOf ti).toNat)
    case atStart => exact ⟨0, 0, by omega, rfl, rfl⟩
    case round =>
      obtain ⟨k, m, hk, rfl, rfl⟩ := hrel
      by_cases hlt : k < n
      · obtain ⟨z, hz⟩ : ∃ z, z = ys.getD k 0 := ⟨_, rfl⟩
        have c0 : w.cell? ⟨ba, oa + k, none⟩ = some (.int .u8 z) := by rw [hz]; exact HA.out k (by rw [HL.out]; exact hlt)
        have c1 : w.cell? ⟨bb, ob + k, none⟩ = some (.int .u8 z) := by rw [hz]; exact HB.out k (by rw [HL.out]; exact hlt)
        have hi : (k : Int) < (n : Int) := by omega
        clear hz
        go_wp2
        go_quiet (fail)
        go_wp2
        go_roundw
        case rel => exact ⟨k + 1, _, by omega, by go_num, rfl⟩
        case measure => simp [intOf]; omega
      · go_wp2
        go_ret
        exact ⟨rfl, m, rfl⟩

set_option maxHeartbeats 400000 in
theorem bytes_yes (a b : Option Addr) (n ca m cb : Nat) (x y : Int) (w : World) (h : n + m ≤ 1048576) :
    Calls Try.prog 8 #[.slice a n ca, .slice b m cb, .int .i64 x, .int .i64 y] w fun e w' => e = .returned (.bool true) ∧ w = w' := by
  go_enter Try.func8, Try.ntmps8
  go_wp2
  go_ret
  exact ⟨rfl, rfl⟩

set_option maxHeartbeats 400000 in
theorem bytes_no (a b : Option Addr) (n ca m cb : Nat) (x y : Int) (w : World) (h : 1048576 < n + m) (hn : n ≤ maxLen) (hm : m ≤ maxLen) :
    Calls Try.prog 8 #[.slice a n ca, .slice b m cb, .int .i64 x, .int .i64 y] w fun e w' => e = .returned (.bool false) ∧ w = w' := by
  unfold maxLen at hn hm
  by_cases h1 : 1048576 < n
  · clear h
    go_enter Try.func8, Try.ntmps8
    go_wp2
    go_ret
    exact ⟨rfl, rfl⟩
  by_cases h2 : 1048576 < m
  · clear h
    go_enter Try.func8, Try.ntmps8
    go_wp2
    go_ret
    exact ⟨rfl, rfl⟩
  go_enter Try.func8, Try.ntmps8
  go_wp2
  go_ret
  exact ⟨rfl, rfl⟩
end Go.Proofs.Qxb6000011a
