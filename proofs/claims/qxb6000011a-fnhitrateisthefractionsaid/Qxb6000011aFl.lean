/-
  Plain facts on binary floating point (the model's own 'Ieee'), for positive normal float64 numbers: reading a word, rounding, sum, quotient, order. No Go in sight.
-/
import Ieee.Arith
namespace Go.Proofs.Qxb6000011a.Fl
open Ieee

/-- r is the word of the positive number k * 2^e, k of 53 binary digits -/
def IsFl (r k : Nat) (e : Int) : Prop :=
  4503599627370496 ≤ k ∧ k < 9007199254740992 ∧ -1074 ≤ e ∧ e ≤ 900 ∧ (r : Int) = (e + 1074) * 4503599627370496 + k

theorem d_sign : double.signWeight = 9223372036854775808 := by decide
theorem d_bin : double.binade = 4503599627370496 := by decide
theorem d_inf : double.infRung = 9218868437227405312 := by decide
theorem d_least : double.leastPlace = -1074 := by decide
theorem d_frac : double.fractionBits = 52 := rfl

theorem read_fl {r k : Nat} {e : Int} (h : IsFl r k e) : double.read r = .number false k e := by
  obtain ⟨h1, h2, h3, h4, h5⟩ := h
  unfold Format.read
  rw [d_sign, d_bin, d_inf, d_least]
  have e1 : r / 9223372036854775808 = 0 := by omega
  have e2 : r % 9223372036854775808 = r := by omega
  have e3 : 4503599627370496 + r % 4503599627370496 = k := by omega
  have e4 : (-1074 : Int) + ((r / 4503599627370496 - 1 : Nat) : Int) = e := by omega
  simp only [e1, e2]
  rw [if_neg (by omega), if_pos (by omega), e3, e4]
  rfl

theorem read_zero : double.read 0 = .number false 0 (-1074) := by decide

/-! ### cutting -/

theorem cut_zero (n : Nat) : Toward.even.cut false n 0 = n := by
  simp [Toward.cut]; omega

theorem cut_exact (k d : Nat) (hk : 0 < k) : Toward.even.cut false (k * 2 ^ d) d = k := by
  have hp := Nat.two_pow_pos d
  have hne : k * 2 ^ d ≠ 0 := Nat.ne_of_gt (Nat.mul_pos hk hp)
  have hl : d ≤ (k * 2 ^ d).log2 := (Nat.le_log2 hne).2 (Nat.le_mul_of_pos_left _ hk)
  have hm : min d ((k * 2 ^ d).log2 + 2) = d := by omega
  unfold Toward.cut
  simp only [hm, Nat.one_shiftLeft]
  rw [Nat.mul_div_cancel _ hp, Nat.mul_mod_left]
  simp

theorem cut_bounds (n d : Nat) (hd : d ≤ n.log2 + 2) : n / 2 ^ d ≤ Toward.even.cut false n d ∧ Toward.even.cut false n d ≤ n / 2 ^ d + 1 := by
  have hm : min d (n.log2 + 2) = d := by omega
  unfold Toward.cut
  simp only [hm, Nat.one_shiftLeft]
  generalize (decide (2 ^ d < 2 * (n % 2 ^ d)) || 2 ^ d == 2 * (n % 2 ^ d) && n / 2 ^ d % 2 == 1) = b
  cases b <;> simp

/-! ### rounding -/

theorem nearest_eq {mag : Nat} {place E : Int} (hm : mag ≠ 0) (hE : E = place + mag.log2 - 52) (h1 : -1074 ≤ E) (h2 : E ≤ 900)
    (hk : Toward.even.cut false (mag <<< (place - E).toNat) (E - place).toNat ≤ 9007199254740992) :
    (double.nearest false mag place : Int) = (E + 1074) * 4503599627370496 + (Toward.even.cut false (mag <<< (place - E).toNat) (E - place).toNat : Nat) := by
  unfold Format.nearest
  rw [if_neg hm, d_frac, d_least, d_bin, d_inf]
  have hl : max (place + (mag.log2 : Int) - ((52 : Nat) : Int)) (-1074) = E := by omega
  simp only [hl]
  generalize Toward.even.cut false (mag <<< (place - E).toNat) (E - place).toNat = kept at hk
  unfold Format.word
  simp only [Bool.false_eq_true, if_false]
  omega

theorem log2_of {n L : Nat} (h1 : 2 ^ L ≤ n) (h2 : n < 2 ^ (L + 1)) : n.log2 = L := by
  have hne : n ≠ 0 := by have := Nat.two_pow_pos L; omega
  have a := (Nat.le_log2 hne).2 h1
  have b := (Nat.log2_lt hne).2 h2
  omega

theorem log2_k {k : Nat} (h1 : 4503599627370496 ≤ k) (h2 : k < 9007199254740992) : k.log2 = 52 := log2_of (L := 52) h1 h2

theorem log2_mul (k d : Nat) (hk : k ≠ 0) : (k * 2 ^ d).log2 = k.log2 + d := by
  have hp := Nat.two_pow_pos d
  apply log2_of
  · rw [Nat.pow_add]; exact Nat.mul_le_mul_right _ (Nat.log2_self_le hk)
  · rw [show k.log2 + d + 1 = (k.log2 + 1) + d by omega, Nat.pow_add]
    exact (Nat.mul_lt_mul_right hp).2 Nat.lt_log2_self

/-- a number with no more than 53 digits is kept: the last digits are noughts -/
theorem nearest_exactA {k d : Nat} {place e : Int} (hk1 : 4503599627370496 ≤ k) (hk2 : k < 9007199254740992) (he1 : -1074 ≤ e) (he2 : e ≤ 900) (hd : e = place + d) :
    IsFl (double.nearest false (k * 2 ^ d) place) k e := by
  have hne : k * 2 ^ d ≠ 0 := Nat.ne_of_gt (Nat.mul_pos (by omega) (Nat.two_pow_pos d))
  have hE : e = place + (k * 2 ^ d).log2 - 52 := by rw [log2_mul k d (by omega), log2_k hk1 hk2]; omega
  have hc : Toward.even.cut false ((k * 2 ^ d) <<< (place - e).toNat) (e - place).toNat = k := by
    rw [show (place - e).toNat = 0 by omega, show (e - place).toNat = d by omega, Nat.shiftLeft_zero]
    exact cut_exact k d (by omega)
  have := nearest_eq hne hE he1 he2 (by rw [hc]; omega)
  rw [hc] at this
  exact ⟨hk1, hk2, he1, he2, this⟩

/-- .. or there are fewer than 53 of them -/
theorem nearest_exactB {mag d : Nat} {place e : Int} (hm : mag ≠ 0) (hk1 : 4503599627370496 ≤ mag * 2 ^ d) (hk2 : mag * 2 ^ d < 9007199254740992) (he1 : -1074 ≤ e) (he2 : e ≤ 900) (hd : place = e + d) :
    IsFl (double.nearest false mag place) (mag * 2 ^ d) e := by
  have hl := log2_mul mag d hm
  rw [log2_k hk1 hk2] at hl
  have hE : e = place + mag.log2 - 52 := by omega
  have hc : Toward.even.cut false (mag <<< (place - e).toNat) (e - place).toNat = mag * 2 ^ d := by
    rw [show (place - e).toNat = d by omega, show (e - place).toNat = 0 by omega, Nat.shiftLeft_eq]
    exact cut_zero _
  have := nearest_eq hm hE he1 he2 (by rw [hc]; omega)
  rw [hc] at this
  exact ⟨hk1, hk2, he1, he2, this⟩

/-- any number: 53 digits are kept, or it is the next power of two -/
theorem nearest_any {mag : Nat} {place E : Int} (hm : mag ≠ 0) (hE : E = place + mag.log2 - 52) (h1 : -1074 ≤ E) (h2 : E ≤ 899) :
    ∃ kept : Nat, 4503599627370496 ≤ kept ∧ kept ≤ 9007199254740992 ∧ (double.nearest false mag place : Int) = (E + 1074) * 4503599627370496 + kept ∧
      (place ≤ E → mag / 2 ^ (E - place).toNat ≤ kept) := by
  have a := Nat.log2_self_le hm
  have b : mag < 2 ^ (mag.log2 + 1) := Nat.lt_log2_self
  by_cases hp : place ≤ E
  · have hd : (E - place).toNat + 52 = mag.log2 := by omega
    have e0 : (place - E).toNat = 0 := by omega
    have hb := cut_bounds mag (E - place).toNat (by omega)
    have l1 : 4503599627370496 ≤ mag / 2 ^ (E - place).toNat := by
      rw [Nat.le_div_iff_mul_le (Nat.two_pow_pos _)]
      calc 4503599627370496 * 2 ^ (E - place).toNat = 2 ^ mag.log2 := by rw [← hd, Nat.pow_add, Nat.mul_comm]
        _ ≤ mag := a
    have l2 : mag / 2 ^ (E - place).toNat < 9007199254740992 := by
      rw [Nat.div_lt_iff_lt_mul (Nat.two_pow_pos _)]
      calc mag < 2 ^ (mag.log2 + 1) := b
        _ = 9007199254740992 * 2 ^ (E - place).toNat := by rw [← hd, show (E - place).toNat + 52 + 1 = (E - place).toNat + 53 by omega, Nat.pow_add, Nat.mul_comm]
    have hk : Toward.even.cut false (mag <<< (place - E).toNat) (E - place).toNat ≤ 9007199254740992 := by
      rw [e0, Nat.shiftLeft_zero]; omega
    have hn := nearest_eq hm hE h1 (by omega) hk
    rw [e0, Nat.shiftLeft_zero] at hn
    exact ⟨_, by omega, by omega, hn, fun _ => hb.1⟩
  · have hd : (place - E).toNat + mag.log2 = 52 := by omega
    have e0 : (E - place).toNat = 0 := by omega
    have hc : Toward.even.cut false (mag <<< (place - E).toNat) (E - place).toNat = mag * 2 ^ (place - E).toNat := by
      rw [e0, cut_zero, Nat.shiftLeft_eq]
    have l1 : 4503599627370496 ≤ mag * 2 ^ (place - E).toNat := by
      calc 4503599627370496 = 2 ^ mag.log2 * 2 ^ (place - E).toNat := by rw [← Nat.pow_add, Nat.add_comm, hd]
        _ ≤ mag * 2 ^ (place - E).toNat := Nat.mul_le_mul_right _ a
    have l2 : mag * 2 ^ (place - E).toNat < 9007199254740992 := by
      calc mag * 2 ^ (place - E).toNat < 2 ^ (mag.log2 + 1) * 2 ^ (place - E).toNat := (Nat.mul_lt_mul_right (Nat.two_pow_pos _)).2 b
        _ = 9007199254740992 := by rw [← Nat.pow_add, show mag.log2 + 1 + (place - E).toNat = 53 by omega]
    have hn := nearest_eq hm hE h1 (by omega) (by rw [hc]; omega)
    rw [hc] at hn
    exact ⟨_, l1, by omega, hn, fun h => absurd h hp⟩

theorem fl_of_kept {r kept : Nat} {E : Int} (h1 : 4503599627370496 ≤ kept) (h2 : kept ≤ 9007199254740992) (h3 : -1074 ≤ E) (h4 : E ≤ 899) (hr : (r : Int) = (E + 1074) * 4503599627370496 + kept) :
    ∃ k e, IsFl r k e ∧ E ≤ e ∧ e ≤ E + 1 := by
  by_cases h : kept < 9007199254740992
  · exact ⟨kept, E, ⟨h1, h, h3, by omega, hr⟩, by omega, by omega⟩
  · exact ⟨4503599627370496, E + 1, ⟨by omega, by omega, by omega, by omega, by omega⟩, by omega, by omega⟩

/-- rounding does not fall below a float that is no greater -/
theorem nearest_mono {mag r0 k0 d : Nat} {place E e0 : Int} (hm : mag ≠ 0) (hE : E = place + mag.log2 - 52) (h1 : -1074 ≤ E) (h2 : E ≤ 899)
    (h0 : IsFl r0 k0 e0) (hd : e0 = place + d) (hle : k0 * 2 ^ d ≤ mag) : r0 ≤ double.nearest false mag place := by
  obtain ⟨kept, q1, q2, q3, q4⟩ := nearest_any hm hE h1 h2
  obtain ⟨a1, a2, a3, a4, a5⟩ := h0
  have b : mag < 2 ^ (mag.log2 + 1) := Nat.lt_log2_self
  have c : 2 ^ (52 + d) ≤ mag := by
    calc 2 ^ (52 + d) = 4503599627370496 * 2 ^ d := by rw [Nat.pow_add]
      _ ≤ k0 * 2 ^ d := Nat.mul_le_mul_right _ a1
      _ ≤ mag := hle
  have hL : 52 + d ≤ mag.log2 := (Nat.le_log2 hm).2 c
  by_cases he : e0 = E
  · have hq := q4 (by omega)
    rw [show (E - place).toNat = d by omega] at hq
    have : k0 ≤ mag / 2 ^ d := (Nat.le_div_iff_mul_le (Nat.two_pow_pos _)).2 hle
    omega
  · omega

theorem fl_unique {r r' k : Nat} {e : Int} (h : IsFl r k e) (h' : IsFl r' k e) : r = r' := by
  have a := h.2.2.2.2
  have b := h'.2.2.2.2
  omega

/-! ### sums -/

theorem sum_num (m n : Nat) (i j : Int) : Datum.sum (.number false m i) (.number false n j) =
    some (.number false (m * 2 ^ (i - min i j).toNat + n * 2 ^ (j - min i j).toNat) (min i j)) := by
  unfold Datum.sum
  simp only [signed, Bool.false_eq_true, if_false, Nat.shiftLeft_eq, Bool.and_self]
  generalize m * 2 ^ (i - min i j).toNat = A
  generalize n * 2 ^ (j - min i j).toNat = B
  have h1 : ((A : Int) + (B : Int)).natAbs = A + B := by omega
  have h2 : (if (A : Int) + (B : Int) = 0 then false else decide ((A : Int) + (B : Int) < 0)) = false := by
    split
    · rfl
    · simp; omega
  rw [h1, h2]

theorem add_eq {a b ka kb : Nat} {ea eb : Int} (ha : double.read a = .number false ka ea) (hb : double.read b = .number false kb eb) :
    double.add a b = some (double.nearest false (ka * 2 ^ (ea - min ea eb).toNat + kb * 2 ^ (eb - min ea eb).toNat) (min ea eb)) := by
  unfold Format.add
  rw [ha, hb, sum_num]
  rfl

theorem add_zero_right {a k : Nat} {e : Int} (h : IsFl a k e) : double.add a 0 = some a := by
  obtain ⟨h1, h2, h3, h4, h5⟩ := h
  rw [add_eq (read_fl ⟨h1, h2, h3, h4, h5⟩) read_zero]
  have hm : min e (-1074) = -1074 := by omega
  rw [hm, Nat.zero_mul, Nat.add_zero]
  congr 1
  exact fl_unique (nearest_exactA h1 h2 h3 h4 (by omega)) ⟨h1, h2, h3, h4, h5⟩

theorem add_zero_left {a k : Nat} {e : Int} (h : IsFl a k e) : double.add 0 a = some a := by
  obtain ⟨h1, h2, h3, h4, h5⟩ := h
  rw [add_eq read_zero (read_fl ⟨h1, h2, h3, h4, h5⟩)]
  have hm : min (-1074) e = -1074 := by omega
  rw [hm, Nat.zero_mul, Nat.zero_add]
  congr 1
  exact fl_unique (nearest_exactA h1 h2 h3 h4 (by omega)) ⟨h1, h2, h3, h4, h5⟩

theorem add_same {a k : Nat} {e : Int} (h : IsFl a k e) (he : e ≤ 800) : ∃ s, double.add a a = some s ∧ IsFl s k (e + 1) := by
  refine ⟨_, add_eq (read_fl h) (read_fl h), ?_⟩
  have hm : min e e = e := by omega
  rw [hm, show (e - e).toNat = 0 by omega, Nat.pow_zero, Nat.mul_one, show k + k = k * 2 ^ 1 by omega]
  have := h.2.2.1
  exact nearest_exactA h.1 h.2.1 (by omega) (by omega) (by omega)

theorem add_fl {a b ka kb : Nat} {ea eb : Int} (ha : IsFl a ka ea) (hb : IsFl b kb eb) (a1 : -60 ≤ ea) (a2 : ea ≤ 20) (b1 : -60 ≤ eb) (b2 : eb ≤ 20) :
    ∃ s ks es, double.add a b = some s ∧ IsFl s ks es ∧ a ≤ s ∧ -60 ≤ es ∧ es ≤ 120 := by
  have hp1 := Nat.two_pow_pos (ea - min ea eb).toNat
  have hp2 := Nat.two_pow_pos (eb - min ea eb).toNat
  have q1 : (2 : Nat) ^ (ea - min ea eb).toNat ≤ 2 ^ 80 := Nat.pow_le_pow_right (by omega) (by omega)
  have q2 : (2 : Nat) ^ (eb - min ea eb).toNat ≤ 2 ^ 80 := Nat.pow_le_pow_right (by omega) (by omega)
  have m1 : ka ≤ ka * 2 ^ (ea - min ea eb).toNat := Nat.le_mul_of_pos_right _ hp1
  have m2 : ka * 2 ^ (ea - min ea eb).toNat ≤ 2 ^ 53 * 2 ^ 80 := Nat.mul_le_mul (Nat.le_of_lt ha.2.1) q1
  have m3 : kb * 2 ^ (eb - min ea eb).toNat ≤ 2 ^ 53 * 2 ^ 80 := Nat.mul_le_mul (Nat.le_of_lt hb.2.1) q2
  have k1 := ha.1
  have e1 := ha.2.2.1
  have e2 := hb.2.2.1
  generalize hA : ka * 2 ^ (ea - min ea eb).toNat = A at m1 m2
  generalize hB : kb * 2 ^ (eb - min ea eb).toNat = B at m3
  have hne : A + B ≠ 0 := by omega
  have lo : 52 ≤ (A + B).log2 := (Nat.le_log2 hne).2 (by omega)
  have up : (A + B).log2 < 135 := (Nat.log2_lt hne).2 (by omega)
  have hadd := add_eq (read_fl ha) (read_fl hb)
  rw [hA, hB] at hadd
  obtain ⟨kept, r1, r2, r3, _⟩ := nearest_any (place := min ea eb) (E := min ea eb + (A + B).log2 - 52) hne rfl (by omega) (by omega)
  obtain ⟨ks, es, hs, s1, s2⟩ := fl_of_kept r1 r2 (by omega) (by omega) r3
  refine ⟨_, ks, es, hadd, hs, ?_, by omega, by omega⟩
  exact nearest_mono (d := (ea - min ea eb).toNat) hne rfl (by omega) (by omega) ha (by omega) (by omega)

/-! ### whole numbers -/

theorem of_nat {h : Nat} (h0 : 0 < h) (h1 : h < 18446744073709551616) : ∃ k e, IsFl (double.nearest false h 0) k e ∧ -60 ≤ e ∧ e ≤ 20 := by
  have hne : h ≠ 0 := by omega
  have up : h.log2 < 64 := (Nat.log2_lt hne).2 h1
  obtain ⟨kept, r1, r2, r3, _⟩ := nearest_any (place := 0) (E := 0 + h.log2 - 52) hne rfl (by omega) (by omega)
  obtain ⟨ks, es, hs, s1, s2⟩ := fl_of_kept r1 r2 (by omega) (by omega) r3
  exact ⟨ks, es, hs, by omega, by omega⟩

theorem of_zero : double.nearest false 0 0 = 0 := by decide

theorem of_small {h : Nat} (h0 : 0 < h) (h1 : h < 9007199254740992) : IsFl (double.nearest false h 0) (h * 2 ^ (52 - h.log2)) ((h.log2 : Int) - 52) := by
  have hne : h ≠ 0 := by omega
  have up : h.log2 < 53 := (Nat.log2_lt hne).2 h1
  have a := Nat.log2_self_le hne
  have b : h < 2 ^ (h.log2 + 1) := Nat.lt_log2_self
  refine nearest_exactB (d := 52 - h.log2) hne ?_ ?_ (by omega) (by omega) (by omega)
  · calc 4503599627370496 = 2 ^ h.log2 * 2 ^ (52 - h.log2) := by rw [← Nat.pow_add, show h.log2 + (52 - h.log2) = 52 by omega]
      _ ≤ h * 2 ^ (52 - h.log2) := Nat.mul_le_mul_right _ a
  · calc h * 2 ^ (52 - h.log2) < 2 ^ (h.log2 + 1) * 2 ^ (52 - h.log2) := (Nat.mul_lt_mul_right (Nat.two_pow_pos _)).2 b
      _ = 9007199254740992 := by rw [← Nat.pow_add, show h.log2 + 1 + (52 - h.log2) = 53 by omega]

/-- whole numbers whose sum has no more than 53 digits add exactly -/
theorem add_small {h m : Nat} (h0 : 0 < h) (m0 : 0 < m) (hs : h + m < 9007199254740992) :
    double.add (double.nearest false h 0) (double.nearest false m 0) = some (double.nearest false (h + m) 0) := by
  have fh := of_small h0 (by omega)
  have fm := of_small m0 (by omega)
  have fs := of_small (h := h + m) (by omega) hs
  rw [add_eq (read_fl fh) (read_fl fm)]
  have uh : h.log2 < 53 := (Nat.log2_lt (by omega)).2 (by omega : h < 2 ^ 53)
  have um : m.log2 < 53 := (Nat.log2_lt (by omega)).2 (by omega : m < 2 ^ 53)
  have us : (h + m).log2 < 53 := (Nat.log2_lt (by omega)).2 hs
  have lh : h.log2 ≤ (h + m).log2 := (Nat.le_log2 (by omega)).2 (Nat.le_trans (Nat.log2_self_le (by omega)) (by omega))
  generalize hb : min ((h.log2 : Int) - 52) ((m.log2 : Int) - 52) = base
  have e1 : h * 2 ^ (52 - h.log2) * 2 ^ ((h.log2 : Int) - 52 - base).toNat = h * 2 ^ (-base).toNat := by
    rw [Nat.mul_assoc, ← Nat.pow_add]; congr 2; omega
  have e2 : m * 2 ^ (52 - m.log2) * 2 ^ ((m.log2 : Int) - 52 - base).toNat = m * 2 ^ (-base).toNat := by
    rw [Nat.mul_assoc, ← Nat.pow_add]; congr 2; omega
  have e3 : (h + m) * 2 ^ (-base).toNat = (h + m) * 2 ^ (52 - (h + m).log2) * 2 ^ (((h + m).log2 : Int) - 52 - base).toNat := by
    rw [Nat.mul_assoc, ← Nat.pow_add]; congr 2; omega
  rw [e1, e2, ← Nat.add_mul, e3]
  congr 1
  exact fl_unique (nearest_exactA fs.1 fs.2.1 fs.2.2.1 fs.2.2.2.1 (by omega)) fs

/-! ### quotients -/

/-- the digits of a quotient, with the one that tells what is left over -/
def quo (k0 k1 : Nat) : Nat := 2 * (k0 * 2 ^ 54 / k1) + (k0 * 2 ^ 54 % k1 != 0).toNat

theorem div_eq {a s k0 k1 : Nat} {e0 e1 : Int} (ha : IsFl a k0 e0) (hs : IsFl s k1 e1) :
    double.div a s = some (double.nearest false (quo k0 k1) (e0 - e1 - 55)) := by
  unfold Format.div
  rw [read_fl ha, read_fl hs, d_frac]
  unfold Datum.quotient
  have hk1 : ¬ k1 = 0 := by have := hs.1; omega
  simp only [if_neg hk1, log2_k ha.1 ha.2.1, log2_k hs.1 hs.2.1, Nat.shiftLeft_eq]
  have hp : e0 - e1 - ((52 + 2 + 52 - 52 : Nat) : Int) - 1 = e0 - e1 - 55 := by omega
  rw [hp]
  rfl

theorem bool_le (b : Bool) : b.toNat ≤ 1 := by cases b <;> decide

theorem quo_lo {k0 k1 : Nat} (h0 : 4503599627370496 ≤ k0) (h1 : k1 < 9007199254740992) (hk : 0 < k1) : 18014398509481984 ≤ quo k0 k1 := by
  have : 9007199254740992 ≤ k0 * 2 ^ 54 / k1 := by
    rw [Nat.le_div_iff_mul_le hk]; omega
  unfold quo; omega

theorem quo_up {k0 k1 : Nat} (h0 : k0 < 9007199254740992) (h1 : 4503599627370496 ≤ k1) : quo k0 k1 < 72057594037927936 := by
  have : k0 * 2 ^ 54 / k1 < 36028797018963968 := by
    rw [Nat.div_lt_iff_lt_mul (by omega)]; omega
  have hb := bool_le (k0 * 2 ^ 54 % k1 != 0)
  unfold quo; omega

theorem quo_up' {k0 k1 : Nat} (h : k0 < k1) : quo k0 k1 < 36028797018963968 := by
  have : k0 * 2 ^ 54 / k1 < 18014398509481984 := by
    rw [Nat.div_lt_iff_lt_mul (by omega)]; omega
  have hb := bool_le (k0 * 2 ^ 54 % k1 != 0)
  unfold quo; omega

theorem quo_self {k : Nat} (h : 0 < k) : quo k k = 4503599627370496 * 2 ^ 3 := by
  unfold quo
  rw [Nat.mul_div_cancel_left _ h, Nat.mul_mod_right]
  decide

theorem one_fl : IsFl 4607182418800017408 4503599627370496 (-52) := ⟨by omega, by omega, by omega, by omega, by omega⟩
theorem half_fl : IsFl 4602678819172646912 4503599627370496 (-53) := ⟨by omega, by omega, by omega, by omega, by omega⟩

theorem div_self {a k : Nat} {e : Int} (h : IsFl a k e) : double.div a a = some 4607182418800017408 := by
  rw [div_eq h h, quo_self (by have := h.1; omega)]
  congr 1
  exact fl_unique (nearest_exactA (by omega) (by omega) (by omega) (by omega) (by omega)) one_fl

theorem div_double {a s k : Nat} {e : Int} (h : IsFl a k e) (hs : IsFl s k (e + 1)) : double.div a s = some 4602678819172646912 := by
  rw [div_eq h hs, quo_self (by have := h.1; omega)]
  congr 1
  exact fl_unique (nearest_exactA (by omega) (by omega) (by omega) (by omega) (by omega)) half_fl

theorem zero_div {s k : Nat} {e : Int} (hs : IsFl s k e) : double.div 0 s = some 0 := by
  unfold Format.div
  rw [read_fl hs, read_zero]
  unfold Datum.quotient
  have hk1 : ¬ k = 0 := by have := hs.1; omega
  simp only [if_neg hk1, Nat.zero_shiftLeft, Nat.zero_div, Nat.zero_mod]
  rfl

/-- the quotient by a float that is no less lies above nought and is at most one -/
theorem div_unit {a s k0 k1 : Nat} {e0 e1 : Int} (ha : IsFl a k0 e0) (hs : IsFl s k1 e1) (hle : a ≤ s) (h0 : -60 ≤ e0) (h1 : e1 ≤ 120) :
    ∃ r k e, double.div a s = some r ∧ IsFl r k e ∧ r ≤ 4607182418800017408 := by
  obtain ⟨a1, a2, a3, a4, a5⟩ := ha
  obtain ⟨s1, s2, s3, s4, s5⟩ := hs
  have hcmp : e0 < e1 ∨ (e0 = e1 ∧ k0 ≤ k1) := by omega
  have hd := div_eq (a := a) (s := s) ⟨a1, a2, a3, a4, a5⟩ ⟨s1, s2, s3, s4, s5⟩
  have lo := quo_lo a1 s2 (by omega)
  have hne : quo k0 k1 ≠ 0 := by omega
  have l1 : 54 ≤ (quo k0 k1).log2 := (Nat.le_log2 hne).2 lo
  by_cases heq : e0 = e1 ∧ k0 = k1
  · obtain ⟨rfl, rfl⟩ := heq
    exact ⟨_, _, _, div_self (a := a) ⟨a1, a2, a3, a4, a5⟩ ▸ (by
      have : s = a := by omega
      rw [this]), one_fl, Nat.le_refl _⟩
  · have l2 : (quo k0 k1).log2 < 56 := (Nat.log2_lt hne).2 (quo_up a2 s1)
    have hE : e0 - e1 - 55 + (quo k0 k1).log2 - 52 ≤ -53 := by
      rcases hcmp with h | ⟨h, hk⟩
      · omega
      · have : (quo k0 k1).log2 < 55 := (Nat.log2_lt hne).2 (quo_up' (by omega))
        omega
    obtain ⟨kept, r1, r2, r3, _⟩ := nearest_any (place := e0 - e1 - 55) (E := e0 - e1 - 55 + (quo k0 k1).log2 - 52) hne rfl (by omega) (by omega)
    obtain ⟨ks, es, hs', t1, t2⟩ := fl_of_kept r1 r2 (by omega) (by omega) r3
    exact ⟨_, ks, es, hd, hs', by omega⟩

/-! ### order -/

theorem order_zero {r k : Nat} {e : Int} (h : IsFl r k e) : double.order r 0 = some .gt := by
  unfold Format.order
  rw [read_fl h, read_zero]
  have h3 := h.2.2.1
  have hm : min e (-1074) = -1074 := by omega
  have hk : 0 < k * 2 ^ (e - -1074).toNat := Nat.mul_pos (by have := h.1; omega) (Nat.two_pow_pos _)
  unfold Datum.order
  simp only [hm, signed, Bool.false_eq_true, if_false, Nat.shiftLeft_eq, Nat.zero_mul]
  congr 1
  rw [Int.compare_eq_gt]
  omega

theorem order_one {r k : Nat} {e : Int} (h : IsFl r k e) (hr : r ≤ 4607182418800017408) : double.order r 4607182418800017408 = some .lt ∨ double.order r 4607182418800017408 = some .eq := by
  unfold Format.order
  rw [read_fl h, read_fl one_fl]
  obtain ⟨h1, h2, h3, h4, h5⟩ := h
  unfold Datum.order
  simp only [signed, Bool.false_eq_true, if_false, Nat.shiftLeft_eq]
  by_cases he : e = -52
  · right
    have hk : k = 4503599627370496 := by omega
    subst he hk
    congr 1
  · left
    have hlt : e ≤ -53 := by omega
    have hm : min e (-52) = e := by omega
    rw [hm, show (e - e).toNat = 0 by omega]
    have hp : (2 : Nat) ^ 1 ≤ 2 ^ (-52 - e).toNat := Nat.pow_le_pow_right (by omega) (by omega)
    congr 1
    rw [Int.compare_eq_lt]
    have : 4503599627370496 * 2 ^ 1 ≤ 4503599627370496 * 2 ^ (-52 - e).toNat := Nat.mul_le_mul_left _ hp
    omega

theorem order_self {r k : Nat} {e : Int} (h : IsFl r k e) : double.order r r = some .eq := by
  unfold Format.order
  rw [read_fl h]
  unfold Datum.order
  simp only
  congr 1
  exact Int.compare_eq_eq.2 rfl

theorem order_00 : double.order 0 0 = some .eq := by decide
theorem order_01 : double.order 0 4607182418800017408 = some .lt := by decide
theorem order_11 : double.order 4607182418800017408 4607182418800017408 = some .eq := order_self one_fl
theorem order_hh : double.order 4602678819172646912 4602678819172646912 = some .eq := order_self half_fl

end Go.Proofs.Qxb6000011a.Fl
