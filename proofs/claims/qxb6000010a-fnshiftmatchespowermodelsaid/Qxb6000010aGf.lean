/-
  The plain mathematics of the seat: remainders modulo a polynomial over the field of two elements, as natural numbers under xor. No Go in sight.
-/
namespace Go.Proofs.Qxb6000010a.Gf

/-- one step of the reflected shift register -/
def tx (p v : Nat) : Nat := if v % 2 = 1 then (v / 2) ^^^ p else v / 2

/-- k steps -/
def iter (p : Nat) : Nat → Nat → Nat
  | 0, v => v
  | k + 1, v => tx p (iter p k v)

/-- the product loop over the bits n-1 .. 0 of u -/
def tms (p u : Nat) : Nat → Nat → Nat
  | 0, _ => 0
  | n + 1, v => (if u.testBit n then v else 0) ^^^ tms p u n (tx p v)

/-- xor-linear -/
def Lin (f : Nat → Nat) : Prop := f 0 = 0 ∧ ∀ a b, f (a ^^^ b) = f a ^^^ f b

theorem xor4 (a b c d : Nat) : (a ^^^ b) ^^^ (c ^^^ d) = (a ^^^ c) ^^^ (b ^^^ d) := by
  rw [Nat.xor_assoc, Nat.xor_assoc, ← Nat.xor_assoc b c d, Nat.xor_comm b c, Nat.xor_assoc c b d]

theorem mod2_testBit (v : Nat) : (v % 2 = 1) ↔ v.testBit 0 = true := by
  rw [Nat.testBit_zero]; simp

theorem tx_testBit (p v j : Nat) : (tx p v).testBit j = (v.testBit (j + 1) ^^ (v.testBit 0 && p.testBit j)) := by
  unfold tx
  by_cases h : v % 2 = 1
  · have h' := (mod2_testBit v).1 h
    rw [if_pos h, Nat.testBit_xor, h', Nat.testBit_div_two]; simp
  · have h' : v.testBit 0 = false := by
      cases e : v.testBit 0
      · rfl
      · exact absurd ((mod2_testBit v).2 e) h
    rw [if_neg h, h', Nat.testBit_div_two]; simp

theorem tx_lin (p : Nat) : Lin (tx p) := by
  refine ⟨by simp [tx], fun a b => ?_⟩
  apply Nat.eq_of_testBit_eq
  intro j
  rw [tx_testBit, Nat.testBit_xor, Nat.testBit_xor, Nat.testBit_xor, tx_testBit, tx_testBit]
  cases a.testBit (j + 1) <;> cases b.testBit (j + 1) <;> cases a.testBit 0 <;> cases b.testBit 0 <;> cases p.testBit j <;> rfl

theorem Lin.comp {f g : Nat → Nat} (hf : Lin f) (hg : Lin g) : Lin (fun x => f (g x)) :=
  ⟨by show f (g 0) = 0; rw [hg.1, hf.1], fun a b => by show f (g (a ^^^ b)) = _; rw [hg.2, hf.2]⟩

theorem Lin.add {f g : Nat → Nat} (hf : Lin f) (hg : Lin g) : Lin (fun x => f x ^^^ g x) :=
  ⟨by show f 0 ^^^ g 0 = 0; rw [hg.1, hf.1]; rfl, fun a b => by show f (a ^^^ b) ^^^ g (a ^^^ b) = _; rw [hg.2, hf.2, xor4]⟩

theorem Lin.bit (k c : Nat) : Lin (fun x => if x.testBit k then c else 0) := by
  refine ⟨by simp, fun a b => ?_⟩
  show (if (a ^^^ b).testBit k then c else 0) = (if a.testBit k then c else 0) ^^^ (if b.testBit k then c else 0)
  rw [Nat.testBit_xor]
  cases a.testBit k <;> cases b.testBit k <;> simp

theorem Lin.ite (t : Bool) : Lin (fun x => if t then x else 0) := by
  refine ⟨by simp, fun a b => ?_⟩
  show (if t then a ^^^ b else 0) = (if t then a else 0) ^^^ (if t then b else 0)
  cases t <;> simp

theorem Lin.id : Lin (fun x => x) := ⟨rfl, fun _ _ => rfl⟩

theorem Lin.zero : Lin (fun _ => 0) := ⟨rfl, fun _ _ => (Nat.xor_self 0).symm⟩

/-- a number below 2^(w+1) with the top bit, split at it -/
theorem split_top (w u : Nat) (h : u < 2 ^ (w + 1)) (hw : 2 ^ w ≤ u) : ∃ r, r < 2 ^ w ∧ u = 2 ^ w ^^^ r := by
  refine ⟨u % 2 ^ w, Nat.mod_lt _ (Nat.two_pow_pos _), ?_⟩
  apply Nat.eq_of_testBit_eq
  intro j
  have htop : u.testBit w = true := by
    rw [Nat.testBit_eq_decide_div_mod_eq]
    have : u / 2 ^ w = 1 := by
      rw [Nat.div_eq_iff (Nat.two_pow_pos _)]
      rw [Nat.pow_succ] at h; omega
    rw [this]; rfl
  rw [Nat.testBit_xor, Nat.testBit_mod_two_pow, Nat.testBit_two_pow]
  rcases Nat.lt_trichotomy j w with hj | hj | hj
  · have : ¬ w = j := by omega
    simp [hj, this]
  · subst hj; simp [htop]
  · have h1 : ¬ w = j := by omega
    have h2 : ¬ j < w := by omega
    have h3 : u.testBit j = false := Nat.testBit_lt_two_pow (Nat.lt_of_lt_of_le h (Nat.pow_le_pow_right (by omega) (by omega)))
    simp [h1, h2, h3]

/-- two linear maps that agree at the powers of two below 2^w agree below 2^w -/
theorem lin_ext {f g : Nat → Nat} (hf : Lin f) (hg : Lin g) : ∀ w, (∀ j, j < w → f (2 ^ j) = g (2 ^ j)) → ∀ u, u < 2 ^ w → f u = g u
  | 0, _, u, hu => by
    have : u = 0 := by simpa using hu
    rw [this, hf.1, hg.1]
  | w + 1, h, u, hu => by
    by_cases hw : 2 ^ w ≤ u
    · obtain ⟨r, hr, rfl⟩ := split_top w u hu hw
      rw [hf.2, hg.2, h w (Nat.lt_succ_self _), lin_ext hf hg w (fun j hj => h j (Nat.lt_succ_of_lt hj)) r hr]
    · exact lin_ext hf hg w (fun j hj => h j (Nat.lt_succ_of_lt hj)) u (by omega)

/-! ### the steps -/

theorem iter_lin (p : Nat) : ∀ k, Lin (iter p k)
  | 0 => Lin.id
  | k + 1 => (tx_lin p).comp (iter_lin p k)

theorem iter_succ' (p : Nat) : ∀ k v, iter p (k + 1) v = iter p k (tx p v)
  | 0, _ => rfl
  | k + 1, v => by show tx p (iter p (k + 1) v) = tx p (iter p k (tx p v)); rw [iter_succ' p k v]

theorem iter_add (p a : Nat) : ∀ b v, iter p (a + b) v = iter p a (iter p b v)
  | 0, _ => rfl
  | b + 1, v => by
    show iter p (a + b + 1) v = _
    rw [iter_succ', iter_add p a b, ← iter_succ']

theorem tms_lin (p u : Nat) : ∀ n, Lin (tms p u n)
  | 0 => Lin.zero
  | n + 1 => (Lin.ite (u.testBit n)).add ((tms_lin p u n).comp (tx_lin p))

theorem tms_tx (p u : Nat) : ∀ n v, tms p u n (tx p v) = tx p (tms p u n v)
  | 0, _ => (tx_lin p).1.symm
  | n + 1, v => by
    show (if u.testBit n then tx p v else 0) ^^^ tms p u n (tx p (tx p v)) = tx p ((if u.testBit n then v else 0) ^^^ tms p u n (tx p v))
    rw [(tx_lin p).2, tms_tx p u n (tx p v)]
    congr 1
    cases u.testBit n
    · exact (tx_lin p).1.symm
    · rfl

theorem tms_iter (p u n : Nat) : ∀ k v, tms p u n (iter p k v) = iter p k (tms p u n v)
  | 0, _ => rfl
  | k + 1, v => by
    show tms p u n (tx p (iter p k v)) = tx p (iter p k (tms p u n v))
    rw [tms_tx, tms_iter p u n k v]

theorem tms_lin_left (p : Nat) : ∀ n, ∀ v, Lin (fun u => tms p u n v)
  | 0, _ => Lin.zero
  | n + 1, v => (Lin.bit n v).add (tms_lin_left p n (tx p v))

/-- below its one bit a power of two gives nothing -/
theorem tms_pow_low (p j : Nat) : ∀ n v, n ≤ j → tms p (2 ^ j) n v = 0
  | 0, _, _ => rfl
  | n + 1, v, h => by
    show (if (2 ^ j).testBit n then v else 0) ^^^ tms p (2 ^ j) n (tx p v) = 0
    rw [tms_pow_low p j n (tx p v) (by omega), Nat.testBit_two_pow]
    have : ¬ j = n := by omega
    simp [this]

theorem tms_pow (p j : Nat) : ∀ m v, tms p (2 ^ j) (j + 1 + m) v = iter p m v
  | 0, v => by
    show (if (2 ^ j).testBit j then v else 0) ^^^ tms p (2 ^ j) j (tx p v) = v
    rw [tms_pow_low p j j _ (Nat.le_refl _), Nat.testBit_two_pow_self]
    simp
  | m + 1, v => by
    show (if (2 ^ j).testBit (j + 1 + m) then v else 0) ^^^ tms p (2 ^ j) (j + 1 + m) (tx p v) = iter p (m + 1) v
    rw [tms_pow p j m (tx p v), iter_succ', Nat.testBit_two_pow]
    have : ¬ j = j + 1 + m := by omega
    simp [this]

theorem tms_pow' (p w j v : Nat) (h : j < w) : tms p (2 ^ j) w v = iter p (w - 1 - j) v := by
  have := tms_pow p j (w - 1 - j) v
  rwa [show j + 1 + (w - 1 - j) = w by omega] at this

theorem tx_pow (p j : Nat) : tx p (2 ^ (j + 1)) = 2 ^ j := by
  unfold tx
  rw [if_neg (by rw [Nat.pow_succ]; omega), Nat.pow_succ]; omega

theorem iter_pow (p j : Nat) : ∀ k, iter p k (2 ^ (j + k)) = 2 ^ j
  | 0 => rfl
  | k + 1 => by
    rw [iter_succ', show j + (k + 1) = j + k + 1 by omega, tx_pow, iter_pow p j k]

/-- x^k, in reflected order -/
def X (p w k : Nat) : Nat := iter p k (2 ^ (w - 1))

theorem X_low (p w k : Nat) (h : k < w) : X p w k = 2 ^ (w - 1 - k) := by
  unfold X
  have := iter_pow p (w - 1 - k) k
  rwa [show w - 1 - k + k = w - 1 by omega] at this

theorem X_w (p w : Nat) (h : 1 ≤ w) : X p w w = p := by
  have e : X p w (w - 1 + 1) = tx p (X p w (w - 1)) := rfl
  rw [show w - 1 + 1 = w by omega] at e
  rw [e, X_low p w (w - 1) (by omega), show w - 1 - (w - 1) = 0 by omega]
  simp [tx]

theorem X_add (p w a b : Nat) : X p w (a + b) = iter p a (X p w b) := iter_add p a b _

theorem tx_lt (p v w : Nat) (hp : p < 2 ^ w) (hv : v < 2 ^ w) : tx p v < 2 ^ w := by
  have h2 : v / 2 < 2 ^ w := Nat.lt_of_le_of_lt (Nat.div_le_self _ _) hv
  unfold tx; split
  · exact Nat.xor_lt_two_pow h2 hp
  · exact h2

theorem iter_lt (p w : Nat) (hp : p < 2 ^ w) : ∀ k v, v < 2 ^ w → iter p k v < 2 ^ w
  | 0, _, h => h
  | k + 1, v, h => tx_lt p _ w hp (iter_lt p w hp k v h)

theorem X_lt (p w k : Nat) (hw : 1 ≤ w) (hp : p < 2 ^ w) : X p w k < 2 ^ w :=
  iter_lt p w hp k _ (Nat.pow_lt_pow_right (by omega) (by omega))

theorem tms_lt (p u w : Nat) (hp : p < 2 ^ w) : ∀ n v, v < 2 ^ w → tms p u n v < 2 ^ w
  | 0, _, _ => Nat.two_pow_pos _
  | n + 1, v, h => by
    refine Nat.xor_lt_two_pow ?_ (tms_lt p u w hp n _ (tx_lt p v w hp h))
    split
    · exact h
    · exact Nat.two_pow_pos _

/-- u times 1 -/
theorem tms_one_right (p w u : Nat) (hu : u < 2 ^ w) : tms p u w (2 ^ (w - 1)) = u := by
  refine lin_ext (tms_lin_left p w (2 ^ (w - 1))) Lin.id w (fun j hj => ?_) u hu
  show tms p (2 ^ j) w (2 ^ (w - 1)) = 2 ^ j
  rw [tms_pow' p w j _ hj]
  have := X_low p w (w - 1 - j) (by omega)
  unfold X at this
  rw [this]; congr 1; omega

/-- 1 times v -/
theorem tms_one_left (p w v : Nat) (hw : 1 ≤ w) : tms p (2 ^ (w - 1)) w v = v := by
  rw [tms_pow' p w (w - 1) v (by omega), show w - 1 - (w - 1) = 0 by omega]; rfl

/-- the product with x^k on the right -/
theorem tms_X_right (p w u k : Nat) (hu : u < 2 ^ w) : tms p u w (X p w k) = iter p k u := by
  unfold X; rw [tms_iter, tms_one_right p w u hu]

theorem tms_comm (p w u v : Nat) (hu : u < 2 ^ w) (hv : v < 2 ^ w) : tms p u w v = tms p v w u := by
  refine lin_ext (tms_lin_left p w v) (tms_lin p v w) w (fun j hj => ?_) u hu
  show tms p (2 ^ j) w v = tms p v w (2 ^ j)
  rw [tms_pow' p w j v hj]
  have := tms_X_right p w v (w - 1 - j) hv
  rw [X_low p w (w - 1 - j) (by omega), show w - 1 - (w - 1 - j) = j by omega] at this
  exact this.symm

theorem tms_X_left (p w v k : Nat) (hw : 1 ≤ w) (hp : p < 2 ^ w) (hv : v < 2 ^ w) : tms p (X p w k) w v = iter p k v := by
  rw [tms_comm p w _ v (X_lt p w k hw hp) hv, tms_X_right p w v k hv]

theorem tms_X_X (p w a b : Nat) (hw : 1 ≤ w) (hp : p < 2 ^ w) : tms p (X p w a) w (X p w b) = X p w (a + b) := by
  rw [tms_X_left p w _ a hw hp (X_lt p w b hw hp), ← X_add]

/-! ### reversed bits -/

/-- the loop of revBits over the bits 0 .. i-1 -/
def rv (v w : Nat) : Nat → Nat
  | 0 => 0
  | i + 1 => if v.testBit i then rv v w i ||| 2 ^ (w - 1 - i) else rv v w i

theorem rv_testBit (v w j : Nat) : ∀ i, i ≤ w → (rv v w i).testBit j = decide (j < w ∧ w - 1 - j < i ∧ v.testBit (w - 1 - j) = true)
  | 0, _ => by simp [rv]
  | i + 1, h => by
    have ih := rv_testBit v w j i (by omega)
    unfold rv
    by_cases e : w - 1 - i = j
    · have e2 : w - 1 - j = i := by omega
      have e3 : j < w := by omega
      cases hb : v.testBit i
      · simp [ih, e2, hb]
      · simp [Nat.testBit_or, ih, e2, hb, e, e3]
    · have e2 : (j < w ∧ w - 1 - j < i ∧ v.testBit (w - 1 - j) = true) ↔ (j < w ∧ w - 1 - j < i + 1 ∧ v.testBit (w - 1 - j) = true) := by
        constructor
        · rintro ⟨a, b, c⟩; exact ⟨a, by omega, c⟩
        · rintro ⟨a, b, c⟩; exact ⟨a, by omega, c⟩
      have e3 : decide (j < w ∧ w - 1 - j < i + 1 ∧ v.testBit (w - 1 - j) = true) = decide (j < w ∧ w - 1 - j < i ∧ v.testBit (w - 1 - j) = true) := by
        rw [decide_eq_decide]; exact e2.symm
      rw [e3, ← ih]
      cases hb : v.testBit i
      · simp
      · simp [Nat.testBit_or, e]

theorem rev_testBit (v w j : Nat) : (rv v w w).testBit j = (decide (j < w) && v.testBit (w - 1 - j)) := by
  rw [rv_testBit v w j w (Nat.le_refl _)]
  by_cases h : j < w
  · have : w - 1 - j < w := by omega
    simp [h, this]
  · simp [h]

theorem rv_lt (v w : Nat) : ∀ i, i ≤ w → rv v w i < 2 ^ w
  | 0, _ => Nat.two_pow_pos _
  | i + 1, h => by
    have ih := rv_lt v w i (by omega)
    unfold rv
    cases v.testBit i
    · simpa using ih
    · exact Nat.or_lt_two_pow ih (Nat.pow_lt_pow_right (by omega) (by omega))

theorem rev_rev (v w : Nat) (h : v < 2 ^ w) : rv (rv v w w) w w = v := by
  apply Nat.eq_of_testBit_eq
  intro j
  rw [rev_testBit, rev_testBit]
  by_cases hj : j < w
  · have h1 : w - 1 - j < w := by omega
    have h2 : w - 1 - (w - 1 - j) = j := by omega
    simp [hj, h1, h2]
  · have : v.testBit j = false := Nat.testBit_lt_two_pow (Nat.lt_of_lt_of_le h (Nat.pow_le_pow_right (by omega) (by omega)))
    simp [hj, this]

theorem rev_lin (w : Nat) : Lin (fun v => rv v w w) := by
  refine ⟨?_, fun a b => ?_⟩
  · apply Nat.eq_of_testBit_eq; intro j; show (rv 0 w w).testBit j = _; rw [rev_testBit]; simp
  · apply Nat.eq_of_testBit_eq; intro j
    show (rv (a ^^^ b) w w).testBit j = (rv a w w ^^^ rv b w w).testBit j
    rw [Nat.testBit_xor, rev_testBit, rev_testBit, rev_testBit, Nat.testBit_xor]
    cases decide (j < w) <;> simp

theorem rev_pow (w j : Nat) (h : j < w) : rv (2 ^ j) w w = 2 ^ (w - 1 - j) := by
  apply Nat.eq_of_testBit_eq; intro i
  rw [rev_testBit, Nat.testBit_two_pow, Nat.testBit_two_pow]
  by_cases hi : i < w
  · by_cases e : j = w - 1 - i
    · have : w - 1 - j = i := by omega
      simp [hi, e]; omega
    · have : ¬ w - 1 - j = i := by omega
      simp [e, this]
  · have : ¬ w - 1 - j = i := by omega
    simp [hi, this]

/-! ### the full product and its value -/

/-- the value of a polynomial at x, in reflected order: its bits 0 .. n-1 -/
def ev (p w F : Nat) : Nat → Nat
  | 0 => 0
  | n + 1 => (if F.testBit n then X p w n else 0) ^^^ ev p w F n

theorem ev_lin (p w : Nat) : ∀ n, Lin (fun F => ev p w F n)
  | 0 => Lin.zero
  | n + 1 => (Lin.bit n (X p w n)).add (ev_lin p w n)

theorem ev_pow_high (p w j : Nat) : ∀ n, n ≤ j → ev p w (2 ^ j) n = 0
  | 0, _ => rfl
  | n + 1, h => by
    show (if (2 ^ j).testBit n then X p w n else 0) ^^^ ev p w (2 ^ j) n = 0
    have : ¬ j = n := by omega
    rw [ev_pow_high p w j n (by omega), Nat.testBit_two_pow]
    simp [this]

theorem ev_pow (p w j : Nat) : ∀ n, j < n → ev p w (2 ^ j) n = X p w j
  | 0, h => by omega
  | n + 1, h => by
    show (if (2 ^ j).testBit n then X p w n else 0) ^^^ ev p w (2 ^ j) n = X p w j
    by_cases e : j = n
    · subst e; rw [ev_pow_high p w j j (Nat.le_refl _), Nat.testBit_two_pow_self]; simp
    · rw [ev_pow p w j n (by omega), Nat.testBit_two_pow]; simp [e]

/-- below 2^w the value is the reversed word -/
theorem ev_low (p w n F : Nat) (hn : w ≤ n) (hF : F < 2 ^ w) : ev p w F n = rv F w w := by
  refine lin_ext (ev_lin p w n) (rev_lin w) w (fun j hj => ?_) F hF
  show ev p w (2 ^ j) n = rv (2 ^ j) w w
  rw [ev_pow p w j n (by omega), rev_pow w j hj, X_low p w j hj]

theorem shl_lin (i : Nat) : Lin (fun F => F <<< i) :=
  ⟨by simp, fun a b => Nat.shiftLeft_xor_distrib⟩

/-- a shift of the polynomial is so many steps -/
theorem ev_shl (p w n m i F : Nat) (h : m + i ≤ n) (hF : F < 2 ^ m) : ev p w (F <<< i) n = iter p i (ev p w F n) := by
  refine lin_ext ((ev_lin p w n).comp (shl_lin i)) ((iter_lin p i).comp (ev_lin p w n)) m (fun j hj => ?_) F hF
  show ev p w (2 ^ j <<< i) n = iter p i (ev p w (2 ^ j) n)
  rw [Nat.shiftLeft_eq, ← Nat.pow_add, ev_pow p w _ n (by omega), ev_pow p w j n (by omega), ← X_add, Nat.add_comm]

/-- the schoolbook product over the bits 0 .. i-1 of b -/
def pr (a b : Nat) : Nat → Nat
  | 0 => 0
  | i + 1 => if b.testBit i then pr a b i ^^^ (a <<< i) else pr a b i

theorem pr_lt (a b w : Nat) (hw : 1 ≤ w) (ha : a < 2 ^ w) : ∀ i, pr a b i < 2 ^ (w - 1 + i)
  | 0 => Nat.two_pow_pos _
  | i + 1 => by
    have ih := pr_lt a b w hw ha i
    have h1 : pr a b i < 2 ^ (w - 1 + (i + 1)) := Nat.lt_of_lt_of_le ih (Nat.pow_le_pow_right (by omega) (by omega))
    unfold pr
    cases b.testBit i
    · simpa using h1
    · refine Nat.xor_lt_two_pow h1 ?_
      rw [Nat.shiftLeft_eq, show w - 1 + (i + 1) = w + i by omega, Nat.pow_add]
      exact (Nat.mul_lt_mul_right (Nat.two_pow_pos _)).2 ha

theorem pr_lin (a : Nat) : ∀ i, Lin (fun b => pr a b i)
  | 0 => Lin.zero
  | i + 1 => by
    have e : (fun b => pr a b (i + 1)) = fun b => pr a b i ^^^ (if b.testBit i then a <<< i else 0) := by
      funext b
      show (if b.testBit i then pr a b i ^^^ (a <<< i) else pr a b i) = _
      cases b.testBit i <;> simp
    rw [e]
    exact (pr_lin a i).add (Lin.bit i _)

theorem pr_pow_low (a j : Nat) : ∀ i, i ≤ j → pr a (2 ^ j) i = 0
  | 0, _ => rfl
  | i + 1, h => by
    have : ¬ j = i := by omega
    show (if (2 ^ j).testBit i then pr a (2 ^ j) i ^^^ (a <<< i) else pr a (2 ^ j) i) = 0
    rw [pr_pow_low a j i (by omega), Nat.testBit_two_pow]; simp [this]

theorem pr_pow (a j : Nat) : ∀ i, j < i → pr a (2 ^ j) i = a <<< j
  | 0, h => by omega
  | i + 1, h => by
    show (if (2 ^ j).testBit i then pr a (2 ^ j) i ^^^ (a <<< i) else pr a (2 ^ j) i) = a <<< j
    by_cases e : j = i
    · subst e; rw [pr_pow_low a j j (Nat.le_refl _), Nat.testBit_two_pow_self]; simp
    · rw [pr_pow a j i (by omega), Nat.testBit_two_pow]; simp [e]

/-- the value of the full product of the reversed words -/
theorem ev_pr (p w u v : Nat) (hw : 1 ≤ w) (hw2 : w ≤ 64) (hu : u < 2 ^ w) (hv : v < 2 ^ w) : ev p w (pr (rv u w w) (rv v w w) w) 128 = tms p v w u := by
  refine lin_ext ((ev_lin p w 128).comp ((pr_lin (rv u w w) w).comp (rev_lin w))) (tms_lin_left p w u) w (fun j hj => ?_) v hv
  show ev p w (pr (rv u w w) (rv (2 ^ j) w w) w) 128 = tms p (2 ^ j) w u
  have ha := rv_lt u w w (Nat.le_refl _)
  rw [rev_pow w j hj, pr_pow _ _ w (by omega), ev_shl p w 128 w _ _ (by omega) ha, ev_low p w 128 _ (by omega) ha, rev_rev u w hu, tms_pow' p w j u hj]

/-- one step of the long division leaves the value -/
theorem ev_red (p w d G : Nat) (hw : 1 ≤ w) (hp : p < 2 ^ w) (hd : w ≤ d) (hd2 : d < 128) :
    ev p w (G ^^^ 2 ^ d ^^^ (rv p w w <<< (d - w))) 128 = ev p w G 128 := by
  have hpn := rv_lt p w w (Nat.le_refl _)
  have hl : ∀ a b, ev p w (a ^^^ b) 128 = ev p w a 128 ^^^ ev p w b 128 := (ev_lin p w 128).2
  rw [hl, hl, ev_pow p w d 128 hd2, ev_shl p w 128 w _ _ (by omega) hpn, ev_low p w 128 _ (by omega) hpn, rev_rev p w hp]
  have : X p w d = iter p (d - w) p := by
    have h := X_add p w (d - w) w
    rw [X_w p w hw, show d - w + w = d by omega] at h
    exact h
  rw [this, Nat.xor_assoc, Nat.xor_self, Nat.xor_zero]

/-- it clears the top bit -/
theorem red_lt (p w d G : Nat) (hd : w ≤ d) (hG : G < 2 ^ (d + 1)) (ht : G.testBit d = true) :
    G ^^^ 2 ^ d ^^^ (rv p w w <<< (d - w)) < 2 ^ d := by
  have hpn := rv_lt p w w (Nat.le_refl _)
  have hge : 2 ^ d ≤ G := Nat.ge_two_pow_of_testBit ht
  obtain ⟨r, hr, rfl⟩ := split_top d G hG hge
  refine Nat.xor_lt_two_pow ?_ ?_
  · rw [Nat.xor_comm (2 ^ d) r, Nat.xor_assoc, Nat.xor_self, Nat.xor_zero]; exact hr
  · rw [Nat.shiftLeft_eq]
    calc rv p w w * 2 ^ (d - w) < 2 ^ w * 2 ^ (d - w) := (Nat.mul_lt_mul_right (Nat.two_pow_pos _)).2 hpn
      _ = 2 ^ d := by rw [← Nat.pow_add]; congr 1; omega

theorem keep_lt (d G : Nat) (hG : G < 2 ^ (d + 1)) (ht : G.testBit d = false) : G < 2 ^ d := by
  by_cases h : 2 ^ d ≤ G
  · exfalso
    obtain ⟨r, hr, rfl⟩ := split_top d G hG h
    rw [Nat.testBit_xor, Nat.testBit_two_pow_self, Nat.testBit_lt_two_pow hr] at ht
    simp at ht
  · omega

/-! ### a polynomial of 128 coefficients in two words -/

def jn (hi lo : Nat) : Nat := (hi <<< 64) ^^^ lo

theorem jn_xor (a b c d : Nat) : jn (a ^^^ c) (b ^^^ d) = jn a b ^^^ jn c d := by
  unfold jn; rw [Nat.shiftLeft_xor_distrib, xor4]

theorem jn_testBit (hi lo j : Nat) (hl : lo < 2 ^ 64) : (jn hi lo).testBit j = if j < 64 then lo.testBit j else hi.testBit (j - 64) := by
  unfold jn
  rw [Nat.testBit_xor, Nat.testBit_shiftLeft]
  by_cases h : j < 64
  · have : ¬ 64 ≤ j := by omega
    simp [h, this]
  · have h2 : 64 ≤ j := by omega
    have : lo.testBit j = false := Nat.testBit_lt_two_pow (Nat.lt_of_lt_of_le hl (Nat.pow_le_pow_right (by omega) h2))
    simp [h, h2, this]

theorem jn_shl (a i : Nat) (hi : i < 64) : jn (a >>> (64 - i)) ((a <<< i) % 2 ^ 64) = a <<< i := by
  apply Nat.eq_of_testBit_eq; intro j
  rw [jn_testBit _ _ _ (Nat.mod_lt _ (Nat.two_pow_pos _)), Nat.testBit_mod_two_pow, Nat.testBit_shiftLeft, Nat.testBit_shiftRight]
  by_cases h : j < 64
  · simp [h]
  · have h2 : i ≤ j := by omega
    have h3 : 64 - i + (j - 64) = j - i := by omega
    simp [h, h2, h3]

theorem jn_zero (a : Nat) : jn 0 a = a := by unfold jn; simp

theorem jn_pow_high (d : Nat) (h : 64 ≤ d) : jn (2 ^ (d - 64)) 0 = 2 ^ d := by
  unfold jn; rw [Nat.shiftLeft_eq, ← Nat.pow_add, Nat.xor_zero]; congr 1; omega

theorem jn_low (hi lo w : Nat) (hl : lo < 2 ^ 64) (hw : w ≤ 64) (h : jn hi lo < 2 ^ w) : jn hi lo = lo := by
  apply Nat.eq_of_testBit_eq; intro j
  by_cases hj : j < 64
  · rw [jn_testBit _ _ _ hl, if_pos hj]
  · have h2 : 64 ≤ j := by omega
    rw [Nat.testBit_lt_two_pow (Nat.lt_of_lt_of_le h (Nat.pow_le_pow_right (by omega) (by omega : w ≤ j))),
      Nat.testBit_lt_two_pow (Nat.lt_of_lt_of_le hl (Nat.pow_le_pow_right (by omega) h2))]

end Go.Proofs.Qxb6000010a.Gf
