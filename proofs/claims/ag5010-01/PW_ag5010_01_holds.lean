import PyProof.Rows.All
import Wide.All
import OpenK.AllK
import Wide.FinOn
import PySem.Challenge.RW_ag5010_01

set_option Elab.async false
set_option maxRecDepth 100000

section
namespace Mine

/-- a pair of neighbours in Fibonacci's row -/
def fp (n : Nat) : Nat × Nat := Nat.repeat (fun p : Nat × Nat => (p.2, p.1 + p.2)) n (0, 1)
def fN (n : Nat) : Nat := (fp n).1

theorem fp_snd (n : Nat) : (fp n).2 = fN (n + 1) := rfl
theorem fN_zero : fN 0 = 0 := rfl
theorem fN_one : fN 1 = 1 := rfl
theorem fN_two : fN 2 = 1 := rfl
theorem fN_add_two (n : Nat) : fN (n + 2) = fN n + fN (n + 1) := rfl

theorem fN_add (m n : Nat) : fN (m + n + 1) = fN m * fN n + fN (m + 1) * fN (n + 1) := by
  induction n generalizing m with
  | zero => simp [fN_zero, fN_one]
  | succ n ih =>
    have h1 := ih (m + 1)
    have e : m + (n + 1) + 1 = m + 1 + n + 1 := by omega
    rw [e, h1, fN_add_two, fN_add_two n]
    grind

theorem fN_le_pow (n : Nat) : fN n < 2 ^ n := by
  have h : ∀ n, fN n < 2 ^ n ∧ fN (n + 1) ≤ 2 ^ n := by
    intro n
    induction n with
    | zero => exact ⟨by decide, by decide⟩
    | succ n ih =>
      rw [fN_add_two, Nat.pow_succ]
      omega
  exact (h n).1

theorem fN_pos {n : Nat} (h : 0 < n) : 0 < fN n := by
  have k : ∀ n, 0 < fN (n + 1) := by
    intro n
    induction n with
    | zero => decide
    | succ n ih => rw [fN_add_two]; omega
  have := k (n - 1)
  rwa [show n - 1 + 1 = n by omega] at this

theorem fN_mono_succ (n : Nat) : fN n ≤ fN (n + 1) := by
  cases n with
  | zero => decide
  | succ n => rw [fN_add_two]; omega

/-- the doubling step, in ints: for k = j + 1 -/
theorem fN_double (j : Nat) : fN (2 * (j + 1)) = fN (j + 1) * fN (j + 1) + 2 * (fN j * fN (j + 1)) := by
  have h := fN_add (j + 1) j
  rw [show j + 1 + j + 1 = 2 * (j + 1) by omega] at h
  rw [h, fN_add_two]
  grind
theorem fN_double_pred (j : Nat) : fN (2 * (j + 1) - 1) = fN j * fN j + fN (j + 1) * fN (j + 1) := by
  have h := fN_add j j
  rw [show j + j + 1 = 2 * (j + 1) - 1 by omega] at h
  exact h

/-! gcd -/
theorem fN_coprime (n : Nat) : Nat.gcd (fN n) (fN (n + 1)) = 1 := by
  induction n with
  | zero => decide
  | succ n ih =>
    rw [fN_add_two, Nat.gcd_add_self_right, Nat.gcd_comm]
    exact ih

theorem fN_gcd_add (m n : Nat) : Nat.gcd (fN m) (fN (n + m)) = Nat.gcd (fN m) (fN n) := by
  cases m with
  | zero => simp [fN_zero]
  | succ m =>
    have h := fN_add n m
    rw [show n + (m + 1) = n + m + 1 by omega, h]
    rw [Nat.gcd_add_mul_right_right]
    exact Nat.Coprime.gcd_mul_right_cancel_right _ (by
      show Nat.gcd (fN m) (fN (m + 1)) = 1
      exact fN_coprime m)

theorem fN_gcd_add_mul (m n k : Nat) : Nat.gcd (fN m) (fN (n + k * m)) = Nat.gcd (fN m) (fN n) := by
  induction k with
  | zero => simp
  | succ k ih => rw [Nat.succ_mul, ← Nat.add_assoc, fN_gcd_add, ih]

theorem fN_gcd (m n : Nat) : Nat.gcd (fN m) (fN n) = fN (Nat.gcd m n) := by
  induction m, n using Nat.gcd.induction with
  | H0 n => simp [fN_zero]
  | H1 m n hm ih =>
    rw [Nat.gcd_rec m n, ← ih]
    have h := fN_gcd_add_mul m (n % m) (n / m)
    rw [Nat.mul_comm, Nat.mod_add_div] at h
    rw [h, Nat.gcd_comm]

/-! the row over all ints -/
def fib (n : Int) : Int := if n < 0 then (-1) ^ (-n + 1).toNat * (fN (-n).toNat : Int) else (fN n.toNat : Int)

theorem fib_nat (n : Nat) : fib (n : Int) = (fN n : Int) := by
  unfold fib
  rw [if_neg (by omega)]
  simp
theorem fib_nonneg_eq {n : Int} (h : 0 ≤ n) : fib n = (fN n.toNat : Int) := by
  unfold fib
  rw [if_neg (by omega)]
theorem fib_neg_eq {n : Int} (h : n < 0) : fib n = (-1) ^ (-n + 1).toNat * fib (-n) := by
  rw [fib_nonneg_eq (n := -n) (by omega)]
  unfold fib
  rw [if_pos h]
theorem fib_negNat (n : Nat) : fib (-(n : Int)) = (-1) ^ (n + 1) * (fN n : Int) := by
  cases n with
  | zero => simp [fib, fN_zero]
  | succ n =>
    unfold fib
    rw [if_pos (by omega), show (- -((n + 1 : Nat) : Int) + 1).toNat = n + 1 + 1 by omega, show (- -((n + 1 : Nat) : Int)).toNat = n + 1 by omega]

theorem fib_rec (n : Int) : fib (n + 1) = fib n + fib (n - 1) := by
  rcases (show 1 ≤ n ∨ n = 0 ∨ n ≤ -1 by omega) with h | h | h
  · obtain ⟨k, rfl⟩ : ∃ k : Nat, n = (k : Int) + 1 := ⟨(n - 1).toNat, by omega⟩
    rw [show (k : Int) + 1 + 1 = ((k + 2 : Nat) : Int) by omega, show (k : Int) + 1 = ((k + 1 : Nat) : Int) by omega, show ((k + 1 : Nat) : Int) - 1 = (k : Int) by omega, fib_nat, fib_nat, fib_nat, fN_add_two]
    omega
  · subst h
    decide
  · obtain ⟨k, rfl⟩ : ∃ k : Nat, n = -((k + 1 : Nat) : Int) := ⟨(-n - 1).toNat, by omega⟩
    rw [show -((k + 1 : Nat) : Int) + 1 = -(k : Int) by omega, show -((k + 1 : Nat) : Int) - 1 = -((k + 2 : Nat) : Int) by omega, fib_negNat, fib_negNat, fib_negNat, fN_add_two]
    have e : ((fN k + fN (k + 1) : Nat) : Int) = (fN k : Int) + (fN (k + 1) : Int) := by omega
    rw [e, show k + 2 + 1 = k + 1 + 2 by omega, show k + 1 + 1 = k + 2 by omega]
    have p1 : (-1 : Int) ^ (k + 1) = - (-1) ^ k := by rw [Int.pow_succ]; omega
    have p2 : (-1 : Int) ^ (k + 2) = (-1) ^ k := by rw [Int.pow_succ, p1]; omega
    have p3 : (-1 : Int) ^ (k + 1 + 2) = - (-1) ^ k := by rw [Int.pow_succ, Int.pow_succ, p1]; omega
    rw [p1, p2, p3]
    generalize (fN k : Int) = a
    generalize (fN (k + 1) : Int) = b
    generalize ((-1 : Int) ^ k) = c
    grind

theorem fib_abs (n : Int) : (fib n).natAbs = fN n.natAbs := by
  rcases (show 0 ≤ n ∨ n < 0 by omega) with h | h
  · rw [fib_nonneg_eq h, show n.natAbs = n.toNat by omega]
    omega
  · rw [fib_neg_eq h, fib_nonneg_eq (by omega), Int.natAbs_mul, Int.natAbs_pow, show (-1 : Int).natAbs = 1 from rfl, Nat.one_pow, Nat.one_mul, show n.natAbs = (-n).toNat by omega]
    omega

theorem fib_zero : fib 0 = 0 := rfl
theorem fib_one : fib 1 = 1 := rfl

/-- induction over the ints, both ways, by two neighbours -/
theorem two_ways {P : Int → Prop} (h0 : P 0) (h1 : P 1) (up : ∀ n, P n → P (n + 1) → P (n + 2)) (down : ∀ n, P (n + 1) → P (n + 2) → P n) (n : Int) : P n := by
  have a : ∀ k : Nat, P k ∧ P ((k : Int) + 1) := by
    intro k
    induction k with
    | zero => exact ⟨h0, h1⟩
    | succ k ih =>
      refine ⟨ih.2, ?_⟩
      rw [show ((k + 1 : Nat) : Int) + 1 = (k : Int) + 2 by omega]
      exact up _ ih.1 ih.2
  have b : ∀ k : Nat, P (-(k : Int)) ∧ P (-(k : Int) + 1) := by
    intro k
    induction k with
    | zero => exact ⟨h0, h1⟩
    | succ k ih =>
      have e : -((k + 1 : Nat) : Int) + 1 = -(k : Int) := by omega
      refine ⟨down _ ?_ ?_, ?_⟩
      · rw [e]; exact ih.1
      · rw [show -((k + 1 : Nat) : Int) + 2 = -(k : Int) + 1 by omega]; exact ih.2
      · rw [e]; exact ih.1
  rcases (show 0 ≤ n ∨ n < 0 by omega) with h | h
  · have := (a n.toNat).1
    rwa [show ((n.toNat : Nat) : Int) = n by omega] at this
  · have := (b (-n).toNat).1
    rwa [show -(((-n).toNat : Nat) : Int) = n by omega] at this

theorem fib_up (n : Int) : fib (n + 2) = fib (n + 1) + fib n := by
  have := fib_rec (n + 1)
  rwa [show n + 1 + 1 = n + 2 by omega, show n + 1 - 1 = n by omega] at this

theorem fib_add (m n : Int) : fib (m + n) = fib m * fib (n + 1) + fib (m - 1) * fib n := by
  refine two_ways (P := fun n => fib (m + n) = fib m * fib (n + 1) + fib (m - 1) * fib n) ?_ ?_ ?_ ?_ n
  · simp [fib_zero, fib_one]
  · show fib (m + 1) = fib m * fib 2 + fib (m - 1) * fib 1
    rw [fib_rec m, show fib 2 = 1 from rfl, fib_one]
    omega
  · intro n h1 h2
    have e1 := fib_up (m + n)
    have e2 := fib_up n
    have e3 := fib_up (n + 1)
    rw [show m + (n + 2) = m + n + 2 by omega, show n + 2 + 1 = n + 1 + 2 by omega]
    rw [show m + (n + 1) = m + n + 1 by omega, show n + 1 + 1 = n + 2 by omega] at h2
    rw [show n + 1 + 1 = n + 2 by omega] at e3
    rw [e1, e3, h1, h2, e2]
    grind
  · intro n h1 h2
    have e1 := fib_up (m + n)
    have e2 := fib_up n
    have e3 := fib_up (n + 1)
    rw [show m + (n + 2) = m + n + 2 by omega, show n + 2 + 1 = n + 1 + 2 by omega] at h2
    rw [show m + (n + 1) = m + n + 1 by omega, show n + 1 + 1 = n + 2 by omega] at h1
    rw [show n + 1 + 1 = n + 2 by omega] at e3
    grind

/-- one more or less, by the place -/
def sgn (n : Int) : Int := if n % 2 = 0 then 1 else -1
theorem sgn_succ (n : Int) : sgn (n + 1) = - sgn n := by
  unfold sgn
  split <;> split <;> omega
theorem sgn_pred (n : Int) : sgn n = - sgn (n + 1) := by rw [sgn_succ]; omega

theorem cassini' (n : Int) : fib (n + 1) * fib (n + 1) - fib (n + 1) * fib n - fib n * fib n = sgn n := by
  refine two_ways (P := fun n => fib (n + 1) * fib (n + 1) - fib (n + 1) * fib n - fib n * fib n = sgn n) ?_ ?_ ?_ ?_ n
  · decide
  · decide
  · intro n h1 h2
    have e := fib_up (n + 1)
    have s1 := sgn_succ n
    have s2 := sgn_succ (n + 1)
    have e0 := fib_up n
    rw [show n + 2 + 1 = n + 1 + 2 by omega]
    rw [show n + 1 + 1 = n + 2 by omega] at *
    grind
  · intro n h1 h2
    have e := fib_up (n + 1)
    have s1 := sgn_succ n
    have s2 := sgn_succ (n + 1)
    have e0 := fib_up n
    rw [show n + 1 + 1 = n + 2 by omega] at *
    grind

theorem cassini (m : Int) : fib (m - 1) * fib (m + 1) - fib m * fib m = sgn m := by
  have h := cassini' m
  have e := fib_rec m
  grind
theorem docagne (m n : Int) : fib m * fib (n + 1) - fib (m + 1) * fib n = sgn n * fib (m - n) := by
  have h := cassini' n
  have e1 := fib_add (m - n) n
  have e2 := fib_add (m - n) (n + 1)
  have e3 := fib_rec (m - n)
  have e4 := fib_up n
  rw [show m - n + n = m by omega] at e1
  rw [show m - n + (n + 1) = m + 1 by omega, show n + 1 + 1 = n + 2 by omega] at e2
  grind
theorem vajda (m n k : Int) : fib (m + k) * fib (n + k) - fib k * fib (m + n + k) = sgn k * fib m * fib n := by
  have h := cassini' k
  have e1 := fib_add m k
  have e2 := fib_add n k
  have e3 := fib_add m (n + k)
  have e4 := fib_add n (k + 1)
  have e5 := fib_up k
  rw [show m + (n + k) = m + n + k by omega] at e3
  rw [show n + (k + 1) = n + k + 1 by omega, show k + 1 + 1 = k + 2 by omega] at e4
  grind
theorem divisor (m n : Int) : (Int.gcd (fib m) (fib n) : Int) = fib (Int.gcd m n) := by
  rw [fib_nat]
  unfold Int.gcd
  rw [fib_abs, fib_abs, fN_gcd]
end Mine
end

section
open PySem PySem.W PyProof.Rows
namespace Mine
/-- what holds between two turns of ifib's while -/
def FibInv (m a b p q n : Int) : Prop :=
  0 ≤ n ∧ n ≤ m ∧ ∃ i j : Nat, a = (fN (i + 1) : Int) ∧ b = (fN i : Int) ∧ p = (fN j : Int) ∧ q = (fN (j + 1) : Int) ∧ i + (j + 1) * n.toNat = m.toNat

theorem FibInv.start {m : Int} (h : 0 ≤ m) : FibInv m 1 0 0 1 m :=
  ⟨h, Int.le_refl _, 0, 0, rfl, rfl, rfl, rfl, by omega⟩

theorem FibInv.odd {m a b p q n : Int} (h : FibInv m a b p q n) (hn : n ≠ 0) : FibInv m (b * q + a * q + a * p) (b * p + a * q) p q (n - 1) := by
  obtain ⟨h0, h1, i, j, ha, hb, hp, hq, hs⟩ := h
  refine ⟨by omega, by omega, i + (j + 1), j, ?_, ?_, hp, hq, ?_⟩
  · have e := fN_add (i + 1) j
    rw [show i + 1 + j + 1 = i + (j + 1) + 1 by omega] at e
    rw [ha, hb, hp, hq, e, fN_add_two]
    simp only [Int.natCast_add, Int.natCast_mul]
    grind
  · have e := fN_add i j
    rw [ha, hb, hp, hq, show i + (j + 1) = i + j + 1 by omega, e]
    simp only [Int.natCast_add, Int.natCast_mul]
  · rw [show n.toNat = (n - 1).toNat + 1 by omega, Nat.mul_add] at hs
    omega

theorem FibInv.even {m a b p q n : Int} (h : FibInv m a b p q n) (_hn : n ≠ 0) (he : n % 2 = 0) : FibInv m a b (p * p + q * q) (q * q + 2 * p * q) (n / 2) := by
  obtain ⟨h0, h1, i, j, ha, hb, hp, hq, hs⟩ := h
  refine ⟨by omega, by omega, i, 2 * j + 1, ha, hb, ?_, ?_, ?_⟩
  · have e := fN_double_pred j
    rw [show 2 * (j + 1) - 1 = 2 * j + 1 by omega] at e
    rw [hp, hq, e]
    simp only [Int.natCast_add, Int.natCast_mul]
  · have e := fN_double j
    rw [show 2 * (j + 1) = 2 * j + 1 + 1 by omega] at e
    rw [hp, hq, e]
    simp only [Int.natCast_add, Int.natCast_mul]
    grind
  · have e : n.toNat = 2 * (n / 2).toNat := by omega
    rw [e, ← Nat.mul_assoc] at hs
    rw [show 2 * j + 1 + 1 = (j + 1) * 2 by omega]
    exact hs

theorem FibInv.even' {m a b p q n : Int} (h : FibInv m a b p q n) (hn : n ≠ 0) (he : Builtin.bitAnd n 1 = 0) : FibInv m a b (p * p + q * q) (q * q + 2 * p * q) (n.fdiv (2 ^ Int.toNat 1)) := by
  rw [PyProof.Rows.bitAnd_m1] at he
  have e : n.fdiv (2 ^ Int.toNat 1) = n / 2 := by
    show n.fdiv 2 = n / 2
    rw [Int.fdiv_eq_ediv_of_nonneg _ (by decide)]
  rw [e]
  exact h.even hn he

theorem FibInv.less_odd {m a b p q n : Int} (h : FibInv m a b p q n) (hn : n ≠ 0) : (n - 1).toNat < n.toNat := by
  have := h.1
  omega
theorem FibInv.less_even {m a b p q n : Int} (h : FibInv m a b p q n) (hn : n ≠ 0) : (n.fdiv (2 ^ Int.toNat 1)).toNat < n.toNat := by
  have h0 := h.1
  have e : n.fdiv (2 ^ Int.toNat 1) = n / 2 := by
    show n.fdiv 2 = n / 2
    rw [Int.fdiv_eq_ediv_of_nonneg _ (by decide)]
  rw [e]
  omega

theorem bits_sign (k : Nat) : Builtin.Int.intBits ((-1) ^ k) ≤ 1 :=
  intBits_le (by
    rw [Int.natAbs_pow, show (-1 : Int).natAbs = 1 from rfl, Nat.one_pow]
    decide)

theorem fib_neg_val {d : Int} (h : d < 0) : (-1) ^ (-d + 1).toNat * fib (-d) = fib d := (fib_neg_eq h).symm

theorem FibInv.fin {m a b p q n : Int} (h : FibInv m a b p q n) (hn : n = 0) : b = fib m := by
  obtain ⟨h0, h1, i, j, ha, hb, hp, hq, hs⟩ := h
  subst hn
  rw [fib_nonneg_eq h1, hb]
  simp at hs
  rw [hs]

theorem fN_bits {n k : Nat} (h : n ≤ k) : Builtin.Int.intBits (fN n : Int) ≤ k :=
  intBits_le (by
    rw [Int.natAbs_natCast]
    exact Nat.lt_of_lt_of_le (fN_le_pow n) (Nat.pow_le_pow_right (by decide) h))

theorem fib_bits {n : Int} {k : Nat} (h : n.natAbs ≤ k) : Builtin.Int.intBits (fib n) ≤ k :=
  intBits_le (by
    rw [fib_abs]
    exact Nat.lt_of_lt_of_le (fN_le_pow _) (Nat.pow_le_pow_right (by decide) h))

theorem FibInv.bits {m a b p q n : Int} (h : FibInv m a b p q n) (hm : m ≤ 1000) (hn : n ≠ 0) :
    Builtin.Int.intBits a ≤ 1001 ∧ Builtin.Int.intBits b ≤ 1001 ∧ Builtin.Int.intBits p ≤ 1001 ∧ Builtin.Int.intBits q ≤ 1001 := by
  obtain ⟨h0, h1, i, j, ha, hb, hp, hq, hs⟩ := h
  have e : (j + 1) ≤ (j + 1) * n.toNat := Nat.le_mul_of_pos_right _ (by omega)
  rw [ha, hb, hp, hq]
  exact ⟨fN_bits (by omega), fN_bits (by omega), fN_bits (by omega), fN_bits (by omega)⟩

theorem out_neg {d : Int} {t : Tok} (h : d < 0) : ∃ tk, Value.int ((-1) ^ (-d + 1).toNat * fib (-d)) t = Value.int (fib d) tk := ⟨t, by rw [fib_neg_val h]⟩
theorem out_fin {m a b p q n : Int} {t : Tok} (h : FibInv m a b p q n) (hn : n = 0) : ∃ tk, Value.int b t = Value.int (fib m) tk := ⟨t, by rw [h.fin hn]⟩
theorem news_nil {h₀ h : Heap} {L : Addr} {news : List (Addr × Obj)} (N : News h₀ L h news) : News h₀ L h (news ++ []) := by rw [List.append_nil]; exact N
theorem news_drop {h₀ h : Heap} {L : Addr} {q : Addr × Obj} {news : List (Addr × Obj)} (N : News h₀ L h (q :: news)) : News h₀ L h news := fun p hp => N p (.tail _ hp)

theorem news_drop2 {h₀ h : Heap} {L : Addr} {q : Addr × Obj} {news own : List (Addr × Obj)} (N : News h₀ L h (q :: (news ++ own))) : News h₀ L h news := fun p hp => N p (.tail _ (List.mem_append.mpr (.inl hp)))

/-- a value that is an int -/
inductive IntIs : Value → Int → Prop
  | mk (d : Int) (tk : Tok) : IntIs (.int d tk) d

abbrev fibT : Told Int where
  Rel := fun _ v d => IntIs v d
  Ok := fun d => -1000 ≤ d ∧ d ≤ 1000
  size := fun d => min (-d).toNat 1
  Tl := fun tl => tl = []
  Out := fun _ r d => ∃ tk, r = .int (fib d) tk
end Mine
end

section
open PySem PySem.W PyProof.Rows
namespace Mine
/-- what holds of Euclid's two numbers behind t turns -/
def DivInv (M N : Int) (t : Nat) (m n : Int) : Prop :=
  0 ≤ m ∧ 0 ≤ n ∧ Int.gcd m n = Int.gcd M N ∧ (t = 0 ∨ n ≤ m) ∧ 2 ^ (t - 1) * (m.toNat * n.toNat) ≤ M.toNat * N.toNat

theorem DivInv.start {M N : Int} (hM : 0 ≤ M) (hN : 0 ≤ N) : DivInv M N 0 M N :=
  ⟨hM, hN, rfl, .inl rfl, by simp⟩

theorem DivInv.step {M N m n : Int} {t : Nat} (h : DivInv M N t m n) (hn : n ≠ 0) : DivInv M N (t + 1) n (m.fmod n) := by
  obtain ⟨h0, h1, hg, hl, hp⟩ := h
  obtain ⟨a, rfl⟩ : ∃ a : Nat, m = a := ⟨m.toNat, by omega⟩
  obtain ⟨b, rfl⟩ : ∃ b : Nat, n = b := ⟨n.toNat, by omega⟩
  have hb : 0 < b := by omega
  have e : (a : Int).fmod (b : Int) = ((a % b : Nat) : Int) := by
    rw [Int.fmod_eq_emod_of_nonneg _ (by omega)]
    rfl
  have hlt : a % b < b := Nat.mod_lt _ hb
  rw [e]
  refine ⟨by omega, by omega, ?_, .inr (by omega), ?_⟩
  · rw [← hg]
    show Nat.gcd b (a % b) = Nat.gcd a b
    rw [Nat.gcd_comm b, ← Nat.gcd_rec, Nat.gcd_comm]
  · simp only [Int.toNat_natCast, Nat.add_sub_cancel] at hp ⊢
    rcases Nat.eq_zero_or_pos t with ht | ht
    · subst ht
      simp only [Nat.zero_sub, Nat.pow_zero, Nat.one_mul] at hp ⊢
      have : b * (a % b) ≤ b * a := Nat.mul_le_mul_left b (Nat.mod_le a b)
      rw [Nat.mul_comm b a] at this
      omega
    · have hba : b ≤ a := by omega
      have h2 : 2 * (a % b) ≤ a := by
        have h3 := Nat.mod_add_div a b
        have h4 : 1 ≤ a / b := (Nat.one_le_div_iff hb).mpr hba
        have h5 : b * 1 ≤ b * (a / b) := Nat.mul_le_mul_left b h4
        omega
      obtain ⟨u, rfl⟩ : ∃ u, t = u + 1 := ⟨t - 1, by omega⟩
      rw [Nat.add_sub_cancel] at hp
      refine Nat.le_trans ?_ hp
      rw [Nat.pow_succ, Nat.mul_assoc]
      refine Nat.mul_le_mul_left _ ?_
      rw [show 2 * (b * (a % b)) = b * (2 * (a % b)) by rw [Nat.mul_left_comm]]
      rw [Nat.mul_comm a b]
      exact Nat.mul_le_mul_left b h2

theorem DivInv.start0 {M N : Int} (hM : 0 ≤ M) (hN : 0 ≤ N) : DivInv M N ([] : List Int).length M N := DivInv.start hM hN
theorem DivInv.step1 {M N m n x : Int} {pre : List Int} (h : DivInv M N pre.length m n) (hn : n ≠ 0) : DivInv M N (pre ++ [x]).length n (m.fmod n) := by
  rw [List.length_append]
  exact h.step hn
theorem DivInv.val {M N m n : Int} {t : Nat} (h : DivInv M N t m n) (hn : n = 0) : m = (Int.gcd M N : Int) := by
  obtain ⟨h0, h1, hg, hl, hp⟩ := h
  subst hn
  rw [← hg, Int.gcd_zero_right]
  omega

theorem DivInv.ended {M N m n : Int} {t : Nat} (h : DivInv M N t m n) (ht : t = 2000) (hM : Builtin.Int.intBits M ≤ 900) (hN : Builtin.Int.intBits N ≤ 900) : n = 0 := by
  obtain ⟨h0, h1, hg, hl, hp⟩ := h
  have k1 := lt_pow_of_bits hM (Nat.le_refl 900)
  have k2 := lt_pow_of_bits hN (Nat.le_refl 900)
  subst ht
  have k3 : M.toNat * N.toNat < 2 ^ 900 * 2 ^ 900 := Nat.mul_lt_mul_of_lt_of_lt (by omega) (by omega)
  rw [← Nat.pow_add] at k3
  have k4 : (2 : Nat) ^ (900 + 900) ≤ 2 ^ (2000 - 1) := Nat.pow_le_pow_right (by decide) (by decide)
  rcases Nat.eq_zero_or_pos (m.toNat * n.toNat) with hz | hz
  · rcases Nat.mul_eq_zero.mp hz with hz | hz <;> omega
  · have : 2 ^ (2000 - 1) * 1 ≤ 2 ^ (2000 - 1) * (m.toNat * n.toNat) := Nat.mul_le_mul_left _ hz
    rw [Nat.mul_one] at this
    exact absurd (Nat.lt_of_le_of_lt (Nat.le_trans k4 (Nat.le_trans this hp)) k3) (Nat.lt_irrefl _)

theorem abs_nn (a : Int) : 0 ≤ (if a < 0 then -a else a) := by split <;> omega
theorem abs_natAbs (a : Int) : (if a < 0 then -a else a).natAbs = a.natAbs := by split <;> omega
theorem gcd_abs (a b : Int) : Int.gcd (if a < 0 then -a else a) (if b < 0 then -b else b) = Int.gcd a b := by
  unfold Int.gcd
  rw [abs_natAbs, abs_natAbs]
theorem bits_abs {a : Int} {k : Nat} (h : Builtin.Int.intBits a ≤ k) : Builtin.Int.intBits (if a < 0 then -a else a) ≤ k :=
  bits_of_natAbs_le (by rw [abs_natAbs]; exact Nat.le_refl _) h
theorem out_gcd {a b m n : Int} {t : Nat} {u : Tok} (h : DivInv (if a < 0 then -a else a) (if b < 0 then -b else b) t m n) (hn : n = 0) : ∃ tk, Value.int m u = Value.int (Int.gcd a b : Int) tk :=
  ⟨u, by rw [h.val hn, gcd_abs]⟩
theorem out_gcd_end {a b m n : Int} {t : Nat} {u : Tok} (h : DivInv (if a < 0 then -a else a) (if b < 0 then -b else b) t m n) (ht : t = 2000) (hok : Builtin.Int.intBits a ≤ 900 ∧ Builtin.Int.intBits b ≤ 900) : ∃ tk, Value.int m u = Value.int (Int.gcd a b : Int) tk :=
  out_gcd h (h.ended ht (bits_abs hok.1) (bits_abs hok.2))

/-- two ints handed over -/
inductive TwoInts : List Value → Int × Int → Prop
  | mk (a b : Int) (t u : Tok) : TwoInts [.int a t, .int b u] (a, b)

abbrev divT : ToldN (Int × Int) where
  Rel := fun _ vs d => TwoInts vs d
  Ok := fun d => Builtin.Int.intBits d.1 ≤ 900 ∧ Builtin.Int.intBits d.2 ≤ 900
  size := fun _ => 0
  Tl := fun tl => tl = []
  Out := fun _ r d => ∃ tk, r = .int (Int.gcd d.1 d.2 : Int) tk
end Mine
end

section
open PySem PySem.W PyProof.Rows PySem.Spec PySem.Calls
namespace Mine
theorem clamp (a : Int) : -300 ≤ (a + 300).fmod 601 - 300 ∧ (a + 300).fmod 601 - 300 ≤ 300 := by
  rw [Int.fmod_eq_emod_of_nonneg _ (by decide)]
  omega
theorem three_len (ns : List Int) : (List.filter (fun _ => true) (List.take 3 ns ++ List.drop (((List.take 3 ns).length : Nat) : Int).toNat [21, 14, 5])).length = 3 := by
  rw [List.filter_eq_self.mpr (fun _ _ => rfl), List.length_append, List.length_drop, List.length_take]
  simp
  omega
theorem three_of {ys : List Value} {ns : List Int} (h : CarriedAll ys (List.map (fun a => PyData.int ((a + 300).fmod 601 - 300)) (List.filter (fun _ => true) (List.take 3 ns ++ List.drop (((List.take 3 ns).length : Nat) : Int).toNat [21, 14, 5])))) :
    ∃ (x y z : Int) (t u v : Tok), ys = [.int x t, .int y u, .int z v] ∧ (-300 ≤ x ∧ x ≤ 300) ∧ (-300 ≤ y ∧ y ≤ 300) ∧ (-300 ≤ z ∧ z ≤ 300) := by
  have hl := three_len ns
  generalize List.filter (fun _ => true) (List.take 3 ns ++ List.drop (((List.take 3 ns).length : Nat) : Int).toNat [21, 14, 5]) = zs at h hl
  match zs, hl with
  | [a, b, c], _ =>
    simp only [List.map_cons, List.map_nil] at h
    cases h with
    | cons h1 h =>
      cases h with
      | cons h2 h =>
        cases h with
        | cons h3 h =>
          cases h
          cases h1
          cases h2
          cases h3
          exact ⟨_, _, _, _, _, _, rfl, clamp a, clamp b, clamp c⟩
theorem bits_small {x : Int} {k : Nat} (h : -1000 ≤ x ∧ x ≤ 1000) (hk : 10 ≤ k) : Builtin.Int.intBits x ≤ k :=
  Nat.le_trans (intBits_le (k := 10) (by omega)) hk
theorem gcd_ok {x y : Int} (hx : -300 ≤ x ∧ x ≤ 300) (hy : -300 ≤ y ∧ y ≤ 300) : -1000 ≤ (Int.gcd x y : Int) ∧ (Int.gcd x y : Int) ≤ 1000 := by
  refine ⟨by omega, ?_⟩
  unfold Int.gcd
  rcases Nat.eq_zero_or_pos x.natAbs with h | h
  · rw [h, Nat.gcd_zero_left]
    omega
  · have := Nat.gcd_le_left y.natAbs h
    omega

section
variable {prog : Program} {w : World} {A : Around} {E : Value → Shared → Prop} {s : Shared}
/-- two ints known equal: != is False -/
theorem ne_known {a b : Int} {t u : Tok} {Q : Value → Shared → Prop} (e : a = b) (h : Q (.bool false) s) : wpAny (model prog w) A (compareOp .NotEq (.int a t) (.int b u)) Q E s := by
  refine ne_int ?_
  rw [show (a != b) = false by simp [e]]
  exact h
/-- the sign by the place: what a conditional expression gives -/
def SgnEnd (x : Int) (s : Shared) (v : Value) (s' : Shared) : Prop := ∃ (t : Tok) (tk : Nat), v = .int (sgn x) t ∧ s' = { s with toks := tk }
theorem SgnEnd.even {x : Int} {t : Tok} {tk : Nat} (h : x.fmod 2 = 0) : SgnEnd x s (.int 1 t) { s with toks := tk } := by
  rw [Int.fmod_eq_emod_of_nonneg _ (by decide)] at h
  exact ⟨t, tk, by unfold sgn; rw [if_pos h], rfl⟩
theorem SgnEnd.odd {x : Int} {t : Tok} {tk : Nat} (h : ¬ x.fmod 2 = 0) : SgnEnd x s (.int (-1) t) { s with toks := tk } := by
  rw [Int.fmod_eq_emod_of_nonneg _ (by decide)] at h
  exact ⟨t, tk, by unfold sgn; rw [if_neg h], rfl⟩
theorem sgn_cut {e : Expr} {env : Env} {Q : Value → Shared → Prop} (x : Int) (walk : wpAny (model prog w) A (eval e env) (SgnEnd x s) E s) (rest : ∀ (t : Tok) (tk : Nat), Q (.int (sgn x) t) { s with toks := tk }) : wpAny (model prog w) A (eval e env) Q E s :=
  wpAny_mono walk (fun v s' h => by obtain ⟨t, tk, rfl, rfl⟩ := h; exact rest t tk) (fun _ _ h => h)
end
section
variable {prog : Program} {w : World} {A : Around} {E : Value → Shared → Prop} {s : Shared}
/-- a statement behind which the frame and the ledger stand as they stood -/
def StillEnd (h₀ : Heap) (L : Addr) (m : Str → Option Value) (news : List (Addr × Obj)) (s : Shared) (f : Flow) (s' : Shared) : Prop :=
  f = .next ∧ ∃ (h' : Heap) (tk : Nat), s' = { s with heap := h', toks := tk } ∧ Fr h₀ L h' m ∧ News h₀ L h' news
theorem StillEnd.mk {h₀ h' : Heap} {L : Addr} {m : Str → Option Value} {news : List (Addr × Obj)} {tk : Nat} (F : Fr h₀ L h' m) (N : News h₀ L h' news) : StillEnd h₀ L m news s .next { s with heap := h', toks := tk } :=
  ⟨rfl, h', tk, rfl, F, N⟩
theorem still_cut {st : Stmt} {env : Env} {Q : Flow → Shared → Prop} {h₀ : Heap} {L : Addr} {m : Str → Option Value} {news : List (Addr × Obj)} (_ : Fr h₀ L s.heap m) (_ : News h₀ L s.heap news)
    (walk : wpAny (model prog w) A (exec st env) (StillEnd h₀ L m news s) E s)
    (rest : ∀ (h' : Heap) (tk : Nat), Fr h₀ L h' m → News h₀ L h' news → Q .next { s with heap := h', toks := tk }) : wpAny (model prog w) A (exec st env) Q E s :=
  wpAny_mono walk (fun f s' h => by obtain ⟨rfl, h', tk, rfl, F, N⟩ := h; exact rest h' tk F N) (fun _ _ h => h)
end
section
variable {prog : Program} {w : World} {A : Around} {E : Value → Shared → Prop} {s : Shared}
/-- what is kept of the number that is to be told as a sum: its bounds -/
def LeftEnd (s : Shared) (v : Value) (s' : Shared) : Prop :=
  ∃ (l : Int) (t : Tok) (tk : Nat), v = .int l t ∧ (0 ≤ l ∧ l < 100000000000000000000) ∧ s' = { s with toks := tk }
theorem LeftEnd.mk {x b : Int} {t : Tok} {tk : Nat} (hb : b = 100000000000000000000) : LeftEnd s (.int (x.fmod b) t) { s with toks := tk } := by
  subst hb
  refine ⟨_, t, tk, rfl, ?_, rfl⟩
  rw [Int.fmod_eq_emod_of_nonneg _ (by decide)]
  omega
theorem left_cut {e : Expr} {env : Env} {Q : Value → Shared → Prop} (walk : wpAny (model prog w) A (eval e env) (LeftEnd s) E s) (rest : ∀ (l : Int) (t : Tok) (tk : Nat), 0 ≤ l → l < 100000000000000000000 → Q (.int l t) { s with toks := tk }) : wpAny (model prog w) A (eval e env) Q E s :=
  wpAny_mono walk (fun v s' h => by obtain ⟨l, t, tk, rfl, ⟨h0, h1⟩, rfl⟩ := h; exact rest l t tk h0 h1) (fun _ _ h => h)
end
theorem sgn_bits (x : Int) {k : Nat} (h : 1 ≤ k) : Builtin.Int.intBits (sgn x) ≤ k := by
  refine Nat.le_trans ?_ h
  unfold sgn
  split <;> decide
end Mine
end

section
open PySem PySem.W PyProof.Rows PySem.Spec PySem.Calls
namespace Mine
/-- the places fall by two at least -/
def Gaps (places : List Int) : Prop := ∀ i : Nat, i + 1 < places.length → 2 ≤ places.getD i 0 - places.getD (i + 1) 0
/-- behind t turns of the greedy loop: the next place is 99 - t -/
def ZInv (t : Nat) (left : Int) (places : List Int) : Prop :=
  0 ≤ left ∧ left < fib (100 - (t : Int)) ∧ Gaps places ∧ (∀ p, places.getLast? = some p → left < fib (p - 1) ∧ 100 - (t : Int) ≤ p) ∧ places.length ≤ t

theorem fib_100 : fib 100 = 354224848179261915075 := by decide +kernel

theorem ZInv.start {l : Int} (h0 : 0 ≤ l) (h1 : l < 100000000000000000000) : ZInv 0 l [] := by
  refine ⟨h0, ?_, fun i h => absurd h (by simp), fun p h => by simp at h, by simp⟩
  show l < fib 100
  rw [fib_100]
  omega

theorem gaps_append {places : List Int} {k : Int} (h : Gaps places) (hl : ∀ p, places.getLast? = some p → k + 2 ≤ p) : Gaps (places ++ [k]) := by
  intro i hi
  rw [List.length_append, List.length_singleton] at hi
  rcases (show i + 1 < places.length ∨ i + 1 = places.length by omega) with h1 | h1
  · have e := h i h1
    simp only [List.getD_eq_getElem?_getD] at e ⊢
    rw [List.getElem?_append_left (by omega), List.getElem?_append_left h1]
    exact e
  · have e := hl (places.getD i 0) (by
      rw [List.getLast?_eq_getElem?, List.getD_eq_getElem?_getD, show places.length - 1 = i by omega, List.getElem?_eq_getElem (by omega)]
      rfl)
    simp only [List.getD_eq_getElem?_getD] at e ⊢
    rw [List.getElem?_append_left (by omega), List.getElem?_append_right (by omega), show i + 1 - places.length = 0 by omega]
    simp only [List.getElem?_cons_zero, Option.getD_some]
    omega

theorem fib_mono1 {k : Int} (h : 1 ≤ k) : fib (k - 1) ≤ fib k := by
  rw [fib_nonneg_eq (by omega), fib_nonneg_eq (by omega), show k.toNat = (k - 1).toNat + 1 by omega]
  have := fN_mono_succ (k - 1).toNat
  omega

theorem ZInv.skip {t : Nat} {left k : Int} {places : List Int} (h : ZInv t left places) (hk : k = 99 - (t : Int)) (hf : ¬ fib k ≤ left) : ZInv (t + 1) left places := by
  obtain ⟨h0, h1, h2, h3, h4⟩ := h
  refine ⟨h0, ?_, h2, fun p hp => ⟨(h3 p hp).1, ?_⟩, by omega⟩
  · rw [show 100 - ((t + 1 : Nat) : Int) = k by omega]
    omega
  · have := (h3 p hp).2
    omega
theorem ZInv.take {t : Nat} {left k : Int} {places : List Int} (h : ZInv t left places) (hk : k = 99 - (t : Int)) (ht : t < 98) (hf : fib k ≤ left) : ZInv (t + 1) (left - fib k) (places ++ [k]) := by
  obtain ⟨h0, h1, h2, h3, h4⟩ := h
  have e := fib_rec k
  have m := fib_mono1 (k := k) (by omega)
  rw [show 100 - (t : Int) = k + 1 by omega] at h1
  refine ⟨by omega, ?_, gaps_append h2 fun p hp => ?_, fun p hp => ?_, by rw [List.length_append, List.length_singleton]; omega⟩
  · rw [show 100 - ((t + 1 : Nat) : Int) = k by omega]
    omega
  · obtain ⟨a, b⟩ := h3 p hp
    rcases (show p = k + 1 ∨ k + 2 ≤ p by omega) with q | q
    · rw [q, show k + 1 - 1 = k by omega] at a
      omega
    · exact q
  · rw [List.getLast?_append] at hp
    simp at hp
    subst hp
    omega
theorem ZInv.zero {left : Int} {places : List Int} (h : ZInv 98 left places) : left = 0 := by
  obtain ⟨h0, h1, _⟩ := h
  have e : fib (100 - ((98 : Nat) : Int)) = 1 := by decide +kernel
  omega
theorem ZInv.gaps {t : Nat} {left : Int} {places : List Int} (h : ZInv t left places) : Gaps places := h.2.2.1
theorem ZInv.len {t : Nat} {left : Int} {places : List Int} (h : ZInv t left places) : places.length ≤ t := h.2.2.2.2
end Mine
end

section
open PySem PySem.W PyProof.Rows PySem.Spec PySem.Calls
namespace Mine
theorem ZInv.skip1 {pre : List Int} {left k : Int} {places : List Int} (h : ZInv pre.length left places) (hk : k = 99 - (pre.length : Int)) (hf : ¬ fib k ≤ left) : ZInv (pre ++ [k]).length left places := by
  rw [List.length_append]
  exact h.skip hk hf
theorem ZInv.take1 {pre : List Int} {left k : Int} {places : List Int} (h : ZInv pre.length left places) (hk : k = 99 - (pre.length : Int)) (ht : pre.length < 98) (hf : fib k ≤ left) : ZInv (pre ++ [k]).length (left - fib k) (places ++ [k]) := by
  rw [List.length_append]
  exact h.take hk ht hf

section
variable {prog : Program} {w : World} {A : Around} {E : Value → Shared → Prop} {s : Shared} {env : Env} {h₀ : Heap} {x : Str} {body : List Stmt} {Q : Flow → Shared → Prop}
theorem zeck_loop {r P D C : Addr} {ys : List Value} {o : Obj} {l : Int} {tl : Tok} {c0 : Nat} {t₀ u₀ v₀ : Tok} {m₀ : Str → Option Value}
    {nn : Nat} (_ : IntsAre ys (List.map (fun k => fib k) (rangeKs 0 nn))) (_ : o.data = .cell (some (.ref P))) (hh : A.handled = none) (hr : IsRange s.heap r 99 1 (-1) t₀ u₀ v₀) (F : Fr h₀ env.locals s.heap m₀)
    (N : News h₀ env.locals s.heap [(P, W.listOf #[] c0), (D, LCg.lst ys), (C, o)])
    (hk : m₀ (Str.ofString "left") = some (.int l tl)) (h0 : 0 ≤ l) (h1 : l < 100000000000000000000)
    (turn : ∀ (left : Int) (tok : Nat) (vs : List Value) (places : List Int) (cnt : Nat) (pre : List Int) (k : Int) (t : Tok) (h : Heap) (tk : Nat) (own : List (Addr × Obj)),
      k = 99 - (pre.length : Int) → pre.length < 98 → OwnOff own [P, D, C] → IntsAre vs places → ZInv pre.length left places → KstMark →
      Fr h₀ env.locals h (fun y => if y = x then some (.int k t) else if y = Str.ofString "left" then some (.int left tok) else m₀ y) →
      vs.length ≤ 98 → places.length ≤ 98 → News h₀ env.locals h ((P, W.listOf vs.toArray cnt) :: (D, LCg.lst ys) :: (C, o) :: own) →
      wpAny (model prog w) A (execs body env) (InvPostN h₀ env.locals
        (KstS (σ := Int × Nat × List Value × List Int × Nat) (fun c => [(P, W.listOf c.2.2.1.toArray c.2.2.2.2), (D, LCg.lst ys), (C, o)]) (fun c => [(Str.ofString "left", Value.int c.1 c.2.1)]) (fun c => IntsAre c.2.2.1 c.2.2.2.1) x [] m₀ (fun pre c => ZInv pre.length c.1 c.2.2.2.1) (pre ++ [k]))
        own [P, D, C] { s with heap := h, toks := tk } Q) E { s with heap := h, toks := tk })
    (done : ∀ (tok : Nat) (vs : List Value) (places : List Int) (cnt : Nat) (u : Str → Option Value) (h : Heap) (tk : Nat), IntsAre vs places → Gaps places → places.length ≤ 98 → KstMark →
      Fr h₀ env.locals h (fun y => if y = x then u y else if y = Str.ofString "left" then some (.int 0 tok) else m₀ y) →
      News h₀ env.locals h [(P, W.listOf vs.toArray cnt), (D, LCg.lst ys), (C, o)] → Q .next { s with heap := h, toks := tk }) :
    wpAny (model prog w) A (pyIter (.ref r)) (fun it s₂ => LoopAtV prog w A h₀ env x body Q E it s₂) E s := by
  refine kst_rangeD (σ := Int × Nat × List Value × List Int × Nat) (n := 98) (fun c => [(P, W.listOf c.2.2.1.toArray c.2.2.2.2), (D, LCg.lst ys), (C, o)]) (fun c => [(Str.ofString "left", Value.int c.1 c.2.1)]) (fun c => IntsAre c.2.2.1 c.2.2.2.1) [] (fun pre c => ZInv pre.length c.1 c.2.2.2.1) (l, tl, [], [], c0)
    hh hr (by decide) (by rfl) F N .nil ?_ (ZInv.start h0 h1) ?_ ?_
  · intro p hp
    cases hp with
    | head => exact hk
    | tail _ hp => exact nomatch hp
  · rintro ⟨left, tok, vs, places, cnt⟩ pre k t u h tk own e hlt hoff hf hp F₁ N₁
    refine turn left tok vs places cnt pre k t h tk own e hlt hoff hf hp kstMark ?_ (by
      have h1 : IntsAre vs places := hf
      have h2 : ZInv pre.length left places := hp
      have h3 := h2.len
      rw [h1.length]
      omega) (by
      have h2 : ZInv pre.length left places := hp
      have h3 := h2.len
      omega) N₁
    have em : (fun y => if y = x then some (Value.int k t) else kstB (fun z => if ([] : List Str).contains z then u z else m₀ z) [(Str.ofString "left", Value.int left tok)] y) = fun y => if y = x then some (.int k t) else if y = Str.ofString "left" then some (.int left tok) else m₀ y := by
      funext y
      simp [kstB]
    exact em ▸ F₁
  · rintro ⟨left, tok, vs, places, cnt⟩ u h tk hf hp F₁ N₁
    have hp' : ZInv (downKs 99 98).length left places := hp
    rw [downKs_length] at hp'
    have hz : left = 0 := hp'.zero
    subst hz
    refine done tok vs places cnt u h tk hf (ZInv.gaps hp) hp'.len kstMark ?_ N₁
    have em : (fun y => if y = x then u y else kstB (fun z => if ([] : List Str).contains z then u z else m₀ z) [(Str.ofString "left", Value.int 0 tok)] y) = fun y => if y = x then u y else if y = Str.ofString "left" then some (.int 0 tok) else m₀ y := by
      funext y
      simp [kstB]
    exact em ▸ F₁
end

/-- an item of the row -/
theorem row_at {ys : List Value} {n : Nat} (h : IntsAre ys (List.map (fun k => fib k) (rangeKs 0 n))) {k : Int} (h0 : 0 ≤ k) (h1 : k < n) : ∃ t, ys[k.toNat]? = some (.int (fib k) t) := by
  have hl := h.length
  rw [List.length_map, rangeKs_length] at hl
  obtain ⟨j, t, e, hj⟩ := IntsAre.at h k.toNat ys[k.toNat] (List.getElem?_eq_getElem (by omega))
  refine ⟨t, ?_⟩
  rw [List.getElem?_eq_getElem (by omega), e]
  have hk : (rangeKs 0 n)[k.toNat]? = some k := by
    unfold rangeKs
    rw [List.getElem?_map, List.getElem?_range (by omega)]
    simp only [Option.map_some]
    congr 1
    omega
  rw [List.getElem?_map, hk] at hj
  have this : j = fib k := (Option.some.inj hj).symm
  rw [this]
section
variable {prog : Program} {w : World} {A : Around} {E : Value → Shared → Prop} {s : Shared} {Q : Value → Shared → Prop}
theorem row_item {h₀ : Heap} {L D : Addr} {news : List (Addr × Obj)} {value slice : PySem.Expr} {ys : List Value} {n : Nat} {k : Int} {u : Tok} (N : News h₀ L s.heap news) (hm : (D, LCg.lst ys) ∈ news) (hI : IntsAre ys (List.map (fun k => fib k) (rangeKs 0 n))) (h0 : 0 ≤ k) (h1 : k < n) (hn : n ≤ 1000) (h : ∀ t, Q (.int (fib k) t) s)
    (hs : subscripted slice false (.ref D) (.int k u) = operate [.ref D, .int k u] (getItem (.ref D) (.int k u)) := by with_unfolding_all rfl) :
    wpAny (model prog w) A (subscriptTail value slice (.ref D) (.int k u)) Q E s := by
  obtain ⟨t, e⟩ := row_at hI h0 h1
  have hl : s.heap.IsList D ys.toArray := ⟨_, (N _ hm).1, rfl, _, rfl⟩
  exact tail_any hl.typeIs slot_list_getitem.lookup (wpAny_getItem_list hl h0 (by omega) (by simpa using e) (h t)) hs
end
theorem foldl_none {α β : Type} (c : α → Prop) [DecidablePred c] (v : β) : ∀ (l : List α), (∀ a ∈ l, ¬ c a) → ∀ acc : List β, List.foldl (fun r a => if c a then r ++ [v] else r) acc l = acc
  | [], _, _ => rfl
  | a :: l, h, acc => by
    rw [List.foldl_cons, if_neg (h a (.head _))]
    exact foldl_none c v l (fun b hb => h b (.tail _ hb)) acc
theorem no_short {places : List Int} {ys : List Value} (h : Gaps places) (hI : IntsAre ys (List.foldl (fun l' k' => if places.getD k'.toNat 0 - places.getD (k' + 1).toNat 0 < 2 then l' ++ [1] else l') [] (rangeKs 0 ((places.length : Int) - 1 - 0).toNat))) : ys = [] := by
  rw [foldl_none (fun k' : Int => places.getD k'.toNat 0 - places.getD (k' + 1).toNat 0 < 2) (1 : Int)] at hI
  · cases hI
    rfl
  · intro k hk
    obtain ⟨i, hi, rfl⟩ := List.mem_map.mp hk
    have hi' := List.mem_range.mp hi
    have g := h i (by omega)
    rw [show (0 + (i : Int)).toNat = i by omega, show (0 + (i : Int) + 1).toNat = i + 1 by omega]
    omega
end Mine
end

section
open PySem PySem.W PyProof.Rows PySem.Spec PySem.Calls
namespace Mine
section
variable {prog : Program} {w : World} {K : Frag} {p : Program} {loose : List Str} {mean : ExcName → Option Value} {mg mb : Str → Option Value} {f : Addr}
  {dp un : Nat} {gd : Option (List Code)} {cn : Str} {cs : Scope} {a : Addr} {ccd : Value} {cl : List (Str × Addr)} {outer : List Env} {A₀ : Around} {base h₀ : Heap} {L : Addr} {m : Str → Option Value} {news : List (Addr × Obj)} {s : Shared} {Q E : Value → Shared → Prop}
/-- a call of ifib by its contract -/
theorem fib_use {d : Int} {t : Tok} (C : ∀ d, Tells prog w K p loose mean mg mb f fibT d) (B : Below A₀ base outer h₀) (F : Fr h₀ L s.heap m) (X : K.In h₀) (N : News h₀ L s.heap news) (T : Top p loose mean mg mb h₀) (hk : cs.kind = .function)
    (ok : -1000 ≤ d ∧ d ≤ 1000) (hd : dp + 1 < recursionLimit) (hu : un + 8 < cLine)
    (ret : ∀ (u : Tok) (h' : Heap) (tk' : Nat), Fr h₀ L h' m → News h₀ L h' news → Q (.int (fib d) u) { s with heap := h', toks := tk' }) :
    wpAny (model prog w) (ktrTop dp un gd cn cs L a ccd cl outer) (call (.ref f) [.int d t]) Q E s := by
  refine tells_use B F X N T hk (IntIs.mk d t) (C d) ok ?_ ?_ ?_
  · show dp + min (-d).toNat 1 < recursionLimit
    omega
  · show un + 8 * min (-d).toNat 1 < cLine
    omega
  · intro r tl h' tk' F' N' _ ht ho
    obtain ⟨u, rfl⟩ := ho
    have ht' : tl = [] := ht
    subst ht'
    rw [List.append_nil] at N'
    exact ret u h' tk' F' N'
/-- a call of the law's divisor by its contract -/
theorem div_use {x y : Int} {t u : Tok} (C : ∀ d, TellsN prog w K p loose mean mg mb f divT d) (B : Below A₀ base outer h₀) (F : Fr h₀ L s.heap m) (X : K.In h₀) (N : News h₀ L s.heap news) (T : Top p loose mean mg mb h₀) (hk : cs.kind = .function)
    (ok : Builtin.Int.intBits x ≤ 900 ∧ Builtin.Int.intBits y ≤ 900) (hd : dp + 1 < recursionLimit) (hu : un + 8 < cLine)
    (ret : ∀ (u : Tok) (h' : Heap) (tk' : Nat), Fr h₀ L h' m → News h₀ L h' news → Q (.int (Int.gcd x y : Int) u) { s with heap := h', toks := tk' }) :
    wpAny (model prog w) (ktrTop dp un gd cn cs L a ccd cl outer) (call (.ref f) [.int x t, .int y u]) Q E s := by
  refine tellsN_use B F X N T hk (TwoInts.mk x y t u) (C (x, y)) ok ?_ ?_ ?_
  · show dp + 0 < recursionLimit
    omega
  · show un + 8 * 0 < cLine
    omega
  · intro r tl h' tk' F' N' _ ht ho
    obtain ⟨u, rfl⟩ := ho
    have ht' : tl = [] := ht
    subst ht'
    rw [List.append_nil] at N'
    exact ret u h' tk' F' N'
end
section
variable {prog : Program} {w : World} {A : Around} {E : Value → Shared → Prop} {s : Shared} {Q : Value → Shared → Prop}
/-- an item of a made list of ints, at a place that lies in it -/
theorem ints_item {h₀ : Heap} {L D : Addr} {news : List (Addr × Obj)} {value slice : PySem.Expr} {vs : List Value} {ns : List Int} {c : Nat} {k : Int} {u : Tok} (N : News h₀ L s.heap news) (hm : (D, W.listOf vs.toArray c) ∈ news) (hI : IntsAre vs ns) (h0 : 0 ≤ k) (h1 : k < ns.length) (hn : ns.length ≤ 1000) (h : ∀ t, Q (.int (ns.getD k.toNat 0) t) s)
    (hs : subscripted slice false (.ref D) (.int k u) = operate [.ref D, .int k u] (getItem (.ref D) (.int k u)) := by with_unfolding_all rfl) :
    wpAny (model prog w) A (subscriptTail value slice (.ref D) (.int k u)) Q E s := by
  have hl := hI.length
  obtain ⟨j, t, e, hj⟩ := IntsAre.at hI k.toNat vs[k.toNat] (List.getElem?_eq_getElem (by omega))
  have e' : ns.getD k.toNat 0 = j := by rw [List.getD_eq_getElem?_getD, hj]; rfl
  rw [e'] at h
  have hl : s.heap.IsList D vs.toArray := ⟨_, (N _ hm).1, rfl, _, rfl⟩
  exact tail_any hl.typeIs slot_list_getitem.lookup (wpAny_getItem_list hl h0 (by omega) (by rw [List.getElem?_toArray, List.getElem?_eq_getElem (by omega), e]) (h t)) hs
end
end Mine
end

section
open PySem PySem.W PyProof.Rows
set_option maxRecDepth 100000 in
set_option maxHeartbeats 8000000 in
open_top Mine.hd for PySem.Challenge.rw_ag5010_01
end

section
open PySem PySem.W PyProof.Rows
local macro_rules | `(tactic| ktr_unf) => `(tactic| (try simp only [Mine.fibT] at *))
local macro_rules | `(tactic| bits_by_make) => `(tactic| first
  | exact (Mine.FibInv.bits (by assumption) (by omega) (by assumption)).1
  | exact (Mine.FibInv.bits (by assumption) (by omega) (by assumption)).2.1
  | exact (Mine.FibInv.bits (by assumption) (by omega) (by assumption)).2.2.1
  | exact (Mine.FibInv.bits (by assumption) (by omega) (by assumption)).2.2.2
  | exact Mine.fib_bits (k := 1000) (by omega)
  | exact Mine.bits_sign _)
local macro_rules | `(tactic| ktr_rel) => `(tactic| first | assumption | exact Mine.IntIs.mk _ _ | exact ⟨_, rfl⟩ | exact rfl | exact ⟨by omega, by omega⟩)
set_option maxHeartbeats 8000000 in
theorem Mine.ifibSpec (w : World) (mean : ExcName → Option Value) (mg mb : Str → Option Value) : ∀ d, Tells PySem.Challenge.rw_ag5010_01.row.toRowW.prog w (Mine.hd.heap_39 w.params) Mine.hd.view_39 (looseW Mine.hd.view_39 []) mean mg mb 21 Mine.fibT d := by
  k_with_none
  k_with "call ref" => ktr_call (Str.ofString "ifib") Mine.fibT
  k_with "state" => first | exact Mine.FibInv.start (by omega) | exact Mine.FibInv.odd (by assumption) (by assumption) | exact Mine.FibInv.even' (by assumption) (by assumption) (by assumption)
  k_with "measure" => first | exact Mine.FibInv.less_odd (by assumption) (by assumption) | exact Mine.FibInv.less_even (by assumption) (by assumption)
  k_with "exec While Name cons nil" => k_while_given ["m"] (fun m script a b p q n => Mine.FibInv m a b p q n) (fun m script a b p q n => n.toNat) "a" "b" "p" "q" "n"
  k_fill
  refine tells_of fun d IH => ?_
  unfold Tells
  intro dp un gd cn cs a ccd cl outer A₀ base h₀ L m news s v Q E B F X N T hk hR hok hd hu hret
  cases hR
  ktr_unf
  refine wpAny_call ?_
  k_dflt ktr_enter
  k_steps
  all_goals (
    refine' hret _ [] _ _ ?e1 ?e2 (fun _ _ _ h9 => nomatch h9) rfl ?e5
    (case e1 => k_asm)
    (case e2 => refine Mine.news_nil ?_; first | k_asm | (refine Mine.news_drop ?_; case q => exact _) | exact Mine.news_drop (by assumption))
    (case e5 => first | exact Mine.out_neg (by assumption) | exact Mine.out_fin (by assumption) (by assumption)))
end

section
open PySem PySem.W PyProof.Rows
set_option maxHeartbeats 8000000 in
theorem Mine.divSpec (w : World) (mean : ExcName → Option Value) (mg mb : Str → Option Value) : ∀ d, TellsN PySem.Challenge.rw_ag5010_01.row.toRowW.prog w (Mine.hd.heap_39 w.params) Mine.hd.view_39 (looseW Mine.hd.view_39 []) mean mg mb 28 Mine.divT d := by
  k_with_none
  k_with "state" => first | exact Mine.DivInv.start0 (Mine.abs_nn _) (Mine.abs_nn _) | exact Mine.DivInv.step1 (by assumption) (by assumption)
  k_with "pyIter ref" => k_state_given ["m!", "n!"] (fun m₀ n₀ pre m n => Mine.DivInv m₀ n₀ pre.length m n) "m" "n"
  k_fill
  intro d
  unfold TellsN
  intro dp un gd cn cs a ccd cl outer A₀ base h₀ L m news s vs Q E B F X N T hk hR hok hd hu hret
  cases hR
  dsimp only [Mine.divT] at hok hd hu hret
  refine wpAny_call ?_
  k_dflt ktr_enter
  k_steps
  all_goals (
    refine' hret _ [] _ _ ?e1 ?e2 (fun _ _ _ h9 => nomatch h9) rfl ?e5
    (case e1 => k_asm)
    (case e2 => refine Mine.news_nil ?_; first | k_asm | exact Mine.news_drop2 (by assumption) | exact Mine.news_drop (by assumption))
    (case e5 => first | exact Mine.out_gcd (by assumption) (by assumption) | exact Mine.out_gcd_end (by assumption) (rangeKs_length _ _) (by assumption)))
end

section
open PySem PySem.W PyProof.Rows
theorem Mine.ifibOf {w : World} {h : Heap} {mean : ExcName → Option Value} {mg mb : Str → Option Value} (_ : (Mine.hd.heap_39 w.params).In h) (_ : Top Mine.hd.view_39 (looseW Mine.hd.view_39 []) mean mg mb h) : ∀ d, Tells PySem.Challenge.rw_ag5010_01.row.toRowW.prog w (Mine.hd.heap_39 w.params) Mine.hd.view_39 (looseW Mine.hd.view_39 []) mean mg mb 21 Mine.fibT d := Mine.ifibSpec w mean mg mb
theorem Mine.divOf {w : World} {h : Heap} {mean : ExcName → Option Value} {mg mb : Str → Option Value} (_ : (Mine.hd.heap_39 w.params).In h) (_ : Top Mine.hd.view_39 (looseW Mine.hd.view_39 []) mean mg mb h) : ∀ d, TellsN PySem.Challenge.rw_ag5010_01.row.toRowW.prog w (Mine.hd.heap_39 w.params) Mine.hd.view_39 (looseW Mine.hd.view_39 []) mean mg mb 28 Mine.divT d := Mine.divSpec w mean mg mb
local macro_rules | `(tactic| walk_at "call ref") => `(tactic| (k_here; k_dflt (refine' Mine.fib_use ?C ?B ?F ?X ?N ?T ?hk ?ok ?hd ?hu ?_; (case C => assumption); (case B => k_asm); (case F => k_asm); (case X => k_asm); (case N => k_asm); (case T => k_asm); (case hk => first | exact rfl | assumption); (case ok => first | exact ⟨by omega, by omega⟩ | exact Mine.gcd_ok (by omega) (by omega)); (case hd => first | decide | ktr_room); (case hu => first | decide | ktr_units)); intro t9 h9 tk9 F9 N9; (try dsimp only); (try k_fold)))
local macro_rules | `(tactic| walk_at "call ref") => `(tactic| (k_here; k_dflt (refine' Mine.div_use ?C ?B ?F ?X ?N ?T ?hk ?ok ?hd ?hu ?_; (case C => assumption); (case B => k_asm); (case F => k_asm); (case X => k_asm); (case N => k_asm); (case T => k_asm); (case hk => first | exact rfl | assumption); (case ok => first | exact ⟨Mine.fib_bits (by omega), Mine.fib_bits (by omega)⟩ | exact ⟨Mine.bits_small (by omega) (by decide), Mine.bits_small (by omega) (by decide)⟩); (case hd => first | decide | ktr_room); (case hu => first | decide | ktr_units)); intro t9 h9 tk9 F9 N9; (try dsimp only); (try k_fold)))
local macro_rules | `(tactic| bits_by_make) => `(tactic| exact Mine.fib_bits (k := 900) (by omega))
local macro_rules | `(tactic| walk_at "subscriptTail List Slice") => `(tactic| (k_here; k_dflt (refine kba_turn (value' := PySem.Expr.Name (PySem.Str.ofString "_") ⟨0, 0, 0, 0⟩) (fun _ => rfl) ?_)))
local macro_rules | `(tactic| walk_at "subscriptTail List cons") => `(tactic| (k_here; k_dflt (refine kba_turn (value' := PySem.Expr.Name (PySem.Str.ofString "_") ⟨0, 0, 0, 0⟩) (fun _ => rfl) ?_)))
local macro_rules | `(tactic| walk_at "subscriptTail Name Slice ref ref") => `(tactic| (k_here; (with_reducible show wpAny _ _ (subscriptTail _ (PySem.Expr.Slice _ _ none _) (Value.ref _) (Value.ref _)) _ _ _); k_dflt (refine' kmk_slice_ints ?F ?N ?l ?p ?q ?i ?m ?c ?_ ?s ?t ?z; (case F => k_asm); (case N => k_asm); (case l => kmk_list); (case p => kmk_part); (case q => kmk_part); (case i => l_ints); (case m => first | exact kmk_upto (by l_ints) (by decide) | exact kmk_from (by l_ints) (Int.natCast_nonneg _)); (case c => kmk_len); (case s => with_unfolding_all rfl); (case t => kmk_pure); (case z => kmk_size)); intro D' ws' h' F' N' l1 hI' hC' hL'; (try simp only [Int.reduceNeg, Int.neg_neg, Int.reduceToNat] at hI' hC' hL'); (try k_lt l1); (try k_sweep)))
local macro_rules | `(tactic| walk_at "compareOp NotEq int int") => `(tactic| (k_here; k_extra "my ne"))
local macro_rules | `(tactic| walk_at "eval IfExp") => `(tactic| ((fail_if_success (with_reducible show wpAny _ _ _ (Mine.SgnEnd _ _) _ _)); k_here; k_dflt (k_extra "my if")))
local macro_rules | `(tactic| walk_at "exec If") => `(tactic| ((with_reducible show wpAny _ _ (exec (Stmt.If _ _ _ _) _) _ _ _); (fail_if_success (rename KstMark => hMk9)); (fail_if_success (with_reducible show wpAny _ _ _ (Mine.StillEnd _ _ _ _ _) _ _)); k_here; k_dflt (refine' Mine.still_cut ?F ?N ?walk ?_; (case F => k_asm); (case N => k_asm); (case walk => ((try k_fold); k_steps; done))); intro h9 tk9 F9 N9; (try dsimp only); (try k_fold)))
local macro_rules | `(tactic| walk_at "StillEnd") => `(tactic| exact Mine.StillEnd.mk (by k_asm) (by k_asm))
local macro_rules | `(tactic| walk_at "eval BinOp IfExp") => `(tactic| ((with_reducible show wpAny _ _ (eval (Expr.BinOp (Expr.IfExp _ _ _ _) Operator.Mod _ _) _) _ _ _); (fail_if_success (with_reducible show wpAny _ _ _ (Mine.LeftEnd _) _ _)); k_here; k_dflt (refine' Mine.left_cut ?walk ?_; (case walk => ((try k_fold); k_steps; done))); intro l9 t9 tk9 hl9 hh9; (try dsimp only); (try k_fold)))
local macro_rules | `(tactic| walk_at "LeftEnd") => `(tactic| exact Mine.LeftEnd.mk rfl)
local macro_rules | `(tactic| walk_at "compareOp Eq ref ref") => `(tactic| (k_extra "my eq"))
local macro_rules | `(tactic| walk_at "storeName") => `(tactic| (k_here; k_dflt (refine' storeX_C ?F ?N ?c ?U ?d ?_ ?a ?b; (case a => rfl); (case b => rfl); (case F => k_asm); (case N => exact Mine.news_drop (by k_asm)); (case c => rfl); (case U => k_updF); (case d => k_asm); k_whole); intro h' o' F' N' d'; (try dsimp only at N'); (try k_sweep)))
local macro_rules | `(tactic| walk_at "subscriptTail Name Name ref int") => `(tactic| (k_here; (with_reducible show wpAny _ _ (subscriptTail _ _ (Value.ref _) (Value.int _ _)) _ _ _); k_dflt (refine' Mine.row_item ?N ?m ?i ?lo ?hi ?n ?_ ?s; (case N => k_asm); (case m => k_mem); (case i => assumption); (case lo => omega); (case hi => omega); (case n => decide); (case s => with_unfolding_all rfl)); intro t9))
local macro_rules | `(tactic| walk_at "subscriptTail Name Name ref int") => `(tactic| (k_here; (with_reducible show wpAny _ _ (subscriptTail _ _ (Value.ref _) (Value.int _ _)) _ _ _); k_extra "my item"))
local macro_rules | `(tactic| walk_at "subscriptTail Name BinOp ref int") => `(tactic| (k_here; (with_reducible show wpAny _ _ (subscriptTail _ _ (Value.ref _) (Value.int _ _)) _ _ _); k_extra "my item"))
local macro_rules | `(tactic| walk_at "InvEndN") => `(tactic| k_dflt kst_close)
local macro_rules | `(tactic| walk_at "SgnEnd") => `(tactic| first | exact Mine.SgnEnd.even (by assumption) | exact Mine.SgnEnd.odd (by assumption))
local macro_rules | `(tactic| bits_by_make) => `(tactic| exact Mine.sgn_bits (k := 1) _ (Nat.le_refl 1))
set_option maxHeartbeats 8000000 in
theorem PySem.Challenge.cw_ag5010_01_holds : PySem.Challenge.rw_ag5010_01.Holds := by
  k_with_none
  refine Mine.hd ?_
  k_go0
  all_goals (have Ct1 := Mine.ifibOf (by assumption) (by assumption))
  all_goals (have Ct2 := Mine.divOf (by assumption) (by assumption))
  (all_goals try k_fold)
  k_with "assign Tuple cons ref" => (k_here; (with_reducible show wpAny _ _ (assign (Expr.Tuple _ _ _) _ (Value.ref _)) _ _ _); (rename CarriedAll _ _ => hCar9); (obtain ⟨x9, y9, z9, tx, ty, tz, e9, bx, by9, bz⟩ := Mine.three_of hCar9); clear hCar9; subst e9)
  k_with "my eq" => ((have e9 := Mine.no_short hG9 (by assumption)); subst e9)
  k_with "my item" => k_dflt (refine Mine.ints_item (by k_asm) (by k_mem) hI9 (by omega) (by omega) (by omega) ?_ (by with_unfolding_all rfl); intro t9)
  k_with "state" => first | exact Mine.ZInv.take1 (by assumption) (by assumption) (by assumption) (by assumption) | exact Mine.ZInv.skip1 (by assumption) (by assumption) (by assumption)
  k_with "pyIter ref" => ((with_reducible show wpAny _ _ (pyIter (Value.ref _)) (fun it s₂ => LoopAtV _ _ _ _ _ _ _ _ _ it s₂) _ _); k_here; (rename Fr _ _ _ _ => lF'); (rename News _ _ _ _ => lN'); (with_unfolding_all refine' Mine.zeck_loop (by assumption) (by assumption) rfl (by assumption) lF' (kst_newsOf lN' (by kst_inAny)) rfl (by assumption) (by assumption) (fun left9 tok9 vs9 places9 cnt9 pre9 k9 tz9 hz9 tkz9 own9 hk9 hlt9 hoff9 hI9 hZ9 hM9 hF9 hvl9 hpl9 hN9 => ?_) (fun tok9 vs9 places9 cnt9 u9 hz9 tkz9 hI9 hG9 hlen9 hM9 hF9 hN9 => ?_)); (all_goals (clear lF' lN'; (try k_fold))))
  k_with "my ne" => first
    | refine Mine.ne_known (Mine.divisor x9 y9) ?_
    | refine Mine.ne_known (Mine.fib_add x9 y9) ?_
    | refine Mine.ne_known (Mine.fib_rec x9) ?_
    | refine Mine.ne_known (Mine.cassini x9) ?_
    | refine Mine.ne_known (Mine.docagne x9 y9) ?_
    | refine Mine.ne_known (Mine.vajda x9 y9 z9) ?_
  k_with "my if" => first
    | ((with_reducible show wpAny _ _ (eval (Expr.IfExp (Expr.Compare (Expr.BinOp (Expr.Name (Str.ofString "m") _) _ _ _) _ _ _) _ _ _) _) _ _ _); refine Mine.sgn_cut x9 ?_ ?_; (· (k_steps; done)); intro t9 tk9)
    | ((with_reducible show wpAny _ _ (eval (Expr.IfExp (Expr.Compare (Expr.BinOp (Expr.Name (Str.ofString "n") _) _ _ _) _ _ _) _ _ _) _) _ _ _); refine Mine.sgn_cut y9 ?_ ?_; (· (k_steps; done)); intro t9 tk9)
    | ((with_reducible show wpAny _ _ (eval (Expr.IfExp (Expr.Compare (Expr.BinOp (Expr.Name (Str.ofString "k") _) _ _ _) _ _ _) _ _ _) _) _ _ _); refine Mine.sgn_cut z9 ?_ ?_; (· (k_steps; done)); intro t9 tk9)
  k_steps
end
