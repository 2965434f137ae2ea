/- FnScanPairsPrependOne: plain mathematics on bits: math/bits.OnesCount64's sums, and clearing the lowest one, both count the ones. -/
import Derived.Laws.Bits64
namespace Go.Proofs.Qxb6608571aMods.Sp

/-- the ones among the lowest f bits -/
def pop : Nat → Nat → Nat
  | 0, _ => 0
  | f + 1, x => x % 2 + pop f (x / 2)
theorem pop_zero : ∀ f, pop f 0 = 0
  | 0 => rfl
  | f + 1 => by simp [pop, pop_zero f]
theorem pop_le : ∀ f x, pop f x ≤ f
  | 0, _ => Nat.le_refl _
  | f + 1, x => by have := pop_le f (x / 2); simp only [pop]; omega
theorem pop_split (f h : Nat) : ∀ k l, l < 2 ^ k → pop (f + k) (h * 2 ^ k + l) = pop f h + pop k l
  | 0, l, hl => by
    obtain rfl : l = 0 := by omega
    simp [pop]
  | k + 1, l, hl => by
    rw [← Nat.add_assoc, pop, pop]
    have e1 : (h * 2 ^ (k + 1) + l) % 2 = l % 2 := by rw [Nat.pow_succ, ← Nat.mul_assoc]; omega
    have e2 : (h * 2 ^ (k + 1) + l) / 2 = h * 2 ^ k + l / 2 := by rw [Nat.pow_succ, ← Nat.mul_assoc]; omega
    rw [e1, e2, pop_split f h k (l / 2) (by rw [Nat.pow_succ] at hl; omega)]
    omega

/-! ### clearing the lowest one -/
theorem land_pred_odd (y : Nat) : (2 * y + 1) &&& (2 * y) = 2 * y := by
  apply Nat.eq_of_testBit_eq
  intro j
  rw [Nat.testBit_and]
  cases j with
  | zero => simp
  | succ j => simp [Nat.testBit_succ, show (2 * y + 1) / 2 = y by omega]
theorem land_pred_even (y : Nat) (hy : 0 < y) : (2 * y) &&& (2 * y - 1) = 2 * (y &&& (y - 1)) := by
  apply Nat.eq_of_testBit_eq
  intro j
  rw [Nat.testBit_and]
  cases j with
  | zero => simp
  | succ j => simp [Nat.testBit_succ, show (2 * y - 1) / 2 = y - 1 by omega]
theorem pop_clear : ∀ f x, 0 < x → x < 2 ^ f → pop f (x &&& (x - 1)) + 1 = pop f x
  | 0, x, h0, h1 => by simp at h1; omega
  | f + 1, x, h0, h1 => by
    rcases Nat.mod_two_eq_zero_or_one x with h | h
    · obtain ⟨y, rfl⟩ : ∃ y, x = 2 * y := ⟨x / 2, by omega⟩
      rw [land_pred_even y (by omega)]
      have := pop_clear f y (by omega) (by rw [Nat.pow_succ] at h1; omega)
      simp only [pop]
      rw [show 2 * (y &&& (y - 1)) % 2 = 0 by omega, show 2 * (y &&& (y - 1)) / 2 = y &&& (y - 1) by omega, show 2 * y % 2 = 0 by omega, show 2 * y / 2 = y by omega]
      omega
    · obtain ⟨y, rfl⟩ : ∃ y, x = 2 * y + 1 := ⟨x / 2, by omega⟩
      rw [show 2 * y + 1 - 1 = 2 * y by omega, land_pred_odd]
      simp only [pop]
      rw [show 2 * y % 2 = 0 by omega, show 2 * y / 2 = y by omega, show (2 * y + 1) % 2 = 1 by omega, show (2 * y + 1) / 2 = y by omega]
      omega

/-! ### OnesCount64, byte by byte -/
theorem and_split (H K a b : Nat) (ha : a < 256) (hb : b < 256) : (H * 256 + a) &&& (K * 256 + b) = (H &&& K) * 256 + (a &&& b) := by
  have hab : a &&& b < 2 ^ 8 := Nat.and_lt_two_pow a (by omega)
  apply Nat.eq_of_testBit_eq
  intro j
  rw [Nat.testBit_and, show H * 256 + a = 2 ^ 8 * H + a by omega, show K * 256 + b = 2 ^ 8 * K + b by omega, show (H &&& K) * 256 + (a &&& b) = 2 ^ 8 * (H &&& K) + (a &&& b) by omega]
  rw [Nat.testBit_two_pow_mul_add _ (by omega), Nat.testBit_two_pow_mul_add _ (by omega), Nat.testBit_two_pow_mul_add _ hab]
  split <;> simp [Nat.testBit_and]

/-- the byte c, n times -/
def msk (c : Nat) : Nat → Nat
  | 0 => 0
  | n + 1 => msk c n * 256 + c
def S1 (n x : Nat) : Nat := (x / 2 &&& msk 0x55 n) + (x &&& msk 0x55 n)
def S2 (n x : Nat) : Nat := (x / 4 &&& msk 0x33 n) + (x &&& msk 0x33 n)
def S3 (n x : Nat) : Nat := (x / 16 + x) &&& msk 0x0f n

theorem byte1 : ∀ l : Fin 256, ∀ e : Fin 2, (e.val * 128 + l.val / 2) &&& 0x55 = l.val / 2 &&& 0x55 := by decide +kernel
theorem byte2 : ∀ l : Fin 256, ∀ e : Fin 4, (e.val * 64 + l.val / 4) &&& 0x33 = l.val / 4 &&& 0x33 := by decide +kernel
def g1 (l : Nat) : Nat := (l / 2 &&& 0x55) + (l &&& 0x55)
def g2 (l : Nat) : Nat := (l / 4 &&& 0x33) + (l &&& 0x33)
theorem g1_lt : ∀ l : Fin 256, g1 l.val < 256 := by decide +kernel
theorem g2_lt : ∀ l : Fin 256, g2 l.val < 256 := by decide +kernel
theorem g21 : ∀ l : Fin 256, g2 (g1 l.val) % 16 ≤ 4 ∧ g2 (g1 l.val) ≤ 68 := by decide +kernel
theorem byte3 : ∀ l : Fin 256, ∀ e : Fin 5, (e.val * 16 + g2 (g1 l.val) / 16 + g2 (g1 l.val)) &&& 0x0f = pop 8 l.val := by decide +kernel

theorem S1_step (n h l : Nat) (hl : l < 256) : S1 (n + 1) (h * 256 + l) = S1 n h * 256 + g1 l := by
  unfold S1 g1
  rw [msk, show (h * 256 + l) / 2 = h / 2 * 256 + (h % 2 * 128 + l / 2) by omega, and_split _ _ _ _ (by omega) (by omega), and_split _ _ _ _ hl (by omega)]
  have := byte1 ⟨l, hl⟩ ⟨h % 2, by omega⟩
  simp only at this
  rw [this, Nat.add_mul]
  omega
theorem S2_step (n h l : Nat) (hl : l < 256) : S2 (n + 1) (h * 256 + l) = S2 n h * 256 + g2 l := by
  unfold S2 g2
  rw [msk, show (h * 256 + l) / 4 = h / 4 * 256 + (h % 4 * 64 + l / 4) by omega, and_split _ _ _ _ (by omega) (by omega), and_split _ _ _ _ hl (by omega)]
  have := byte2 ⟨l, hl⟩ ⟨h % 4, by omega⟩
  simp only at this
  rw [this, Nat.add_mul]
  omega
/-- behind the first two steps -/
def S21 (n x : Nat) : Nat := S2 n (S1 n x)
theorem S21_step (n h l : Nat) (hl : l < 256) : S21 (n + 1) (h * 256 + l) = S21 n h * 256 + g2 (g1 l) := by
  unfold S21
  rw [S1_step n h l hl, S2_step n _ _ (g1_lt ⟨l, hl⟩)]
theorem S21_nib (n x : Nat) : S21 n x % 16 ≤ 4 := by
  cases n with
  | zero => simp [S21, S2, msk]
  | succ n =>
    have e : x = x / 256 * 256 + x % 256 := by omega
    rw [e, S21_step n _ _ (by omega)]
    have := (g21 ⟨x % 256, by omega⟩).1
    simp only at this
    omega
theorem T_step (n h l : Nat) (hl : l < 256) : S3 (n + 1) (S21 (n + 1) (h * 256 + l)) = S3 n (S21 n h) * 256 + pop 8 l := by
  rw [S21_step n h l hl]
  have hn := S21_nib n h
  have hg := (g21 ⟨l, hl⟩).2
  simp only at hg
  unfold S3
  rw [msk, show (S21 n h * 256 + g2 (g1 l)) / 16 + (S21 n h * 256 + g2 (g1 l)) = (S21 n h / 16 + S21 n h) * 256 + (S21 n h % 16 * 16 + g2 (g1 l) / 16 + g2 (g1 l)) by omega, and_split _ _ _ _ (by omega) (by omega)]
  have := byte3 ⟨l, hl⟩ ⟨S21 n h % 16, by omega⟩
  simp only at this
  rw [this]
theorem S21_lt (n x : Nat) : S21 n x ≤ msk 68 n := by
  induction n generalizing x with
  | zero => simp [S21, S2, msk]
  | succ n ih =>
    have e : x = x / 256 * 256 + x % 256 := by omega
    rw [e, S21_step n _ _ (by omega), msk]
    have := (g21 ⟨x % 256, by omega⟩).2
    have := ih (x / 256)
    simp only at *
    omega

/-- the last three sums -/
theorem last_sums (p0 p1 p2 p3 p4 p5 p6 p7 y4 y5 y6 x3 : Nat) (h0 : p0 ≤ 8) (h1 : p1 ≤ 8) (h2 : p2 ≤ 8) (h3 : p3 ≤ 8) (h4 : p4 ≤ 8) (h5 : p5 ≤ 8) (h6 : p6 ≤ 8) (h7 : p7 ≤ 8)
    (e3 : x3 = ((((((p7 * 256 + p6) * 256 + p5) * 256 + p4) * 256 + p3) * 256 + p2) * 256 + p1) * 256 + p0)
    (e4 : y4 = x3 + x3 / 256) (e5 : y5 = y4 + y4 / 65536) (e6 : y6 = y5 + y5 / 4294967296) : y6 % 128 = p0 + p1 + p2 + p3 + p4 + p5 + p6 + p7 ∧ y4 < 2 ^ 63 ∧ y5 < 2 ^ 63 ∧ y6 < 2 ^ 63 := by
  have q4 : y4 = (((((((p7) * 256 + (p6 + p7)) * 256 + (p5 + p6)) * 256 + (p4 + p5)) * 256 + (p3 + p4)) * 256 + (p2 + p3)) * 256 + (p1 + p2)) * 256 + (p0 + p1) := by omega
  clear e4 e3
  have q5 : y5 = (((((((p7) * 256 + (p6 + p7)) * 256 + (p5 + p6 + p7)) * 256 + (p4 + p5 + p6 + p7)) * 256 + (p3 + p4 + p5 + p6)) * 256 + (p2 + p3 + p4 + p5)) * 256 + (p1 + p2 + p3 + p4)) * 256 + (p0 + p1 + p2 + p3) := by omega
  have q6 : y5 / 4294967296 = ((p7 * 256 + (p6 + p7)) * 256 + (p5 + p6 + p7)) * 256 + (p4 + p5 + p6 + p7) := by clear e6 e5 q4; omega
  refine ⟨?_, by omega, by omega, by omega⟩
  rw [q6, q5] at e6
  clear q4 e5 q5 q6
  omega
end Go.Proofs.Qxb6608571aMods.Sp
