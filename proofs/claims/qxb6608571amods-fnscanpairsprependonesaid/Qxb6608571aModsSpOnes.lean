/- FnScanPairsPrependOne: math/bits.OnesCount64, Distance and zzOnes count the ones. -/
import Derived.Test.Qxb6608571aModsRows
import Derived.Test.Qxb6608571aModsSpBits
import Derived.WalkKit
import Derived.ProofKit
import Derived.OpenShut
import Derived.Deep.Cut
namespace Go.Proofs.Qxb6608571aMods.Sp
open Go.ChangeShapes Go.WideShapes Go.ChangeAt Go.RowKit
set_option linter.unusedVariables false

theorem bits_and_u64 (a b : Nat) (ha : a < 18446744073709551616) (hb : b < 18446744073709551616) :
    bits .and .u64 (a : Int) (b : Int) = ((a &&& b : Nat) : Int) := by
  have hx : a &&& b < 2 ^ 64 := Nat.and_lt_two_pow a (by omega)
  have h1 : (BitVec.ofInt 64 (a : Int)).toNat = a := by
    rw [BitVec.ofInt_natCast, BitVec.toNat_ofNat]; exact Nat.mod_eq_of_lt (by omega)
  have h2 : (BitVec.ofInt 64 (b : Int)).toNat = b := by
    rw [BitVec.ofInt_natCast, BitVec.toNat_ofNat]; exact Nat.mod_eq_of_lt (by omega)
  show IntKind.u64.wrap ((BitVec.ofInt 64 (a : Int) &&& BitVec.ofInt 64 (b : Int)).toNat : Int) = _
  rw [BitVec.toNat_and, h1, h2, IntKind.wrap_u64]
  omega

theorem msk55 : msk 0x55 8 = 6148914691236517205 := by decide
theorem msk33 : msk 0x33 8 = 3689348814741910323 := by decide
theorem msk0f : msk 0x0f 8 = 1085102592571150095 := by decide
theorem msk68 : msk 68 8 = 4919131752989213764 := by decide

theorem L1 (x : Nat) (h : x < 18446744073709551616) : IntKind.u64.wrap (bits .and .u64 ((x : Int) / 2) 6148914691236517205 + bits .and .u64 (x : Int) 6148914691236517205) = ((S1 8 x : Nat) : Int) := by
  have e1 := bits_and_u64 (x / 2) 6148914691236517205 (by omega) (by omega)
  have e2 := bits_and_u64 x 6148914691236517205 h (by omega)
  rw [Int.natCast_ediv] at e1
  have b1 : x / 2 &&& 6148914691236517205 ≤ 6148914691236517205 := Nat.and_le_right
  have b2 : x &&& 6148914691236517205 ≤ 6148914691236517205 := Nat.and_le_right
  unfold S1
  rw [msk55, IntKind.wrap_u64]
  rw [show ((6148914691236517205 : Nat) : Int) = 6148914691236517205 from rfl, show ((2 : Nat) : Int) = 2 from rfl] at e1
  rw [show ((6148914691236517205 : Nat) : Int) = 6148914691236517205 from rfl] at e2
  rw [e1, e2]
  omega
theorem L2 (x : Nat) (h : x < 18446744073709551616) : IntKind.u64.wrap (bits .and .u64 ((x : Int) / 4) 3689348814741910323 + bits .and .u64 (x : Int) 3689348814741910323) = ((S2 8 x : Nat) : Int) := by
  have e1 := bits_and_u64 (x / 4) 3689348814741910323 (by omega) (by omega)
  have e2 := bits_and_u64 x 3689348814741910323 h (by omega)
  rw [Int.natCast_ediv] at e1
  have b1 : x / 4 &&& 3689348814741910323 ≤ 3689348814741910323 := Nat.and_le_right
  have b2 : x &&& 3689348814741910323 ≤ 3689348814741910323 := Nat.and_le_right
  unfold S2
  rw [msk33, IntKind.wrap_u64]
  rw [show ((3689348814741910323 : Nat) : Int) = 3689348814741910323 from rfl, show ((4 : Nat) : Int) = 4 from rfl] at e1
  rw [show ((3689348814741910323 : Nat) : Int) = 3689348814741910323 from rfl] at e2
  rw [e1, e2]
  omega
theorem L3 (x : Nat) (h : x ≤ 4919131752989213764) : bits .and .u64 (IntKind.u64.wrap ((x : Int) / 16 + (x : Int))) 1085102592571150095 = ((S3 8 x : Nat) : Int) := by
  have e1 := bits_and_u64 (x / 16 + x) 1085102592571150095 (by omega) (by omega)
  unfold S3
  rw [msk0f, ← e1, IntKind.wrap_u64, show ((1085102592571150095 : Nat) : Int) = 1085102592571150095 from rfl]
  congr 1
  omega
theorem L4 (x : Nat) (h : x + x / 256 < 2 ^ 63) : IntKind.u64.wrap ((x : Int) + (x : Int) / 256) = ((x + x / 256 : Nat) : Int) := by
  rw [IntKind.wrap_u64]; omega
theorem L5 (x : Nat) (h : x + x / 65536 < 2 ^ 63) : IntKind.u64.wrap ((x : Int) + (x : Int) / 65536) = ((x + x / 65536 : Nat) : Int) := by
  rw [IntKind.wrap_u64]; omega
theorem L6 (x : Nat) (h : x + x / 4294967296 < 2 ^ 63) : IntKind.u64.wrap ((x : Int) + (x : Int) / 4294967296) = ((x + x / 4294967296 : Nat) : Int) := by
  rw [IntKind.wrap_u64]; omega

theorem S1_lt (x : Nat) : S1 8 x < 18446744073709551616 := by
  have b1 : x / 2 &&& 6148914691236517205 ≤ 6148914691236517205 := Nat.and_le_right
  have b2 : x &&& 6148914691236517205 ≤ 6148914691236517205 := Nat.and_le_right
  unfold S1
  rw [msk55]
  omega

theorem T_unroll (n x : Nat) : S3 (n + 1) (S21 (n + 1) x) = S3 n (S21 n (x / 256)) * 256 + pop 8 (x % 256) := by
  have := T_step n (x / 256) (x % 256) (by omega)
  rwa [show x / 256 * 256 + x % 256 = x by omega] at this
theorem pop_unroll (f x : Nat) : pop (f + 8) x = pop f (x / 256) + pop 8 (x % 256) := by
  have := pop_split f (x / 256) 8 (x % 256) (by omega)
  rwa [show x / 256 * 2 ^ 8 + x % 256 = x by omega] at this

/-- the three last sums of the bytes' counts -/
def y3 (x : Nat) : Nat := S3 8 (S21 8 x)
def y4 (x : Nat) : Nat := y3 x + y3 x / 256
def y5 (x : Nat) : Nat := y4 x + y4 x / 65536
def y6 (x : Nat) : Nat := y5 x + y5 x / 4294967296
theorem sums (x : Nat) : y6 x % 128 = pop 64 x ∧ y4 x < 2 ^ 63 ∧ y5 x < 2 ^ 63 ∧ y6 x < 2 ^ 63 := by
  have z : ∀ y, S3 0 (S21 0 y) = 0 := fun y => by simp [S3, msk]
  have e3 : y3 x = ((((((pop 8 (x / 256 / 256 / 256 / 256 / 256 / 256 / 256 % 256) * 256 + pop 8 (x / 256 / 256 / 256 / 256 / 256 / 256 % 256)) * 256 + pop 8 (x / 256 / 256 / 256 / 256 / 256 % 256)) * 256 + pop 8 (x / 256 / 256 / 256 / 256 % 256)) * 256 + pop 8 (x / 256 / 256 / 256 % 256)) * 256 + pop 8 (x / 256 / 256 % 256)) * 256 + pop 8 (x / 256 % 256)) * 256 + pop 8 (x % 256) := by
    unfold y3
    rw [T_unroll 7, T_unroll 6, T_unroll 5, T_unroll 4, T_unroll 3, T_unroll 2, T_unroll 1, T_unroll 0, z]
    simp
  have hp : pop 64 x = pop 8 (x % 256) + pop 8 (x / 256 % 256) + pop 8 (x / 256 / 256 % 256) + pop 8 (x / 256 / 256 / 256 % 256) + pop 8 (x / 256 / 256 / 256 / 256 % 256) + pop 8 (x / 256 / 256 / 256 / 256 / 256 % 256) + pop 8 (x / 256 / 256 / 256 / 256 / 256 / 256 % 256) + pop 8 (x / 256 / 256 / 256 / 256 / 256 / 256 / 256 % 256) := by
    rw [pop_unroll 56, pop_unroll 48, pop_unroll 40, pop_unroll 32, pop_unroll 24, pop_unroll 16, pop_unroll 8, pop_unroll 0]
    simp only [pop]
    omega
  have := last_sums _ _ _ _ _ _ _ _ (y4 x) (y5 x) (y6 x) (y3 x) (pop_le 8 (x % 256)) (pop_le 8 (x / 256 % 256)) (pop_le 8 (x / 256 / 256 % 256)) (pop_le 8 (x / 256 / 256 / 256 % 256)) (pop_le 8 (x / 256 / 256 / 256 / 256 % 256)) (pop_le 8 (x / 256 / 256 / 256 / 256 / 256 % 256)) (pop_le 8 (x / 256 / 256 / 256 / 256 / 256 / 256 % 256)) (pop_le 8 (x / 256 / 256 / 256 / 256 / 256 / 256 / 256 % 256)) e3 rfl rfl rfl
  rw [hp]
  exact this

theorem ret_int {k : IntKind} {a b : Int} (h : a = b) : Ending.returned (.int k a) = .returned (.int k b) := by rw [h]
theorem L7 (y : Nat) (h : y < 2 ^ 63) : bits .and .i64 (wrap64 (y : Int)) 127 = ((y % 128 : Nat) : Int) := by
  have hw : wrap64 (y : Int) = (y : Int) := IntWalk.wrap64_in _ ⟨by omega, by omega⟩
  rw [hw]
  have h1 : (BitVec.ofInt 64 (y : Int)).toNat = y := by
    rw [BitVec.ofInt_natCast, BitVec.toNat_ofNat]; exact Nat.mod_eq_of_lt (by omega)
  have hm : y &&& 127 = y % 128 := Nat.and_two_pow_sub_one_eq_mod y 7
  show IntKind.i64.wrap ((BitVec.ofInt 64 (y : Int) &&& BitVec.ofInt 64 127).toNat : Int) = _
  rw [BitVec.toNat_and, h1, show (BitVec.ofInt 64 127).toNat = 127 from rfl, hm, IntKind.wrap_i64]
  omega

theorem ones_any (x : Nat) (w : World) (h : x < 18446744073709551616) : Calls Trym.prog 10 #[.int .u64 x] w fun e w' => e = .returned (.int .i64 (pop 64 x)) ∧ w' = w := by
  have e1 := L1 x h
  have e2 := L2 (S1 8 x) (S1_lt x)
  have e3 := L3 (S21 8 x) (by have := S21_lt 8 x; rw [msk68] at this; exact this)
  have HH : Hid (x < 18446744073709551616) := h
  clear h
  obtain ⟨hs, b4, b5, b6⟩ := sums x
  have e4 := L4 (y3 x) b4
  have e5 := L5 (y4 x) b5
  have e6 := L6 (y5 x) b6
  have E1 : Hid _ := e1
  have E2 : Hid _ := e2
  have E3 : Hid _ := e3
  have E4 : Hid _ := e4
  have E5 : Hid _ := e5
  have E6 : Hid _ := e6
  have HS : Hid _ := hs
  have B6 : Hid _ := b6
  clear e1 e2 e3 e4 e5 e6 hs b4 b5 b6
  go_enter Trym.func10, Trym.ntmps10
  go_upto_region 2 with (fail)
  rw [E1.out]
  go_upto_region 3 with (fail)
  rw [E2.out]
  rw [show S2 8 (S1 8 x) = S21 8 x from rfl]
  go_upto_region 4 with (fail)
  rw [E3.out]
  rw [show S3 8 (S21 8 x) = y3 x from rfl]
  go_upto_region 5 with (fail)
  rw [E4.out]
  rw [show y3 x + y3 x / 256 = y4 x from rfl]
  go_upto_region 6 with (fail)
  rw [E5.out]
  rw [show y4 x + y4 x / 65536 = y5 x from rfl]
  go_upto_region 7 with (fail)
  rw [E6.out]
  rw [show y5 x + y5 x / 4294967296 = y6 x from rfl]
  go_wp2
  go_ret
  exact ⟨ret_int (by rw [L7 _ B6.out, HS.out]), rfl⟩

theorem dist_any (x y : Nat) (w : World) (hx : x < 18446744073709551616) (hy : y < 18446744073709551616) : Calls Trym.prog 6 #[.int .u64 x, .int .u64 y] w fun e w' => e = .returned (.int .i64 (pop 64 (x ^^^ y))) ∧ w' = w := by
  have e := bits_xor_u64_nat x y hx hy
  have hl : x ^^^ y < 18446744073709551616 := Nat.xor_lt_two_pow (n := 64) hx hy
  go_enter Trym.func6, Trym.ntmps6
  go_wp2_with fail
  refine (ones_any (x ^^^ y) _ hl).mono ?_
  rintro e w' ⟨rfl, rfl⟩
  go_wp2_with fail
  go_ret
  exact ⟨rfl, rfl⟩

theorem clear_bits (z : Nat) (h0 : 0 < z) (hz : z < 18446744073709551616) : bits .and .u64 (z : Int) ((z : Int) - 1) = ((z &&& (z - 1) : Nat) : Int) := by
  rw [← bits_and_u64 z (z - 1) hz (by omega)]
  congr 1
  omega

/-- zzOnes, the count an unknown function p of which three things are known -/
theorem zzones_p (p : Nat → Nat) (p0 : p 0 = 0) (ple : ∀ x, p x ≤ 64) (pcl : Hid (∀ z, 0 < z → z < 18446744073709551616 → p (z &&& (z - 1)) + 1 = p z)) (x : Nat) (w : World) (h : x < 18446744073709551616) :
    Calls Trym.prog 9 #[.int .u64 x] w fun e w' => e = .returned (.int .i64 (p x)) ∧ w' = w := by
  go_enter Trym.func9, Trym.ntmps9
  go_wp2
  go_loop [0, 3] (fun t i => ∃ (z k : Nat), i = .int .i64 k ∧ t = .int .u64 z ∧ z < 18446744073709551616 ∧ Hid (p z + k = p x)) (fun t _ => (intOf t).toNat)
  case atStart => exact ⟨x, 0, rfl, rfl, h, Nat.add_zero _⟩
  case round =>
    obtain ⟨z, k, rfl, rfl, hz, hk⟩ := hrel
    have hk64 : k ≤ 64 := by have := hk.out; have := ple x; omega
    by_cases hzz : z = 0
    · go_wp2
      go_ret
      exact ⟨ret_int (by have := hk.out; rw [hzz, p0] at this; omega), rfl⟩
    · have hz0 : 0 < z := by omega
      have HCL : Hid (bits .and .u64 (z : Int) ((z : Int) - 1) = ((z &&& (z - 1) : Nat) : Int)) := clear_bits z hz0 hz
      have HPC : Hid (p (z &&& (z - 1)) + 1 = p z) := pcl.out z hz0 hz
      have HLE : Hid (z &&& (z - 1) ≤ z - 1) := Nat.and_le_right
      clear pcl p0 ple
      go_wp2
      go_round
      case rel => exact ⟨z &&& (z - 1), k + 1, by go_num, by rw [HCL.out], by have := HLE.out; omega, by have := HPC.out; have := hk.out; unfold Hid; omega⟩
      case measure => rw [HCL.out]; simp only [intOf]; have := HLE.out; omega
theorem zzones_any (x : Nat) (w : World) (h : x < 18446744073709551616) : Calls Trym.prog 9 #[.int .u64 x] w fun e w' => e = .returned (.int .i64 (pop 64 x)) ∧ w' = w :=
  zzones_p (pop 64) (pop_zero 64) (pop_le 64) (fun z h0 h1 => pop_clear 64 z h0 h1) x w h
end Go.Proofs.Qxb6608571aMods.Sp
