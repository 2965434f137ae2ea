/- FnScanPairsPrependOne: the law's walk, the slice empty. -/
import Derived.Test.Qxb6608571aModsSpMain
namespace Go.Proofs.Qxb6608571aMods.Sp
open Go.ChangeShapes Go.WideShapes Go.ChangeAt Go.RowKit
set_option linter.unusedVariables false

theorem copy_none (w : World) (d a : Option Addr) (c1 c2 : Nat) (ty : TypeId) : (Builtin.copy_ #[28, 28] ty #[.slice d 0 c1, .slice a 0 c2]).run Trym.prog w = .ok (.int .i64 0) w :=
  run_copy_none (P := Trym.prog) w 28 28 ty 23 d a 0 c1 0 c2 Trym.underlying28 Trym.size23 rfl
theorem scan_one (D : Nat → Nat → Nat) (k : Int) : scan D k 1 1 = [] := rfl

set_option maxHeartbeats 4000000 in
set_option maxRecDepth 10000 in
theorem main_zero (x0 : Addr) (c : Nat) (x : Nat) (k : Int) (w : World) (hx : x < 18446744073709551616) :
    Calls Trym.prog 5 #[.int .u64 x, .slice (some x0) 0 c, .int .i64 k] w fun e w' => e = .returned (.bool true) ∧ Below w.heap.size w w' := by
  have q := neq_nil
  have hcp := copy_none
  obtain ⟨i0, hi, hz0, hz1, hz2⟩ := info_parts Trym.info23
  go_enter Trym.func5, Trym.ntmps5
  go_wp2_with fail
  refine (bytes_any _ _ _ _ _ _).mono ?_
  rintro e w1 ⟨⟨r, rfl⟩, rfl⟩
  cases r with
  | false =>
    go_wp2_with fail
    go_ret
    exact ⟨rfl, Below.refl _ _⟩
  | true =>
    go_upto_region 7 with (at_make; refine wpList_make_full _ rfl (.tmp 29) (.tmp 29) 28 rfl w1.heap.size 23 i0 _ 1 Trym.underlying28 hi hz0 hz1 _ _ _ _ 0 rfl rfl rfl rfl (by rw [hz2]; omega) (by unfold maxLen; omega) (Nat.le_refl _) ?_; intro w3 hown2 hgrow2)
    have HB3 : Hid (Below w1.heap.size w1 w3) := (Below.refl _ _).grown hgrow2 (Nat.le_refl _) (fun _ h => by cases h)
    clear hown2 hgrow2
    go_upto_region 10 with (at_make; refine wpList_make_full _ rfl (.tmp 37) (.tmp 37) 28 rfl w3.heap.size 23 i0 _ 1 Trym.underlying28 hi hz0 hz1 _ _ _ _ 1 rfl rfl (by omega) (by omega) (by rw [hz2]; omega) (by unfold maxLen; omega) (Nat.le_refl _) ?_; intro w4 hown4 hgrow4)
    have hb4 : Below w3.heap.size w3 w4 := (Below.refl _ _).grown hgrow4 (Nat.le_refl _) (fun _ h => by cases h)
    obtain ⟨hblk4, hlen4, hg4⟩ := block_of_owns hown4
    have hf4 := hown4.frozenAt 0
    obtain ⟨v4, hv4⟩ : ∃ v4, w4.cell? ⟨w3.heap.size, 0, none⟩ = some v4 := ⟨_, (hown4.cellAt 0 (by omega)).trans (List.getElem?_eq_getElem (by omega))⟩
    obtain ⟨hown5, hgrow5⟩ := hown4.stored 0 (.int .u64 x)
    have hb5 : Below w3.heap.size w3 (w4.setCell ⟨w3.heap.size, 0, none⟩ (.int .u64 x)) := hb4.grown hgrow5 hb4.size (fun k e => by cases e; exact Nat.le_refl _)
    have hn5 : NumsAt (w4.setCell ⟨w3.heap.size, 0, none⟩ (.int .u64 x)) w3.heap.size 0 1 (fun _ => x) := by
      refine nums_of_block (block_of_owns hown5).1 (fun i hi => ?_)
      obtain rfl : i = 0 := by omega
      rw [List.getElem?_set_self (by omega)]
    have hs5 := (block_of_owns hown5).2.2
    obtain ⟨w5, hw5⟩ : ∃ w5, w5 = w4.setCell ⟨w3.heap.size, 0, none⟩ (.int .u64 x) := ⟨_, rfl⟩
    go_upto_region 11 with (fail)
    rw [← hw5] at hb5 hn5 hs5 ⊢
    have HN5 : Hid (NumsAt w5 w3.heap.size 0 1 (fun _ => x)) := hn5
    have HB5 : Hid (Below w1.heap.size w1 w5) := HB3.out.trans (hb5.mono HB3.out.size)
    clear hw5 hown5 hgrow5 hown4 hgrow4 hb4 hblk4 hlen4 hg4 hf4 hv4 q hn5 hb5
    go_wp2_with fail
    refine (scan_e _ _ 1 _ k (fun _ => x) (fun _ _ => pop 64 (x ^^^ x)) _ (by omega) hs5 HN5.out (fun a b _ _ w => dist_any x x w hx hx) (scan_one _ _)).mono ?_
    rintro e w7 ⟨rfl, hb7⟩
    have HB7 : Hid (Below w1.heap.size w1 w7) := HB5.out.trans (hb7.mono HB5.out.size)
    clear hb7
    go_wp2_with fail
    refine (scan_none _ _ k (fun _ _ => 0) _).mono ?_
    rintro e w8 ⟨rfl, rfl⟩
    go_wp2_with fail
    go_loopw [11, 12] (fun i b wq => i = .int .i64 0 ∧ b = .int .i64 0 ∧ wq = w8) (fun _ b _ => 0)
    case atStart => exact ⟨rfl, rfl, rfl⟩
    case round =>
      obtain ⟨rfl, rfl, rfl⟩ := hrel
      go_wp2_with fail
      go_loopw [15] (fun t wq => t = .int .i64 0 ∧ wq = wr) (fun _ _ => 0)
      case atStart => exact ⟨rfl, rfl⟩
      case round =>
        obtain ⟨rfl, rfl⟩ := hrel
        go_wp2_with fail
        refine (scan_none _ _ k (fun _ _ => 0) _).mono ?_
        rintro e wz ⟨rfl, rfl⟩
        go_wp2_with fail
        go_ret
        exact ⟨rfl, HB7.out⟩

set_option maxHeartbeats 4000000 in
set_option maxRecDepth 10000 in
theorem main_nil (x : Nat) (k : Int) (w : World) (hx : x < 18446744073709551616) :
    Calls Trym.prog 5 #[.int .u64 x, .slice none 0 0, .int .i64 k] w fun e w' => e = .returned (.bool true) ∧ Below w.heap.size w w' := by
  have q := neq_nil
  have hcp := copy_none
  obtain ⟨i0, hi, hz0, hz1, hz2⟩ := info_parts Trym.info23
  go_enter Trym.func5, Trym.ntmps5
  go_wp2_with fail
  refine (bytes_any _ _ _ _ _ _).mono ?_
  rintro e w1 ⟨⟨r, rfl⟩, rfl⟩
  cases r with
  | false =>
    go_wp2_with fail
    go_ret
    exact ⟨rfl, Below.refl _ _⟩
  | true =>
    go_upto_region 9 with (fail)
    obtain ⟨w3, hw3⟩ : ∃ w3, w3 = w1 := ⟨_, rfl⟩
    have HB3 : Hid (Below w1.heap.size w1 w3) := by rw [hw3]; exact Below.refl _ _
    rw [← hw3]
    have HW3 : Hid (w3 = w1) := hw3
    clear hw3
    go_upto_region 10 with (at_make; refine wpList_make_full _ rfl (.tmp 37) (.tmp 37) 28 rfl w3.heap.size 23 i0 _ 1 Trym.underlying28 hi hz0 hz1 _ _ _ _ 1 rfl rfl (by omega) (by omega) (by rw [hz2]; omega) (by unfold maxLen; omega) (Nat.le_refl _) ?_; intro w4 hown4 hgrow4)
    have hb4 : Below w3.heap.size w3 w4 := (Below.refl _ _).grown hgrow4 (Nat.le_refl _) (fun _ h => by cases h)
    obtain ⟨hblk4, hlen4, hg4⟩ := block_of_owns hown4
    have hf4 := hown4.frozenAt 0
    obtain ⟨v4, hv4⟩ : ∃ v4, w4.cell? ⟨w3.heap.size, 0, none⟩ = some v4 := ⟨_, (hown4.cellAt 0 (by omega)).trans (List.getElem?_eq_getElem (by omega))⟩
    obtain ⟨hown5, hgrow5⟩ := hown4.stored 0 (.int .u64 x)
    have hb5 : Below w3.heap.size w3 (w4.setCell ⟨w3.heap.size, 0, none⟩ (.int .u64 x)) := hb4.grown hgrow5 hb4.size (fun k e => by cases e; exact Nat.le_refl _)
    have hn5 : NumsAt (w4.setCell ⟨w3.heap.size, 0, none⟩ (.int .u64 x)) w3.heap.size 0 1 (fun _ => x) := by
      refine nums_of_block (block_of_owns hown5).1 (fun i hi => ?_)
      obtain rfl : i = 0 := by omega
      rw [List.getElem?_set_self (by omega)]
    have hs5 := (block_of_owns hown5).2.2
    obtain ⟨w5, hw5⟩ : ∃ w5, w5 = w4.setCell ⟨w3.heap.size, 0, none⟩ (.int .u64 x) := ⟨_, rfl⟩
    go_upto_region 11 with (fail)
    rw [← hw5] at hb5 hn5 hs5 ⊢
    have HN5 : Hid (NumsAt w5 w3.heap.size 0 1 (fun _ => x)) := hn5
    have HB5 : Hid (Below w1.heap.size w1 w5) := HB3.out.trans (hb5.mono HB3.out.size)
    clear hw5 hown5 hgrow5 hown4 hgrow4 hb4 hblk4 hlen4 hg4 hf4 hv4 q hn5 hb5
    go_wp2_with fail
    refine (scan_e _ _ 1 _ k (fun _ => x) (fun _ _ => pop 64 (x ^^^ x)) _ (by omega) hs5 HN5.out (fun a b _ _ w => dist_any x x w hx hx) (scan_one _ _)).mono ?_
    rintro e w7 ⟨rfl, hb7⟩
    have HB7 : Hid (Below w1.heap.size w1 w7) := HB5.out.trans (hb7.mono HB5.out.size)
    clear hb7
    go_wp2_with fail
    refine (scan_none _ _ k (fun _ _ => 0) _).mono ?_
    rintro e w8 ⟨rfl, rfl⟩
    go_wp2_with fail
    go_loopw [11, 12] (fun i b wq => i = .int .i64 0 ∧ b = .int .i64 0 ∧ wq = w8) (fun _ b _ => 0)
    case atStart => exact ⟨rfl, rfl, rfl⟩
    case round =>
      obtain ⟨rfl, rfl, rfl⟩ := hrel
      go_wp2_with fail
      go_loopw [15] (fun t wq => t = .int .i64 0 ∧ wq = wr) (fun _ _ => 0)
      case atStart => exact ⟨rfl, rfl⟩
      case round =>
        obtain ⟨rfl, rfl⟩ := hrel
        go_wp2_with fail
        refine (scan_none _ _ k (fun _ _ => 0) _).mono ?_
        rintro e wz ⟨rfl, rfl⟩
        go_wp2_with fail
        go_ret
        exact ⟨rfl, HB7.out⟩

end Go.Proofs.Qxb6608571aMods.Sp
