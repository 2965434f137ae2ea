/- FnFindHalvesPathAndRepeats: the walk of zzCopyInts. -/
import Derived.Test.Qxb6608781aModsFrSmall
namespace Go.Proofs.Qxb6608781aMods.Fr
open Go.ChangeShapes Go.WideShapes Go.ChangeAt Go.RowKit
set_option linter.unusedVariables false

theorem Trym.info3 : (Trym.prog.info? 3).map (fun i => (i.zero, i.size, i.bytes)) = some (some (.int .i64 0), 1, 8) := by kernel_rfl
theorem nil_eq (w : World) (a : Option Addr) (n c n' c' : Nat) : (binOp .eql 22 (.slice a n c) (.slice none n' c')).run Trym.prog w = .ok (.bool a.isNone) w := Lib.run_eql_slice_nil w _ _ a n c n' c' Trym.underlying22
theorem make_row (n : Nat) (hn : n ≤ 65536) (w : World) : (Instr.makeSlice 22 (.int .i64 (n : Int)) (.int .i64 (n : Int))).run Trym.prog w = .ok (.slice (some ⟨w.heap.size, 0, none⟩) n n) (w.alloc (.cells (madeCells #[.int .i64 0] n) 3)) :=
  run_make_row' (P := Trym.prog) 22 3 (.int .i64 0) 8 Trym.underlying22 Trym.info3 rfl .i64 .i64 n (by omega) (by omega) w
theorem made_row (w : World) (n : Nat) : (w.alloc (.cells (madeCells #[.int .i64 0] n) 3)).rowIs w.heap.size 3 n (V (fun _ => 0)) := World.rowIs_made w (.int .i64 0) n 3

/-- the numbers that lie from ⟨b, o⟩ on -/
def IntsAt (w : World) (b o n : Nat) (d : Nat → Int) : Prop := ∀ i, i < n → w.cell? ⟨b, o + i, none⟩ = some (.int .i64 (d i))
theorem IntsAt.below {w w' : World} {b o n B : Nat} {d : Nat → Int} (h : IntsAt w b o n d) (hb : Below B w w') (hlt : b < B) : IntsAt w' b o n d :=
  fun i hi => (hb.cell (p := ⟨b, _, none⟩) hlt).trans (h i hi)
theorem ints_of_row {w : World} {g n : Nat} {c : Nat → Nat} (h : w.rowIs g 3 n (V c)) : IntsAt w g 0 n (dC c) := fun i hi => by rw [Nat.zero_add]; exact h.cell hi

theorem upd_to {f c : Nat → Nat} {k : Nat} (h : ∀ j, j < k → f j = c j) : ∀ j, j < k + 1 → upd f k (c k) j = c j := by
  intro j hj
  by_cases e : j = k
  · subst e; exact upd_same _ _ _
  · rw [upd_ne e]; exact h j (by omega)

set_option maxHeartbeats 1000000 in
theorem copy_any (b o n cp : Nat) (c : Nat → Nat) (w : World) (hn : n ≤ 65536) (hb : b < w.heap.size) (hc : IntsAt w b o n (dC c)) :
    Calls Trym.prog 7 #[.slice (some ⟨b, o, none⟩) n cp] w fun e w' => ∃ g, e = .returned (.slice (some ⟨g, 0, none⟩) n n) ∧ w'.rowIs g 3 n (V c) ∧ Below w.heap.size w w' ∧ w.heap.size ≤ g := by
  have HC : Hid (IntsAt w b o n (dC c)) := hc
  clear hc
  have q := nil_eq
  have hmk := make_row n hn
  go_enter Trym.func7, Trym.ntmps7
  go_wp2_with fail
  clear q hmk
  go_loopw [4] (fun i wr => ∃ (k : Nat) (f : Nat → Nat), k ≤ n ∧ i = .int .i64 k ∧ (∀ j, j < k → f j = c j) ∧ wr.rowIs w.heap.size 3 n (V f) ∧ Below w.heap.size w wr) (fun i _ => n - (intOf i).toNat)
  case atStart => exact ⟨0, fun _ => 0, Nat.zero_le _, rfl, fun j hj => absurd hj (by omega), made_row w n, (Below.refl _ _).alloc (Nat.le_refl _) _⟩
  case round =>
    obtain ⟨k, f, hk, rfl, hf, hrow, hbk⟩ := hrel
    have HFc : Hid (∀ j, j < k → f j = c j) := hf
    have HRow : Hid (wr.rowIs w.heap.size 3 n (V f)) := hrow
    clear hf
    by_cases hlt : k < n
    · have hcell : wr.cell? ⟨b, o + k, none⟩ = some (.int .i64 (c k)) := HC.out.below hbk hb k hlt
      have hst : wr.cell? ⟨w.heap.size, k, none⟩ = some (.int .i64 (f k)) := hrow.cell hlt
      have hfz := hrow.frozen k
      clear hrow
      go_wp2_with fail
      go_roundw
      case rel => exact ⟨k + 1, upd f k (c k), by omega, by go_num, upd_to HFc.out, row_upd HRow.out k (c k), hbk.setCell (Nat.le_refl _) _⟩
      case measure => simp [intOf]; omega
    · clear hrow
      go_wp2_with fail
      go_ret
      exact ⟨w.heap.size, rfl, HRow.out.congr (fun i hi => by simp only [V]; rw [HFc.out i (by omega)]), hbk, Nat.le_refl _⟩
end Go.Proofs.Qxb6608781aMods.Fr
