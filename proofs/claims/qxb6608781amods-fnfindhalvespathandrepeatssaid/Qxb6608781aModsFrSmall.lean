/- FnFindHalvesPathAndRepeats: the walks of find, zzCopyInts and the bound. -/
import Derived.Test.Qxb6608781aModsRows
import Derived.Test.Qxb6608781aModsFrFind
import Derived.WalkKit
import Derived.ProofKit
import Derived.OpenShut
import Derived.WalkSpells
import Derived.Deep.OwnRows
namespace Go.Proofs.Qxb6608781aMods.Fr
open Go.ChangeShapes Go.WideShapes Go.ChangeAt Go.RowKit
set_option linter.unusedVariables false

/-- numbers as cells -/
def V (f : Nat → Nat) : Nat → Value := fun i => .int .i64 (f i)
theorem V_upd (f : Nat → Nat) (i v : Nat) : (fun j => if j = i then Value.int .i64 (v : Int) else V f j) = V (upd f i v) := by
  funext j
  simp only [V, upd]
  split <;> rfl
theorem row_upd {w : World} {g n : Nat} {f : Nat → Nat} (h : w.rowIs g 3 n (V f)) (i v : Nat) : (w.setCell ⟨g, i, none⟩ (.int .i64 (v : Int))).rowIs g 3 n (V (upd f i v)) := by
  have := h.set i (.int .i64 (v : Int))
  rwa [V_upd] at this
theorem grown_set (w : World) (g i : Nat) (v : Value) : w.grownBy (w.setCell ⟨g, i, none⟩ v) (some g) :=
  ⟨rfl, rfl, rfl, by simp, fun k _ hk => heap_setCell_other w ⟨g, i, none⟩ k v (fun e => hk (by simp [e]))⟩
theorem row_below {w w' : World} {g n B : Nat} {f : Nat → Value} (h : w.rowIs g 3 n f) (hb : Below B w w') (hg : g < B) : w'.rowIs g 3 n f := h.of_block (hb.block g hg)
theorem row_grown {w w' : World} {g g' n : Nat} {f : Nat → Value} (h : w.rowIs g 3 n f) (hb : w.grownBy w' (some g')) (hg : g ≠ g') : w'.rowIs g 3 n f := h.of_block (hb.block g h.lt (by simpa using hg))

theorem ret_int {k : IntKind} {a b : Int} (h : a = b) : Ending.returned (.int k a) = .returned (.int k b) := by rw [h]

theorem bytes_any (k : Int) (a : Option Addr) (n c : Nat) (w : World) : Calls Trym.prog 9 #[.slice a n c, .int .i64 k] w fun e w' => (∃ r : Bool, e = .returned (.bool r)) ∧ w' = w := by
  go_enter Trym.func9, Trym.ntmps9
  go_wp2
  all_goals
    go_ret
    exact ⟨⟨_, rfl⟩, rfl⟩

set_option maxHeartbeats 1000000 in
theorem find_any (g n i0 : Nat) (c rt dp : Nat → Nat) (w : World) (hn : n ≤ 65536) (hi : i0 < n) (hr : w.rowIs g 3 n (V c)) (F : FOk (dC c) n rt dp) :
    Calls Trym.prog 10 #[.slice (some ⟨g, 0, none⟩) n n, .int .i64 i0] w fun e w' => ∃ c', e = .returned (.int .i64 (rt i0)) ∧ w'.rowIs g 3 n (V c') ∧ w.grownBy w' (some g) ∧ ∃ dp', FOk (dC c') n rt dp' ∧ (∀ y, y < n → dp' y ≤ dp y) ∧ dp' i0 ≤ (dp i0 + 1) / 2 := by
  have HF : Hid (FOk (dC c) n rt dp) := F
  have HR : Hid (w.rowIs g 3 n (V c)) := hr
  clear F hr
  go_enter Trym.func10, Trym.ntmps10
  go_wp2_with fail
  go_loopw [1] (fun i wr => ∃ (x k : Nat) (e : Nat → Nat), i = .int .i64 x ∧ Fi c n rt dp i0 e x k ∧ wr.rowIs g 3 n (V e) ∧ w.grownBy wr (some g)) (fun i _ => dp (intOf i).toNat)
  case atStart => exact ⟨i0, 0, c, rfl, Fi.start HF.out hi, HR.out, World.grownBy.refl _ _⟩
  case round =>
    obtain ⟨x, k, e, rfl, hf, hrow, hg⟩ := hrel
    have hxn := hf.xn
    have HFi : Hid (Fi c n rt dp i0 e x k) := hf
    have HRow : Hid (wr.rowIs g 3 n (V e)) := hrow
    have hcx : wr.cell? ⟨g, x, none⟩ = some (.int .i64 (e x)) := hrow.cell hxn
    have hfz := hrow.frozen x
    clear hf hrow
    by_cases he : e x = x
    · go_wp2_with fail
      go_ret
      obtain ⟨h1, dq, h2⟩ := HFi.out.fin HF.out hi he
      exact ⟨e, ret_int (by rw [← h1]), HRow.out, hg, dq, h2⟩
    · obtain ⟨hnx, hlt, hpn, hgn⟩ := HFi.out.next HF.out he
      have HN : Hid (Fi c n rt dp i0 (upd e x (e (e x))) (e (e x)) (k + 1)) := hnx
      have HL : Hid (dp (e (e x)) < dp x) := hlt
      have hcp : wr.cell? ⟨g, e x, none⟩ = some (.int .i64 (e (e x))) := HRow.out.cell hpn
      clear hnx hlt
      go_wp2_with fail
      go_roundw
      case rel => exact ⟨e (e x), k + 1, _, rfl, HN.out, row_upd HRow.out x (e (e x)), hg.trans (grown_set _ _ _ _)⟩
      case measure => simp only [intOf, Int.toNat_natCast]; exact HL.out

theorem zzfind_any (g n i0 : Nat) (c rt dp : Nat → Nat) (w : World) (hn : n ≤ 65536) (hi : i0 < n) (hr : w.rowIs g 3 n (V c)) (F : FOk (dC c) n rt dp) :
    Calls Trym.prog 8 #[.slice (some ⟨g, 0, none⟩) n n, .int .i64 i0] w fun e w' => ∃ c', e = .returned (.int .i64 (rt i0)) ∧ w'.rowIs g 3 n (V c') ∧ w.grownBy w' (some g) ∧ ∃ dp', FOk (dC c') n rt dp' ∧ (∀ y, y < n → dp' y ≤ dp y) ∧ dp' i0 ≤ (dp i0 + 1) / 2 := by
  have HF : Hid (FOk (dC c) n rt dp) := F
  have HR : Hid (w.rowIs g 3 n (V c)) := hr
  clear F hr
  go_enter Trym.func8, Trym.ntmps8
  go_wp2_with fail
  refine (find_any g n i0 c rt dp _ hn hi HR.out HF.out).mono ?_
  rintro e w' ⟨c', rfl, h1, h2, h3⟩
  go_wp2_with fail
  go_ret
  exact ⟨c', rfl, h1, h2, h3⟩
end Go.Proofs.Qxb6608781aMods.Fr
