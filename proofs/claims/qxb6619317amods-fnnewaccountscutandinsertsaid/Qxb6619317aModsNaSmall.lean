/- FnNewAccountsCutAndInsert: the contracts of the small callees. -/
import Derived.Test.Qxb6619317aModsRows
import Derived.WalkKit
import Derived.ProofKit
import Derived.OpenShut
namespace Go.Proofs.Qxb6619317aMods.Na
open Go.ChangeShapes Go.WideShapes Go.ChangeAt Go.RowKit
set_option linter.unusedVariables false

/-- a link, field by field -/
structure Lk where
  sid : ByteArray
  pw : ByteArray
  st : ByteArray
  cn : ByteArray
def Lk.val (l : Lk) : Value := .agg #[.string l.sid, .string l.pw, .string l.st, .string l.cn]

theorem addLen_any (a n : Int) (w : World) : Calls Trym.prog 15 #[.int .i64 a, .int .i64 n] w fun e w' => ∃ t : Int, e = .returned (.int .i64 t) ∧ w' = w := by
  go_enter Trym.func15, Trym.ntmps15
  go_wp2
  all_goals
    go_ret
    exact ⟨_, rfl, rfl⟩

theorem addLink_any (a : Int) (s0 s1 s2 s3 : ByteArray) (w : World) : Calls Trym.prog 9 #[.int .i64 a, .agg #[.string s0, .string s1, .string s2, .string s3]] w fun e w' => ∃ t : Int, e = .returned (.int .i64 t) ∧ Below w.heap.size w w' := by
  go_enter Trym.func9, Trym.ntmps9
  go_wp2_with (go_at_call 15; refine (addLen_any _ _ _).mono ?_; rintro e w' ⟨t, rfl, rfl⟩)
  go_ret
  exact ⟨_, rfl, (Below.refl _ _).alloc (Nat.le_refl _) _⟩

theorem toLink_any (s0 s1 s2 s3 : ByteArray) (w : World) : Calls Trym.prog 11 #[.agg #[.string s0, .string s1, .string s2, .string s3]] w fun e w' => e = .returned (.agg #[.string s0, .string s1, .string s2, .string s3]) ∧ Below w.heap.size w w' := by
  go_enter Trym.func11, Trym.ntmps11
  go_wp2
  exact bodyPost_ret (v := .agg #[.string s0, .string s1, .string s2, .string s3]) (by simp [results, Trym.results11, go_sem]) rfl ⟨rfl, ((Below.refl _ _).alloc (Nat.le_refl _) _).alloc (by simp) _⟩
theorem outgoing_any (b o : Nat) (s3 : ByteArray) (w : World) (h : w.cell? ⟨b, o + 3, none⟩ = some (.string s3)) : Calls Trym.prog 18 #[.pointer (some ⟨b, o, none⟩)] w fun e w' => e = .returned (.bool !s3.toList.isEmpty) ∧ w' = w := by
  go_enter Trym.func18, Trym.ntmps18
  go_wp2
  go_ret
  exact ⟨rfl, rfl⟩
end Go.Proofs.Qxb6619317aMods.Na
