/- FnNewAccountsCutAndInsert: zzBytes: it answers some bool. -/
import Derived.Test.Qxb6619317aModsNaSmall
namespace Go.Proofs.Qxb6619317aMods.Na
open Go.ChangeShapes Go.WideShapes Go.ChangeAt Go.RowKit
set_option linter.unusedVariables false

/-- it returned a bool, whichever -/
def SomeBool (e : Ending) : Prop := ∃ r : Bool, e = .returned (.bool r)
theorem someBool (r : Bool) : SomeBool (.returned (.bool r)) := ⟨r, rfl⟩

/-- the four cells of each of the n links that lie from ⟨b, o⟩ on -/
def LinksAt (w : World) (b o n : Nat) (L : Nat → Lk) : Prop :=
  ∀ i, i < n → w.cell? ⟨b, o + i * 4, none⟩ = some (.string (L i).sid) ∧ w.cell? ⟨b, o + i * 4 + 1, none⟩ = some (.string (L i).pw) ∧ w.cell? ⟨b, o + i * 4 + 2, none⟩ = some (.string (L i).st) ∧ w.cell? ⟨b, o + i * 4 + 3, none⟩ = some (.string (L i).cn)

set_option maxRecDepth 10000 in
set_option maxHeartbeats 1000000 in
theorem bytes_some (b o n c : Nat) (k : Int) (L : Nat → Lk) (s0 s1 s2 s3 : ByteArray) (w : World) (hn : n ≤ 9223372036854775807) (hb : b < w.heap.size) (hc : LinksAt w b o n L) :
    Calls Trym.prog 8 #[.slice (some ⟨b, o, none⟩) n c, .int .i64 k, .agg #[.string s0, .string s1, .string s2, .string s3]] w fun e w' => SomeBool e ∧ Below w.heap.size w w' := by
  have HC : Hid (LinksAt w b o n L) := hc
  clear hc
  go_enter Trym.func8, Trym.ntmps8
  go_wp2
  all_goals try (go_ret; exact ⟨someBool _, (Below.refl _ _).alloc (Nat.le_refl _) _⟩)
  go_loop [7, 8] (fun t i => ∃ (z : Int) (k : Nat), k ≤ n ∧ i = .int .i64 k ∧ t = .int .i64 z) (fun _ i => n - (intOf i).toNat)
  case atStart => exact ⟨_, 0, Nat.zero_le _, rfl, rfl⟩
  case round =>
    obtain ⟨z, k, hk, rfl, rfl⟩ := hrel
    by_cases hlt : k < n
    · obtain ⟨h0, h1, h2, h3⟩ := HC.out k hlt
      go_wp2
      all_goals first
        | (go_ret; exact ⟨someBool _, (Below.refl _ _).alloc (Nat.le_refl _) _⟩)
        | (go_round
           case rel => exact ⟨_, k + 1, by omega, by go_num, rfl⟩
           case measure => simp [intOf]; omega)
    · go_wp2
      all_goals (go_ret; exact ⟨someBool _, (Below.refl _ _).alloc (Nat.le_refl _) _⟩)

set_option maxHeartbeats 1000000 in
theorem bytes_nil (k : Int) (s0 s1 s2 s3 : ByteArray) (w : World) :
    Calls Trym.prog 8 #[.slice none 0 0, .int .i64 k, .agg #[.string s0, .string s1, .string s2, .string s3]] w fun e w' => SomeBool e ∧ Below w.heap.size w w' := by
  go_enter Trym.func8, Trym.ntmps8
  go_wp2
  all_goals try (go_ret; exact ⟨someBool _, (Below.refl _ _).alloc (Nat.le_refl _) _⟩)
  go_loop [7, 8] (fun t i => i = .int .i64 0 ∧ t = .int .i64 0) (fun _ i => 0)
  case atStart => exact ⟨rfl, rfl⟩
  case round =>
    obtain ⟨rfl, rfl⟩ := hrel
    go_wp2
    all_goals (go_ret; exact ⟨someBool _, (Below.refl _ _).alloc (Nat.le_refl _) _⟩)
end Go.Proofs.Qxb6619317aMods.Na
