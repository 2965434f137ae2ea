/- The shell was written by program off the guide's print; the walk is filled in by the prover. -/
import Derived.Test.Qxb6619317aModsRows
import Derived.WalkKit
import Derived.ProofKit
import Derived.OpenShut
import Derived.ShutString
namespace Go.Proofs.Qxb6619317aMods.fnModeOfAsksForTheNamedBind
open Go.ChangeShapes Go.WideShapes Go.ChangeAt Go.RowKit
open Go.ChangeMaps (open_string shut_string)
set_option linter.unusedVariables false      -- a walk need not use every 'w<i>' (that an integer argument fits its kind)

theorem own : ownKnob Trym.prog.godebug = none := by kernel_rfl

/-! ### THE CALLEES -/
theorem mode_1 (w : World) : Calls Trym.prog 5 #[.int .u32 1] w fun e w' => e = .returned (.int .i64 2) ∧ w' = w := by
  go_enter Trym.func5, Trym.ntmps5
  go_wp2
  go_ret
  exact ⟨rfl, rfl⟩
theorem mode_2 (w : World) : Calls Trym.prog 5 #[.int .u32 2] w fun e w' => e = .returned (.int .i64 1) ∧ w' = w := by
  go_enter Trym.func5, Trym.ntmps5
  go_wp2
  go_ret
  exact ⟨rfl, rfl⟩
theorem mode_9 (w : World) : Calls Trym.prog 5 #[.int .u32 9] w fun e w' => e = .returned (.int .i64 3) ∧ w' = w := by
  go_enter Trym.func5, Trym.ntmps5
  go_wp2
  go_ret
  exact ⟨rfl, rfl⟩
theorem mode_0 (a : Int) (w : World) (h1 : (a == 1) = false) (h2 : (a == 2) = false) (h9 : (a == 9) = false) : Calls Trym.prog 5 #[.int .u32 a] w fun e w' => e = .returned (.int .i64 0) ∧ w' = w := by
  go_enter Trym.func5, Trym.ntmps5
  go_wp2
  go_ret
  exact ⟨rfl, rfl⟩
theorem name_1 (w : World) : Calls Trym.prog 6 #[.int .u32 1] w fun e w' => e = .returned (.string ⟨#[98, 105, 110, 100, 95, 114, 101, 99, 101, 105, 118, 101, 114]⟩) ∧ w' = w := by
  go_enter Trym.func6, Trym.ntmps6
  go_wp2
  go_ret
  exact ⟨rfl, rfl⟩
theorem name_2 (w : World) : Calls Trym.prog 6 #[.int .u32 2] w fun e w' => e = .returned (.string ⟨#[98, 105, 110, 100, 95, 116, 114, 97, 110, 115, 109, 105, 116, 116, 101, 114]⟩) ∧ w' = w := by
  go_enter Trym.func6, Trym.ntmps6
  go_wp2
  go_ret
  exact ⟨rfl, rfl⟩
theorem name_9 (w : World) : Calls Trym.prog 6 #[.int .u32 9] w fun e w' => e = .returned (.string ⟨#[98, 105, 110, 100, 95, 116, 114, 97, 110, 115, 99, 101, 105, 118, 101, 114]⟩) ∧ w' = w := by
  go_enter Trym.func6, Trym.ntmps6
  go_wp2
  go_ret
  exact ⟨rfl, rfl⟩
theorem name_0 (a : Int) (w : World) (h1 : (a == 1) = false) (h2 : (a == 2) = false) (h9 : (a == 9) = false) : Calls Trym.prog 6 #[.int .u32 a] w fun e w' => e = .returned (.string ⟨#[]⟩) ∧ w' = w := by
  go_enter Trym.func6, Trym.ntmps6
  go_wp2
  go_ret
  exact ⟨rfl, rfl⟩
theorem reads_1 (w : World) : Calls Trym.prog 7 #[.int .i64 2, .string ⟨#[98, 105, 110, 100, 95, 114, 101, 99, 101, 105, 118, 101, 114]⟩] w fun e w' => e = .returned (.bool true) ∧ w' = w := by
  go_enter Trym.func7, Trym.ntmps7
  go_wp2
  go_ret
  exact ⟨by kernel_rfl, rfl⟩
theorem reads_2 (w : World) : Calls Trym.prog 7 #[.int .i64 1, .string ⟨#[98, 105, 110, 100, 95, 116, 114, 97, 110, 115, 109, 105, 116, 116, 101, 114]⟩] w fun e w' => e = .returned (.bool true) ∧ w' = w := by
  go_enter Trym.func7, Trym.ntmps7
  go_wp2
  go_ret
  exact ⟨by kernel_rfl, rfl⟩
theorem reads_9 (w : World) : Calls Trym.prog 7 #[.int .i64 3, .string ⟨#[98, 105, 110, 100, 95, 116, 114, 97, 110, 115, 99, 101, 105, 118, 101, 114]⟩] w fun e w' => e = .returned (.bool true) ∧ w' = w := by
  go_enter Trym.func7, Trym.ntmps7
  go_wp2
  go_ret
  exact ⟨by kernel_rfl, rfl⟩
theorem reads_0 (w : World) : Calls Trym.prog 7 #[.int .i64 0, .string ⟨#[]⟩] w fun e w' => e = .returned (.bool true) ∧ w' = w := by
  go_enter Trym.func7, Trym.ntmps7
  go_wp2
  go_ret
  exact ⟨rfl, rfl⟩

/-- what an id is: its mode's number and its command's name, of one of four kinds -/
def Kind (m : Int) (c : ByteArray) : Prop :=
  (m = 2 ∧ c = ⟨#[98, 105, 110, 100, 95, 114, 101, 99, 101, 105, 118, 101, 114]⟩) ∨ (m = 1 ∧ c = ⟨#[98, 105, 110, 100, 95, 116, 114, 97, 110, 115, 109, 105, 116, 116, 101, 114]⟩) ∨ (m = 3 ∧ c = ⟨#[98, 105, 110, 100, 95, 116, 114, 97, 110, 115, 99, 101, 105, 118, 101, 114]⟩) ∨ (m = 0 ∧ c = ⟨#[]⟩)
theorem kind_eq {m m' : Int} {c c' : ByteArray} (h : Kind m c) (h' : Kind m' c') : (m == m') = (c == c') := by
  rcases h with ⟨rfl, rfl⟩ | ⟨rfl, rfl⟩ | ⟨rfl, rfl⟩ | ⟨rfl, rfl⟩ <;> rcases h' with ⟨rfl, rfl⟩ | ⟨rfl, rfl⟩ | ⟨rfl, rfl⟩ | ⟨rfl, rfl⟩ <;> decide
theorem one (a : Int) : ∃ m c, Kind m c ∧
    (∀ w, Calls Trym.prog 5 #[.int .u32 a] w fun e w' => e = .returned (.int .i64 m) ∧ w' = w) ∧
    (∀ w, Calls Trym.prog 6 #[.int .u32 a] w fun e w' => e = .returned (.string c) ∧ w' = w) ∧
    (∀ w, Calls Trym.prog 7 #[.int .i64 m, .string c] w fun e w' => e = .returned (.bool true) ∧ w' = w) := by
  by_cases h1 : a = 1
  · subst h1; exact ⟨_, _, .inl ⟨rfl, rfl⟩, mode_1, name_1, reads_1⟩
  by_cases h2 : a = 2
  · subst h2; exact ⟨_, _, .inr (.inl ⟨rfl, rfl⟩), mode_2, name_2, reads_2⟩
  by_cases h9 : a = 9
  · subst h9; exact ⟨_, _, .inr (.inr (.inl ⟨rfl, rfl⟩)), mode_9, name_9, reads_9⟩
  have e1 : (a == 1) = false := by simpa using h1
  have e2 : (a == 2) = false := by simpa using h2
  have e9 : (a == 9) = false := by simpa using h9
  exact ⟨_, _, .inr (.inr (.inr ⟨rfl, rfl⟩)), fun w => mode_0 a w e1 e2 e9, fun w => name_0 a w e1 e2 e9, reads_0⟩

/-! ### THE WALK -/
theorem walk (a0 : Int) (a1 : Int) (w0 : (Lit.int .u32 a0).wf = true) (w1 : (Lit.int .u32 a1).wf = true) (w : World) :
    Calls Trym.prog 3 #[.int .u32 a0, .int .u32 a1] w fun e w' => e = .returned (.bool true) ∧ Grown w w' := by
  obtain ⟨m, c, hk, hm, hc, hr⟩ := one a0
  obtain ⟨m', c', hk', hm', hc', hr'⟩ := one a1
  have he := kind_eq hk hk'
  have HE : Hid ((m == m') = (c == c')) := he
  clear he hk hk'
  have HM : Hid _ := hm
  have HC : Hid _ := hc
  have HR : Hid _ := hr
  have HM' : Hid _ := hm'
  have HC' : Hid _ := hc'
  have HR' : Hid _ := hr'
  clear hm hc hr hm' hc' hr'
  go_enter Trym.func3, Trym.ntmps3
  go_wp2_with fail
  refine (HM.out _).mono ?_
  rintro e w' ⟨rfl, rfl⟩
  go_wp2_with fail
  refine (HM'.out _).mono ?_
  rintro e w' ⟨rfl, rfl⟩
  go_wp2_with fail
  refine (HC.out _).mono ?_
  rintro e w' ⟨rfl, rfl⟩
  go_wp2_with fail
  refine (HC'.out _).mono ?_
  rintro e w' ⟨rfl, rfl⟩
  go_wp2_with fail
  refine (HR.out _).mono ?_
  rintro e w' ⟨rfl, rfl⟩
  go_wp2_with fail
  refine (HR'.out _).mono ?_
  rintro e w' ⟨rfl, rfl⟩
  go_wp2_with fail
  go_ret
  have he := HE.out
  refine ⟨?_, Grown.refl _⟩
  simp [he, beq_toListBytes]

/-! ### THE ROW's STEP: WRITTEN OUT: LEAVE IT -/
set_option maxRecDepth 100000 in
theorem lifted (os : Os) (started : os.Started) (H : Type) (enc : TypeId × Value → H) :
    ReturnsInHanded {} Trym.checked os 3 .any (Rows.fnModeOfAsksForTheNamedBindSpec.pre6 enc Trym.prog Trym.f3 Rows.fnModeOfAsksForTheNamedBindRow.domain false) (Rows.fnModeOfAsksForTheNamedBindSpec.post enc Trym.prog Trym.f3 false true false false) := by
  refine returnsInHanded_of_change (C := Trym.checked) own started (by kernel_rfl) Trym.func3
    (ChangeSpec.witness6 (enc := enc) (C := Trym.checked) false ⟨#[], #[.int .u32 0, .int .u32 0], []⟩ 8 (by kernel_rfl) (by kernel_rfl) (by kernel_rfl) (by kernel_rfl)) ?_
  intro W base args ds gs before hval0 hW hcnd _
  have hval : ∀ (j : Nat) t v, Trym.f3.params[j]? = some t → args[j]? = some v → Value.okWide Trym.prog W .any base t v := hval0
  have hW' := hW
  obtain ⟨p, q, hA0, hV, rfl, hfz, hnd⟩ := hW
  have hA : DataW.TrodAll enc Trym.prog W 0 (fun _ => true) true Trym.f3.params.toList args.toList ds p := hA0
  rw [Trym.params3] at hA hval
  obtain ⟨v0, vs0, d0, ds0, p0, q0, hargs, rfl, rfl, h0, r0⟩ := trodAll_cons hA
  obtain ⟨v1, vs1, d1, ds1, p1, q1, rfl, rfl, rfl, h1, r1⟩ := trodAll_cons r0
  obtain ⟨rfl, rfl, rfl⟩ := trodAll_nil r1
  obtain rfl : args = #[v0, v1] := by cases args; simp_all
  obtain ⟨rfl, rfl⟩ := trodVars_none hV
  obtain ⟨a0, rfl, rfl, rfl, w0⟩ := open_int Trym.underlying22 (hval 0 22 v0 rfl rfl) h0
  obtain ⟨a1, rfl, rfl, rfl, w1⟩ := open_int Trym.underlying22 (hval 1 22 v1 rfl rfl) h1
  clear hA0 hval0
  simp only [List.append_nil] at hW'
  refine (walk a0 a1 w0 w1 W).mono fun e W' ⟨he, hg⟩ => ?_
  subst he
  exact ⟨_, rfl, post_of_same (pa := []) (pv := []) hW' (fun _ _ _ => (trodAll_cons_mk (shut_bool Trym.underlying4 _) trodAll_mk0)) (fun sp _ => (trodAll_cons_mk (shut_int Trym.underlying22 w0) (trodAll_cons_mk (shut_int Trym.underlying22 w1) trodAll_mk0))) (fun _ _ => rfl) rfl
    (hg.frame _) hg.2.1 (ok_one (by kernel_rfl) rfl (okWide_bool_mk Trym.underlying4 _))⟩

theorem over : Rows.fnModeOfAsksForTheNamedBindRow.holds Trym.pinned (OpenSpec.ofChange Rows.fnModeOfAsksForTheNamedBindSpec) :=
  OpenClaim.holds_of_wide 3 Trym.f3 rfl rfl rfl rfl rfl rfl rfl ⟨rfl, rfl, rfl, rfl, rfl⟩ rfl rfl rfl rfl rfl (by kernel_rfl) Trym.func3 (by kernel_rfl)
    (of_decide_eq_true (by kernel_rfl)) (by unfold Func.isWrapper; first | (rw [if_pos (by decide +kernel)]; kernel_rfl) | (rw [if_neg (by decide +kernel)]; exact ⟨rfl, rfl⟩))
    (fun os started H enc _ => lifted os started H enc)

/-- ████ THE STATEMENT ████ -/
theorem proved : Rows.FnModeOfAsksForTheNamedBindSaid :=
  over
end Go.Proofs.Qxb6619317aMods.fnModeOfAsksForTheNamedBind
