/- FnFindHalvesPathAndRepeats: the law's walk. -/
import Derived.Test.Qxb6608781aModsFrRoots
import Derived.Deep.QuietTactic
import Derived.BigQuiet
import Derived.WalkSmall
namespace Go.Proofs.Qxb6608781aMods.Fr
open Go.ChangeShapes Go.WideShapes Go.ChangeAt Go.RowKit
set_option linter.unusedVariables false

theorem FOk.nat {d : Nat → Int} {n : Nat} {rt dp : Nat → Nat} (h : FOk d n rt dp) : FOk (dC (pr d)) n rt dp := by
  refine ⟨fun i hi => ?_, fun i hi e => ?_, fun i hi e => ?_⟩
  · have := h.pn i hi
    unfold dC
    omega
  · rw [pr_dC] at e; exact h.rot i hi e
  · rw [pr_dC] at e ⊢; exact h.stp i hi e
theorem ints_nat {w : World} {b o n : Nat} {d : Nat → Int} {rt dp : Nat → Nat} (h : IntsAt w b o n d) (F : FOk d n rt dp) : IntsAt w b o n (dC (pr d)) := by
  intro i hi
  rw [h i hi, (par_eq (F.lo i hi)).1]
  rfl

/-- outside the slice -/
theorem main_out (a : Option Addr) (n c : Nat) (i : Int) (w : World) (hn : n ≤ 9223372036854775807) (h : i < 0 ∨ (n : Int) ≤ i) :
    Calls Trym.prog 4 #[.slice a n c, .int .i64 i] w fun e w' => e = .returned (.bool true) ∧ Below w.heap.size w w' := by
  go_enter Trym.func4, Trym.ntmps4
  go_wp2_with fail
  refine (bytes_any _ _ _ _ _).mono ?_
  rintro e w1 ⟨⟨r, rfl⟩, rfl⟩
  cases r with
  | false =>
    go_wp2_with fail
    go_ret
    exact ⟨rfl, Below.refl _ _⟩
  | true =>
    by_cases hbig : 65536 < n
    · go_wp2_with fail
      go_ret
      exact ⟨rfl, Below.refl _ _⟩
    · by_cases h0 : i < 0
      · go_wp2_with fail
        go_ret
        exact ⟨rfl, Below.refl _ _⟩
      · have h1 : (n : Int) ≤ i := by omega
        clear h
        go_wp2_with fail
        go_ret
        exact ⟨rfl, Below.refl _ _⟩

set_option maxHeartbeats 4000000 in
set_option maxRecDepth 10000 in
theorem main_in (b o n c i0 : Nat) (d : Nat → Int) (w : World) (hn : n ≤ 9223372036854775807) (hi0 : i0 < n) (hb : b < w.heap.size) (hc : IntsAt w b o n d) :
    Calls Trym.prog 4 #[.slice (some ⟨b, o, none⟩) n c, .int .i64 i0] w fun e w' => e = .returned (.bool true) ∧ Below w.heap.size w w' := by
  have HC : Hid (IntsAt w b o n d) := hc
  clear hc
  go_enter Trym.func4, Trym.ntmps4
  go_wp2_with fail
  refine (bytes_any _ _ _ _ _).mono ?_
  rintro e w1 ⟨⟨r, rfl⟩, rfl⟩
  cases r with
  | false =>
    go_wp2_with fail
    go_ret
    exact ⟨rfl, Below.refl _ _⟩
  | true =>
    by_cases hbig : 65536 < n
    · go_wp2_with fail
      go_ret
      exact ⟨rfl, Below.refl _ _⟩
    · go_wp2_with fail
      refine (roots_any b o n c d _ (by omega) hb HC.out).mono ?_
      rintro e w2 (⟨rfl, hnf, hb2⟩ | ⟨gR, gD, rt, dp, rfl, hR, hD, F, hdn, hb2, hgR, hgD⟩)
      · go_wp2_with fail
        go_ret
        exact ⟨rfl, hb2⟩
      · have HF : Hid (FOk d n rt dp) := F
        have HR : Hid (w2.rowIs gR 3 n (V rt)) := hR
        have HD : Hid (w2.rowIs gD 3 n (V dp)) := hD
        have HB2 : Hid (Below w1.heap.size w1 w2) := hb2
        have HDN : Hid (∀ i, i < n → dp i < n) := hdn
        have lR := hR.lt
        have lD := hD.lt
        have l2 := hb2.size
        clear F hR hD hb2 hdn
        go_wp2_with fail
        refine (copy_any b o n c (pr d) _ (by omega) (by omega) (ints_nat (HC.out.below HB2.out hb) HF.out)).mono ?_
        rintro e w3 ⟨g3, rfl, h3, hb3, hg3⟩
        have HR3 : Hid (w3.rowIs gR 3 n (V rt)) := row_below HR.out hb3 lR
        have HD3 : Hid (w3.rowIs gD 3 n (V dp)) := row_below HD.out hb3 lD
        have HB3 : Hid (Below w1.heap.size w1 w3) := HB2.out.trans (hb3.mono l2)
        have H3 : Hid (w3.rowIs g3 3 n (V (pr d))) := h3
        have nR : gR ≠ g3 := by omega
        have nD : gD ≠ g3 := by omega
        have l3 := HB3.out.size
        clear HR HD HB2 h3 hb3
        go_wp2_with fail
        refine (zzfind_any g3 n i0 (pr d) rt dp _ (by omega) hi0 H3.out HF.out.nat).mono ?_
        rintro e w4 ⟨c4, rfl, h4, hgr4, dp4, F4, hle4, hhalf4⟩
        have HR4 : Hid (w4.rowIs gR 3 n (V rt)) := row_grown HR3.out hgr4 nR
        have HD4 : Hid (w4.rowIs gD 3 n (V dp)) := row_grown HD3.out hgr4 nD
        have HB4 : Hid (Below w1.heap.size w1 w4) := HB3.out.grown hgr4 l3 (fun k e => by cases e; omega)
        have H4 : Hid (w4.rowIs g3 3 n (V c4)) := h4
        have HF4 : Hid (FOk (dC c4) n rt dp4) := F4
        have HL4 : Hid (∀ y, y < n → dp4 y ≤ dp y) := hle4
        have HH4 : Hid (dp4 i0 ≤ (dp i0 + 1) / 2) := hhalf4
        have l4 := h4.lt
        have lR4 := HR4.out.lt
        have lD4 := HD4.out.lt
        clear HR3 HD3 HB3 H3 h4 hgr4 F4 hle4 hhalf4
        go_wp2_with fail
        refine (roots_any g3 0 n n (dC c4) _ (by omega) l4 (ints_of_row H4.out)).mono ?_
        rintro e w5 (⟨rfl, hnf, hb5⟩ | ⟨gR5, gD5, rt5, dp5, rfl, hR5, hD5, F5, hdn5, hb5, hgR5, hgD5⟩)
        · exact absurd ⟨_, _, HF4.out⟩ hnf
        · have HU : Hid (∀ i, i < n → dp5 i = dp4 i) := fun i hi => (FOk.unique HF4.out F5 _ i hi rfl).2
          have HR5 : Hid (w5.rowIs gR 3 n (V rt)) := row_below HR4.out hb5 lR4
          have HD5 : Hid (w5.rowIs gD 3 n (V dp)) := row_below HD4.out hb5 lD4
          have HE5 : Hid (w5.rowIs gD5 3 n (V dp5)) := hD5
          have H5 : Hid (w5.rowIs g3 3 n (V c4)) := row_below H4.out hb5 l4
          have HB5 : Hid (Below w1.heap.size w1 w5) := HB4.out.trans (hb5.mono HB4.out.size)
          clear HR4 HD4 HB4 H4 hR5 hD5 F5 hb5 hdn5
          have a0 : w5.cell? ⟨gR, i0, none⟩ = some (.int .i64 (rt i0)) := HR5.out.cell hi0
          have a1 : w5.cell? ⟨gD, i0, none⟩ = some (.int .i64 (dp i0)) := HD5.out.cell hi0
          have a2 : w5.cell? ⟨gD5, i0, none⟩ = some (.int .i64 (dp5 i0)) := HE5.out.cell hi0
          have hd0 : dp i0 < 65537 := by have := HDN.out i0 hi0; omega
          have hh0 : dp5 i0 ≤ (dp i0 + 1) / 2 := by rw [HU.out i0 hi0]; exact HH4.out
          go_wp2_with fail
          go_quiet (fail)
          go_wp2_with fail
          have hb6 : Below w5.heap.size w5 (w5.drewN nq) := below_drewN (Below.refl _ _) nq
          obtain ⟨w6, hw6⟩ : ∃ w6, w6 = w5.drewN nq := ⟨_, rfl⟩
          rw [← hw6] at hb6 ⊢
          have HD6 : Hid (w6.rowIs gD 3 n (V dp)) := row_below HD5.out hb6 HD5.out.lt
          have HE6 : Hid (w6.rowIs gD5 3 n (V dp5)) := row_below HE5.out hb6 HE5.out.lt
          have H6 : Hid (w6.rowIs g3 3 n (V c4)) := row_below H5.out hb6 H5.out.lt
          have HB6 : Hid (Below w1.heap.size w1 w6) := HB5.out.trans (hb6.mono HB5.out.size)
          clear hw6 hb6 a0 a1 a2 hd0 hh0 HR5 HD5 HE5 H5 HB5
          go_loopw [13] (fun t wq => ∃ j : Nat, j ≤ n ∧ t = .int .i64 j ∧ Below w6.heap.size w6 wq) (fun t _ => n - (intOf t).toNat)
          case atStart => exact ⟨0, Nat.zero_le _, rfl, Below.refl _ _⟩
          case round =>
            obtain ⟨j, hj, rfl, hbj⟩ := hrel
            by_cases hlt : j < n
            · have a1 : wr.cell? ⟨gD, j, none⟩ = some (.int .i64 (dp j)) := (row_below HD6.out hbj HD6.out.lt).cell hlt
              have a2 : wr.cell? ⟨gD5, j, none⟩ = some (.int .i64 (dp5 j)) := (row_below HE6.out hbj HE6.out.lt).cell hlt
              have hle : dp5 j ≤ dp j := by rw [HU.out j hlt]; exact HL4.out j hlt
              go_wp2_with fail
              go_quiet (fail)
              go_wp2_with fail
              go_roundw
              case rel => exact ⟨j + 1, by omega, by go_num, below_drewN hbj _⟩
              case measure => simp [intOf]; omega
            · go_wp2_with fail
              have H7 : Hid (wr.rowIs g3 3 n (V c4)) := row_below H6.out hbj H6.out.lt
              refine (zzfind_any g3 n i0 c4 rt dp4 _ (by omega) hi0 H7.out HF4.out).mono ?_
              rintro e w8 ⟨c8, rfl, h8, hgr8, -⟩
              have hB8 : Below w1.heap.size w1 w8 := (HB6.out.trans (hbj.mono HB6.out.size)).grown hgr8 (Nat.le_trans HB6.out.size hbj.size) (fun k e => by cases e; omega)
              clear h8 hgr8
              go_wp2_with fail
              go_ret
              exact ⟨rfl, hB8⟩
end Go.Proofs.Qxb6608781aMods.Fr
