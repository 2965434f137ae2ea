/- FnFindHalvesPathAndRepeats: the walk of zzRootsOf. -/
import Derived.Test.Qxb6608781aModsFrCopy
namespace Go.Proofs.Qxb6608781aMods.Fr
open Go.ChangeShapes Go.WideShapes Go.ChangeAt Go.RowKit
set_option linter.unusedVariables false

/-- the four rows of the call's own: roots, depths, states, stack -/
structure Rows4 (w wr : World) (n : Nat) (rt dp st sk : Nat → Nat) : Prop where
  bel : Below w.heap.size w wr
  r0 : wr.rowIs w.heap.size 3 n (V rt)
  r1 : wr.rowIs (w.heap.size + 1) 3 n (V dp)
  r2 : wr.rowIs (w.heap.size + 2) 3 n (V st)
  r3 : wr.rowIs (w.heap.size + 3) 3 n (V sk)
theorem row_upd' {w : World} {g n : Nat} {f : Nat → Nat} (h : w.rowIs g 3 n (V f)) (i v : Nat) (a : Int) (e : a = v) : (w.setCell ⟨g, i, none⟩ (.int .i64 a)).rowIs g 3 n (V (upd f i v)) := by
  rw [e]; exact row_upd h i v
section
variable {w wr : World} {n : Nat} {rt dp st sk : Nat → Nat}
theorem Rows4.set0 (h : Rows4 w wr n rt dp st sk) (i v : Nat) (a : Int) (e : a = v) : Rows4 w (wr.setCell ⟨w.heap.size, i, none⟩ (.int .i64 a)) n (upd rt i v) dp st sk :=
  ⟨h.bel.setCell (Nat.le_refl _) _, row_upd' h.r0 i v a e, h.r1.setOther (by simp) _, h.r2.setOther (by simp) _, h.r3.setOther (by simp) _⟩
theorem Rows4.set1 (h : Rows4 w wr n rt dp st sk) (i v : Nat) (a : Int) (e : a = v) : Rows4 w (wr.setCell ⟨w.heap.size + 1, i, none⟩ (.int .i64 a)) n rt (upd dp i v) st sk :=
  ⟨h.bel.setCell (by simp) _, h.r0.setOther (by simp) _, row_upd' h.r1 i v a e, h.r2.setOther (by simp) _, h.r3.setOther (by simp) _⟩
theorem Rows4.set2 (h : Rows4 w wr n rt dp st sk) (i v : Nat) (a : Int) (e : a = v) : Rows4 w (wr.setCell ⟨w.heap.size + 2, i, none⟩ (.int .i64 a)) n rt dp (upd st i v) sk :=
  ⟨h.bel.setCell (by simp) _, h.r0.setOther (by simp) _, h.r1.setOther (by simp) _, row_upd' h.r2 i v a e, h.r3.setOther (by simp) _⟩
theorem Rows4.set3 (h : Rows4 w wr n rt dp st sk) (i v : Nat) (a : Int) (e : a = v) : Rows4 w (wr.setCell ⟨w.heap.size + 3, i, none⟩ (.int .i64 a)) n rt dp st (upd sk i v) :=
  ⟨h.bel.setCell (by simp) _, h.r0.setOther (by simp) _, h.r1.setOther (by simp) _, h.r2.setOther (by simp) _, row_upd' h.r3 i v a e⟩
end
theorem Rows4.made (w : World) (n : Nat) :
    Rows4 w ((((w.alloc (.cells (madeCells #[.int .i64 0] n) 3)).alloc (.cells (madeCells #[.int .i64 0] n) 3)).alloc (.cells (madeCells #[.int .i64 0] n) 3)).alloc (.cells (madeCells #[.int .i64 0] n) 3)) n (fun _ => 0) (fun _ => 0) (fun _ => 0) (fun _ => 0) := by
  refine ⟨((((Below.refl _ _).alloc (Nat.le_refl _) _).alloc (by simp) _).alloc (by simp; omega) _).alloc (by simp; omega) _, (((made_row w n).alloc _).alloc _).alloc _, ?_, ?_, ?_⟩
  · have h := made_row (w.alloc (.cells (madeCells #[.int .i64 0] n) 3)) n
    simp only [World.size_alloc] at h
    exact (h.alloc _).alloc _
  · have h := made_row ((w.alloc (.cells (madeCells #[.int .i64 0] n) 3)).alloc (.cells (madeCells #[.int .i64 0] n) 3)) n
    simp only [World.size_alloc] at h
    exact h.alloc _
  · have h := made_row (((w.alloc (.cells (madeCells #[.int .i64 0] n) 3)).alloc (.cells (madeCells #[.int .i64 0] n) 3)).alloc (.cells (madeCells #[.int .i64 0] n) 3)) n
    simp only [World.size_alloc] at h
    exact h

/-- what zzRootsOf answers -/
def RootsPost (w : World) (n : Nat) (d : Nat → Int) (e : Ending) (w' : World) : Prop :=
  (e = .returned (.tuple #[.slice none 0 0, .slice none 0 0, .bool false]) ∧ (¬ ∃ rt dp, FOk d n rt dp) ∧ Below w.heap.size w w') ∨
  ∃ gR gD rt dp, e = .returned (.tuple #[.slice (some ⟨gR, 0, none⟩) n n, .slice (some ⟨gD, 0, none⟩) n n, .bool true]) ∧ w'.rowIs gR 3 n (V rt) ∧ w'.rowIs gD 3 n (V dp) ∧ FOk d n rt dp ∧ (∀ i, i < n → dp i < n) ∧ Below w.heap.size w w' ∧ w.heap.size ≤ gR ∧ w.heap.size ≤ gD

theorem par_eq {d : Nat → Int} {n j : Nat} (h : 0 ≤ d j ∧ d j < n) : d j = (pr d j : Int) ∧ pr d j < n := by unfold pr; omega

set_option maxHeartbeats 4000000 in
set_option maxRecDepth 10000 in
theorem roots_any (b o n cp : Nat) (d : Nat → Int) (w : World) (hn : n ≤ 65536) (hb : b < w.heap.size) (hc : IntsAt w b o n d) :
    Calls Trym.prog 6 #[.slice (some ⟨b, o, none⟩) n cp] w fun e w' => RootsPost w n d e w' := by
  have HC : Hid (IntsAt w b o n d) := hc
  clear hc
  have hmk := make_row n hn
  go_enter Trym.func6, Trym.ntmps6
  go_wp2_with fail
  clear hmk
  go_loopw [10] (fun i wr => ∃ (s : Nat) (st rt dp sk : Nat → Nat), s ≤ n ∧ i = .int .i64 s ∧ Ot d n s st rt dp ∧ Rows4 w wr n rt dp st sk) (fun i _ => n - (intOf i).toNat)
  case atStart => exact ⟨0, _, _, _, _, Nat.zero_le _, rfl, Ot.start d n _ _, Rows4.made w n⟩
  case round =>
    obtain ⟨s, st, rt, dp, sk, hs, rfl, hot, hrows⟩ := hrel
    have HO : Hid (Ot d n s st rt dp) := hot
    have HR : Hid (Rows4 w wr n rt dp st sk) := hrows
    clear hot hrows
    by_cases hlt : s < n
    · have hst : wr.cell? ⟨w.heap.size + 2, s, none⟩ = some (.int .i64 (st s)) := HR.out.r2.cell hlt
      by_cases h2 : st s = 2
      · rw [h2] at hst
        go_wp2_with fail
        go_roundw
        case rel => exact ⟨s + 1, st, rt, dp, sk, by omega, by go_num, HO.out.skip hlt h2, HR.out⟩
        case measure => simp [intOf]; omega
      · have hs2 : (((st s : Nat) : Int) == 2) = false := by simp; omega
        clear h2
        go_wp2_with fail
        clear hst hs2
        go_loopw [11, 12] (fun t i wr => ∃ (top j : Nat) (st rt dp sk : Nat → Nat), top ≤ n ∧ t = .int .i64 top ∧ i = .int .i64 j ∧ In d n s st rt dp sk top j ∧ Rows4 w wr n rt dp st sk) (fun t _ _ => n - (intOf t).toNat)
        case atStart => exact ⟨0, s, st, rt, dp, sk, Nat.zero_le _, rfl, rfl, HO.out.enter hlt sk, HR.out⟩
        case round =>
          clear HO HR
          obtain ⟨top, j, st, rt, dp, sk, htop, rfl, rfl, hin, hrows⟩ := hrel
          have HI : Hid (In d n s st rt dp sk top j) := hin
          have HR : Hid (Rows4 w wr n rt dp st sk) := hrows
          have hjn := hin.jn
          have hdj : wr.cell? ⟨b, o + j, none⟩ = some (.int .i64 (d j)) := HC.out.below hrows.bel hb j hjn
          clear hin hrows
          by_cases hlo : d j < 0
          · go_wp2_with fail
            go_ret3
            exact .inl ⟨rfl, no_forest hjn (by omega), HR.out.bel⟩
          · by_cases hhi : (n : Int) ≤ d j
            · go_wp2_with fail
              go_ret3
              exact .inl ⟨rfl, no_forest hjn (by omega), HR.out.bel⟩
            · obtain ⟨hpe, hpn⟩ := par_eq (d := d) (n := n) (j := j) ⟨by omega, by omega⟩
              have HPE : Hid (d j = (pr d j : Int)) := hpe
              rw [hpe] at hdj
              clear hpe hlo hhi
              have hpe := HPE
              clear HPE
              rcases HI.out.chn.tri j hjn with h0 | h1 | h2
              · have hstj : wr.cell? ⟨w.heap.size + 2, j, none⟩ = some (.int .i64 (st j)) := HR.out.r2.cell hjn
                rw [h0] at hstj
                have f2 := HR.out.r2.frozen j
                by_cases hpj : pr d j = j
                · have HPJ : Hid (pr d j = j) := hpj
                  rw [hpj] at hdj
                  have b0 : wr.cell? ⟨w.heap.size, j, none⟩ = some (.int .i64 (rt j)) := HR.out.r0.cell hjn
                  have b1 : wr.cell? ⟨w.heap.size + 1, j, none⟩ = some (.int .i64 (dp j)) := HR.out.r1.cell hjn
                  have f0 := HR.out.r0.frozen j
                  have f1 := HR.out.r1.frozen j
                  have H0 : Hid (st j = 0) := h0
                  clear hpj h0 hpn
                  go_wp2_with fail
                  go_loopw [13] (fun t wq => ∃ (q : Int) (m : Nat) (st rt dp : Nat → Nat), t = .int .i64 q ∧ Hid (q = (m : Int) - 1) ∧ m ≤ n ∧ -1 ≤ q ∧ q < n ∧ Un d n s st rt dp sk m ∧ Rows4 w wq n rt dp st sk) (fun t _ => (intOf t + 1).toNat)
                  case atStart => exact ⟨(top : Int) - 1, top, _, _, _, rfl, rfl, htop, by omega, by omega, HI.out.root H0.out (by rw [hpe.out, HPJ.out]; omega) HPJ.out, ((HR.out.set2 j 2 _ rfl).set0 j j _ rfl).set1 j 0 _ rfl⟩
                  case round =>
                    clear HI HR htop
                    obtain ⟨q, m, st, rt, dp, rfl, hq, hmn, hq1, hq2, hun, hrows⟩ := hrel
                    have HU : Hid (Un d n s st rt dp sk m) := hun
                    have HR : Hid (Rows4 w wr n rt dp st sk) := hrows
                    clear hun hrows
                    cases m with
                    | zero =>
                      obtain rfl : q = -1 := by have := hq.out; omega
                      go_wp2_with fail
                      go_roundw
                      case rel => exact ⟨s + 1, st, rt, dp, sk, by omega, by go_num, HU.out.leave hlt, HR.out⟩
                      case measure => simp [intOf]; omega
                    | succ m =>
                      obtain rfl : q = (m : Int) := by have := hq.out; omega
                      clear hq
                      have hxn := HU.out.chn.skn m (by omega)
                      have hrg := HU.out.chn.skr m (by omega)
                      obtain ⟨hpe, hpn⟩ := par_eq ⟨hrg.1, hrg.2.1⟩
                      have hdp := HU.out.cls.bnd _ hpn (HU.out.nx m rfl)
                      have hcn := cn_le 2 st n
                      have hk3 : wr.cell? ⟨w.heap.size + 3, m, none⟩ = some (.int .i64 (sk m)) := HR.out.r3.cell (by omega)
                      have hdx : wr.cell? ⟨b, o + sk m, none⟩ = some (.int .i64 (d (sk m))) := HC.out.below HR.out.bel hb _ hxn
                      rw [hpe] at hdx
                      have HS : Hid (Un d n s (upd st (sk m) 2) (upd rt (sk m) (rt (pr d (sk m)))) (upd dp (sk m) (dp (pr d (sk m)) + 1)) sk m) := HU.out.step
                      obtain ⟨p, hp⟩ : ∃ p, p = pr d (sk m) := ⟨_, rfl⟩
                      rw [← hp] at hdx hpn hdp HS
                      obtain ⟨x, hx⟩ : ∃ x, x = sk m := ⟨_, rfl⟩
                      rw [← hx] at hdx hk3 hxn HS
                      clear hrg hpe hp hx
                      have hdpb : dp p < 65536 := by omega
                      clear hdp hcn
                      have a0 : wr.cell? ⟨w.heap.size, p, none⟩ = some (.int .i64 (rt p)) := HR.out.r0.cell hpn
                      have a1 : wr.cell? ⟨w.heap.size + 1, p, none⟩ = some (.int .i64 (dp p)) := HR.out.r1.cell hpn
                      have b0 : wr.cell? ⟨w.heap.size, x, none⟩ = some (.int .i64 (rt x)) := HR.out.r0.cell hxn
                      have b1 : wr.cell? ⟨w.heap.size + 1, x, none⟩ = some (.int .i64 (dp x)) := HR.out.r1.cell hxn
                      have b2 : wr.cell? ⟨w.heap.size + 2, x, none⟩ = some (.int .i64 (st x)) := HR.out.r2.cell hxn
                      have f0 := HR.out.r0.frozen x
                      have f1 := HR.out.r1.frozen x
                      have f2 := HR.out.r2.frozen x
                      go_wp2_with fail
                      go_roundw
                      case rel => exact ⟨(m : Int) - 1, m, _, _, _, rfl, rfl, by omega, by omega, by omega, HS.out, ((HR.out.set0 x (rt p) _ rfl).set1 x (dp p + 1) _ (by omega)).set2 x 2 _ rfl⟩
                      case measure => (simp [intOf] <;> omega)

                · have htl := HI.out.top_lt (by omega)
                  have HP : Hid (In d n s (upd st j 1) rt dp (upd sk top j) (top + 1) (pr d j)) := HI.out.push h0 (by rw [hpe.out]; omega) hpj
                  obtain ⟨p, hp⟩ : ∃ p, p = pr d j := ⟨_, rfl⟩
                  rw [← hp] at hdj HP hpj hpn
                  clear hp hpe h0
                  have b3 : wr.cell? ⟨w.heap.size + 3, top, none⟩ = some (.int .i64 (sk top)) := HR.out.r3.cell htl
                  have f3 := HR.out.r3.frozen top
                  go_wp2_with fail
                  go_roundw
                  case rel => exact ⟨top + 1, p, _, _, _, _, by omega, by go_num, rfl, HP.out, (HR.out.set2 j 1 _ rfl).set3 top j _ rfl⟩
                  case measure => simp [intOf]; omega
              · have hstj : wr.cell? ⟨w.heap.size + 2, j, none⟩ = some (.int .i64 (st j)) := HR.out.r2.cell hjn
                rw [h1] at hstj
                have HCY : Hid (¬ ∃ rt' dp', FOk d n rt' dp') := HI.out.cycle h1
                clear h1
                obtain ⟨p, hp⟩ : ∃ p, p = pr d j := ⟨_, rfl⟩
                rw [← hp] at hdj hpn
                clear hp hpe
                go_wp2_with fail
                go_ret3
                exact .inl ⟨rfl, HCY.out, HR.out.bel⟩
              · have hstj : wr.cell? ⟨w.heap.size + 2, j, none⟩ = some (.int .i64 (st j)) := HR.out.r2.cell hjn
                rw [h2] at hstj
                have H2 : Hid (st j = 2) := h2
                clear h2
                obtain ⟨p, hp⟩ : ∃ p, p = pr d j := ⟨_, rfl⟩
                rw [← hp] at hdj hpn
                clear hp hpe
                go_wp2_with fail
                go_loopw [13] (fun t wq => ∃ (q : Int) (m : Nat) (st rt dp : Nat → Nat), t = .int .i64 q ∧ Hid (q = (m : Int) - 1) ∧ m ≤ n ∧ -1 ≤ q ∧ q < n ∧ Un d n s st rt dp sk m ∧ Rows4 w wq n rt dp st sk) (fun t _ => (intOf t + 1).toNat)
                case atStart => exact ⟨(top : Int) - 1, top, st, rt, dp, rfl, rfl, htop, by omega, by omega, HI.out.meet H2.out, HR.out⟩
                case round =>
                  clear HI HR htop
                  obtain ⟨q, m, st, rt, dp, rfl, hq, hmn, hq1, hq2, hun, hrows⟩ := hrel
                  have HU : Hid (Un d n s st rt dp sk m) := hun
                  have HR : Hid (Rows4 w wr n rt dp st sk) := hrows
                  clear hun hrows
                  cases m with
                  | zero =>
                    obtain rfl : q = -1 := by have := hq.out; omega
                    go_wp2_with fail
                    go_roundw
                    case rel => exact ⟨s + 1, st, rt, dp, sk, by omega, by go_num, HU.out.leave hlt, HR.out⟩
                    case measure => simp [intOf]; omega
                  | succ m =>
                    obtain rfl : q = (m : Int) := by have := hq.out; omega
                    clear hq
                    have hxn := HU.out.chn.skn m (by omega)
                    have hrg := HU.out.chn.skr m (by omega)
                    obtain ⟨hpe, hpn⟩ := par_eq ⟨hrg.1, hrg.2.1⟩
                    have hdp := HU.out.cls.bnd _ hpn (HU.out.nx m rfl)
                    have hcn := cn_le 2 st n
                    have hk3 : wr.cell? ⟨w.heap.size + 3, m, none⟩ = some (.int .i64 (sk m)) := HR.out.r3.cell (by omega)
                    have hdx : wr.cell? ⟨b, o + sk m, none⟩ = some (.int .i64 (d (sk m))) := HC.out.below HR.out.bel hb _ hxn
                    rw [hpe] at hdx
                    have HS : Hid (Un d n s (upd st (sk m) 2) (upd rt (sk m) (rt (pr d (sk m)))) (upd dp (sk m) (dp (pr d (sk m)) + 1)) sk m) := HU.out.step
                    obtain ⟨p, hp⟩ : ∃ p, p = pr d (sk m) := ⟨_, rfl⟩
                    rw [← hp] at hdx hpn hdp HS
                    obtain ⟨x, hx⟩ : ∃ x, x = sk m := ⟨_, rfl⟩
                    rw [← hx] at hdx hk3 hxn HS
                    clear hrg hpe hp hx
                    have hdpb : dp p < 65536 := by omega
                    clear hdp hcn
                    have a0 : wr.cell? ⟨w.heap.size, p, none⟩ = some (.int .i64 (rt p)) := HR.out.r0.cell hpn
                    have a1 : wr.cell? ⟨w.heap.size + 1, p, none⟩ = some (.int .i64 (dp p)) := HR.out.r1.cell hpn
                    have b0 : wr.cell? ⟨w.heap.size, x, none⟩ = some (.int .i64 (rt x)) := HR.out.r0.cell hxn
                    have b1 : wr.cell? ⟨w.heap.size + 1, x, none⟩ = some (.int .i64 (dp x)) := HR.out.r1.cell hxn
                    have b2 : wr.cell? ⟨w.heap.size + 2, x, none⟩ = some (.int .i64 (st x)) := HR.out.r2.cell hxn
                    have f0 := HR.out.r0.frozen x
                    have f1 := HR.out.r1.frozen x
                    have f2 := HR.out.r2.frozen x
                    go_wp2_with fail
                    go_roundw
                    case rel => exact ⟨(m : Int) - 1, m, _, _, _, rfl, rfl, by omega, by omega, by omega, HS.out, ((HR.out.set0 x (rt p) _ rfl).set1 x (dp p + 1) _ (by omega)).set2 x 2 _ rfl⟩
                    case measure => (simp [intOf] <;> omega)
    · go_wp2_with fail
      obtain rfl : s = n := by omega
      go_ret3
      exact .inr ⟨_, _, rt, dp, rfl, HR.out.r0, HR.out.r1, HO.out.done.1, HO.out.done.2, HR.out.bel, by simp, by simp⟩
end Go.Proofs.Qxb6608781aMods.Fr
