/- FnScanPairsPrependOne: the law's walk, the slice not empty. -/
import Derived.Test.Qxb6608571aModsSpPlain
import Derived.Laws.CopyOwn
namespace Go.Proofs.Qxb6608571aMods.Sp
open Go.ChangeShapes Go.WideShapes Go.ChangeAt Go.RowKit
set_option linter.unusedVariables false

theorem Trym.info23 : (Trym.prog.info? 23).map (fun i => (i.zero, i.size, i.bytes)) = some (some (.int .u64 0), 1, 8) := by kernel_rfl
theorem Trym.size23 : (Trym.prog.info? 23).map (·.size) = some 1 := by kernel_rfl
theorem neq_nil (w : World) (a : Option Addr) (n c n' c' : Nat) : (binOp .neq 28 (.slice a n c) (.slice none n' c')).run Trym.prog w = .ok (.bool (!a.isNone)) w := run_neq_slice_nil_any w _ _ a n c n' c' Trym.underlying28

theorem bytes_any (x k : Int) (a : Option Addr) (n c : Nat) (w : World) : Calls Trym.prog 7 #[.int .u64 x, .slice a n c, .int .i64 k] w fun e w' => (∃ r : Bool, e = .returned (.bool r)) ∧ w' = w := by
  go_enter Trym.func7, Trym.ntmps7
  go_wp2
  all_goals
    go_ret
    exact ⟨⟨_, rfl⟩, rfl⟩

/-- the numbers as cells -/
def numCells (z : Nat → Nat) (n : Nat) : List Value := (List.range n).map fun i => .int .u64 (z i)
theorem numCells_len (z : Nat → Nat) (n : Nat) : (numCells z n).length = n := by simp [numCells]
theorem numCells_at (z : Nat → Nat) (n j : Nat) (h : j < n) : (numCells z n)[j]? = some (.int .u64 (z j)) := by simp [numCells, h]
theorem numCells_one (z : Nat → Nat) (n : Nat) : ∀ u ∈ numCells z n, u.oneCell' = true := by
  intro u hu
  simp [numCells] at hu
  obtain ⟨i, _, rfl⟩ := hu
  rfl
/-- a full row: the block itself -/
theorem block_of_owns {w : World} {base e g n : Nat} {xs : List Value} (h : w.ownsRow base e 1 (.slice (some ⟨g, 0, none⟩) n n) n xs) : w.heap[g]? = some (.cells xs.toArray e (0, 0)) ∧ xs.length = n ∧ g < w.heap.size := by
  have hl := h.1
  rcases h.2 with ⟨h', _⟩ | ⟨g', cap, cur, h', _, hgg, _, _, hs, ht⟩
  · simp at h'
  · simp only [Value.slice.injEq, Option.some.injEq, Addr.mk.injEq, and_true, true_and] at h'
    obtain ⟨rfl, rfl⟩ := h'
    rw [List.take_of_length_le (by simp; omega)] at ht
    subst ht
    exact ⟨by simpa using hgg, by simpa using hs, (Array.getElem?_eq_some_iff.1 hgg).1⟩
theorem nums_of_block {w : World} {g e n : Nat} {xs : List Value} {z : Nat → Nat} (h : w.heap[g]? = some (.cells xs.toArray e (0, 0))) (hx : ∀ i, i < n → xs[i]? = some (.int .u64 (z i))) : NumsAt w g 0 n z := by
  intro i hi
  rw [cell_of_row w g (0 + i) xs.toArray e (0, 0) h, Nat.zero_add]
  simpa using hx i hi
theorem splice_all {α : Type} (cur cs : List α) (h : cur.length = cs.length) : splice cur 0 cs = cs := by
  simp [splice, ← h]
theorem splice_tail {α : Type} (cur cs : List α) (h : cur.length = cs.length + 1) (j : Nat) (hj : j < cs.length) : (splice cur 1 cs)[j + 1]? = cs[j]? := by
  unfold splice
  rw [List.getElem?_append_right (by simp; omega), List.getElem?_append_left (by simp; omega)]
  congr 1
  simp
  omega
theorem splice_head {α : Type} (cur cs : List α) (h : cur.length = cs.length + 1) : (splice cur 1 cs)[0]? = cur[0]? := by
  unfold splice
  rw [List.getElem?_append_left (by simp; omega)]
  simp

/-- copy into a row of the call's own -/
theorem copy_run {w w0 : World} {g o n c b o' c' B : Nat} {xs : List Value} {z : Nat → Nat} (hg : w.heap[g]? = some (.cells xs.toArray 23 (0, 0))) (hl : xs.length = o + n) (hsrc : NumsAt w b o' n z) (hb : Below B w0 w) :
    ∃ w3, (∀ ty, (Builtin.copy_ #[28, 28] ty #[.slice (some ⟨g, o, none⟩) n c, .slice (some ⟨b, o', none⟩) n c']).run Trym.prog w = .ok (.int .i64 n) w3) ∧ w3.heap[g]? = some (.cells (splice xs o (numCells z n)).toArray 23 (0, 0)) ∧ (B ≤ g → Below B w0 w3) ∧ w3.heap.size = w.heap.size := by
  refine ⟨w.setRow g (splice xs o (numCells z n)).toArray, fun ty => ?_, setRow_heap w g _ _ 23 _ hg, fun hBg => below_setRow hb hBg _, by simp [World.setRow]⟩
  have := run_copy_row (P := Trym.prog) w 28 28 ty 23 g o n c ⟨b, o', none⟩ n c' xs.toArray 23 (numCells z n) Trym.underlying28 Trym.size23 hg (by rw [numCells_len]; exact (Nat.min_self n).symm) (fun j v hj => by
    have hjn : j < n := by have := (List.getElem?_eq_some_iff.1 hj).1; rwa [numCells_len] at this
    rw [numCells_at z n j hjn] at hj
    rw [add_plain, hsrc j hjn, hj]) (by rw [numCells_len]; simp; omega) (numCells_one z n)
  rw [this, numCells_len]
  simp [splice, goInt, numCells_len]

/-- x ahead of z -/
def ext (x : Nat) (z : Nat → Nat) : Nat → Nat
  | 0 => x
  | i + 1 => z i

theorem ext_at (cur : List Value) (x : Nat) (z : Nat → Nat) (n : Nat) (hl : cur.length = n + 1) (h0 : cur[0]? = some (.int .u64 x)) : ∀ i, i < n + 1 → (splice cur 1 (numCells z n))[i]? = some (.int .u64 (ext x z i))
  | 0, _ => by rw [splice_head _ _ (by rw [numCells_len]; exact hl), h0]; rfl
  | i + 1, h => by rw [splice_tail _ _ (by rw [numCells_len]; exact hl) i (by rw [numCells_len]; omega), numCells_at z n i (by omega)]; rfl

theorem Facts.rest_nil {n : Nat} {k : Int} {D0 : Nat → Nat} {W R : List Pr} {C : Nat → Nat} (h : Facts n k D0 W R C) (hw : W = []) : R = [] := by
  have := h.len
  rw [hw] at this
  simp at this
  exact List.eq_nil_of_length_eq_zero (by omega)
theorem setup (n : Nat) (k : Int) (x : Nat) (z : Nat → Nat) (hn : n ≤ 1024) (hx : x < 18446744073709551616) (hz : ∀ i, i < n → z i < 18446744073709551616) :
    ∃ (D E : Nat → Nat → Nat) (D0 : Nat → Nat) (W R : List Pr) (C : Nat → Nat), DistIs z n D ∧ DistIs (ext x z) (n + 1) E ∧
      (∀ j, j < n → ∀ w, Calls Trym.prog 9 #[.int .u64 ((x ^^^ z j : Nat) : Int)] w fun e w' => e = .returned (.int .i64 (D0 j)) ∧ w' = w) ∧ W = scan E k (n + 1) (n + 1) ∧ R = scan D k n n ∧ Facts n k D0 W R C := by
  refine ⟨fun a b => pop 64 (z a ^^^ z b), fun a b => pop 64 (ext x z a ^^^ ext x z b), fun j => pop 64 (x ^^^ z j), _, _, _, ?_, ?_, ?_, rfl, rfl, facts hn (fun a b => rfl) (fun j => by rw [Nat.add_comm 1 j]; rfl)⟩
  · intro a b ha hb w
    exact dist_any (z a) (z b) w (hz a ha) (hz b hb)
  · have he : ∀ i, i < n + 1 → ext x z i < 18446744073709551616 := by
      intro i hi
      cases i with
      | zero => exact hx
      | succ i => exact hz i (by omega)
    intro a b ha hb w
    exact dist_any (ext x z a) (ext x z b) w (he a ha) (he b hb)
  · intro j hj w
    exact zzones_any (x ^^^ z j) w (Nat.xor_lt_two_pow (n := 64) hx (hz j hj))

set_option maxHeartbeats 4000000 in
set_option maxRecDepth 10000 in
theorem main_pos (b o n c x : Nat) (k : Int) (z : Nat → Nat) (w : World) (hn0 : 0 < n) (hn : n ≤ 9223372036854775807) (hb : b < w.heap.size) (hc : NumsAt w b o n z) (hzl : ∀ i, i < n → z i < 18446744073709551616) (hx : x < 18446744073709551616) :
    Calls Trym.prog 5 #[.int .u64 x, .slice (some ⟨b, o, none⟩) n c, .int .i64 k] w fun e w' => e = .returned (.bool true) ∧ Below w.heap.size w w' := by
  have HC : Hid (NumsAt w b o n z) := hc
  have HZ : Hid (∀ i, i < n → z i < 18446744073709551616) := hzl
  clear hc hzl
  have q := neq_nil
  obtain ⟨i0, hi, hz0, hz1, hz2⟩ := info_parts Trym.info23
  go_enter Trym.func5, Trym.ntmps5
  go_wp2_with fail
  refine (bytes_any _ _ _ _ _ _).mono ?_
  rintro e w1 ⟨⟨r, rfl⟩, rfl⟩
  cases r with
  | false =>
    go_wp2_with fail
    go_ret
    exact ⟨rfl, Below.refl _ _⟩
  | true =>
    by_cases hbig : 1024 < n
    · go_wp2_with fail
      go_ret
      exact ⟨rfl, Below.refl _ _⟩
    · go_upto_region 7 with (at_make; refine wpList_make_full _ rfl (.tmp 29) (.tmp 29) 28 rfl w1.heap.size 23 i0 _ 1 Trym.underlying28 hi hz0 hz1 _ _ _ _ n rfl rfl rfl rfl (by rw [hz2]; omega) (by unfold maxLen; omega) (Nat.le_refl _) ?_; intro w2 hown2 hgrow2)
      have hb2 : Below w1.heap.size w1 w2 := (Below.refl _ _).grown hgrow2 (Nat.le_refl _) (fun _ h => by cases h)
      obtain ⟨hblk2, hlen2, hg2⟩ := block_of_owns hown2
      obtain ⟨w3, hcp3, hblk3, hb3, hsz3⟩ := copy_run (w := w2) (w0 := w1) (B := w1.heap.size) (g := w1.heap.size) (n := n) (c := n) (c' := c) (o := 0) (b := b) (o' := o) (z := z) hblk2 (by omega) (HC.out.below hb2 hb) hb2
      have HB3 : Hid (Below w1.heap.size w1 w3) := hb3 (Nat.le_refl _)
      have HN3 : Hid (NumsAt w3 w1.heap.size 0 n z) := nums_of_block hblk3 (fun i hi => by rw [splice_all _ _ (by rw [hlen2, numCells_len])]; exact numCells_at z n i hi)
      have hs3 : w1.heap.size < w3.heap.size := by omega
      clear hown2 hgrow2 hblk2 hblk3 hb3 hb2 HC hlen2 hg2 hsz3
      go_upto_region 9 with (fail)
      clear hcp3
      go_upto_region 10 with (at_make; refine wpList_make_full _ rfl (.tmp 37) (.tmp 37) 28 rfl w3.heap.size 23 i0 _ 1 Trym.underlying28 hi hz0 hz1 _ _ _ _ (n + 1) rfl rfl (by omega) (by omega) (by rw [hz2]; omega) (by unfold maxLen; omega) (Nat.le_refl _) ?_; intro w4 hown4 hgrow4)
      have hb4 : Below w3.heap.size w3 w4 := (Below.refl _ _).grown hgrow4 (Nat.le_refl _) (fun _ h => by cases h)
      obtain ⟨hblk4, hlen4, hg4⟩ := block_of_owns hown4
      have hf4 := hown4.frozenAt 0
      obtain ⟨v4, hv4⟩ : ∃ v4, w4.cell? ⟨w3.heap.size, 0, none⟩ = some v4 := ⟨_, (hown4.cellAt 0 (by omega)).trans (List.getElem?_eq_getElem (by omega))⟩
      obtain ⟨hown5, hgrow5⟩ := hown4.stored 0 (.int .u64 x)
      have hb5 : Below w3.heap.size w3 (w4.setCell ⟨w3.heap.size, 0, none⟩ (.int .u64 x)) := hb4.grown hgrow5 hb4.size (fun k e => by cases e; exact Nat.le_refl _)
      obtain ⟨w5, hw5⟩ : ∃ w5, w5 = w4.setCell ⟨w3.heap.size, 0, none⟩ (.int .u64 x) := ⟨_, rfl⟩
      go_upto_region 11 with (fail)
      rw [← hw5] at hown5 hb5 ⊢
      obtain ⟨hblk5, hlen5, hg5⟩ := block_of_owns hown5
      obtain ⟨w6, hcp6, hblk6, hb6, hsz6⟩ := copy_run (w := w5) (w0 := w3) (B := w3.heap.size) (g := w3.heap.size) (n := n) (c := n) (c' := n) (o := 1) (b := w1.heap.size) (o' := 0) (z := z) hblk5 (by omega) (HN3.out.below hb5 hs3) hb5
      have HB6 : Hid (Below w3.heap.size w3 w6) := hb6 (Nat.le_refl _)
      have HN6 : Hid (NumsAt w6 w1.heap.size 0 n z) := HN3.out.below HB6.out hs3
      have HE6 : Hid (NumsAt w6 w3.heap.size 0 (n + 1) (ext x z)) := nums_of_block hblk6 (ext_at _ x z n (by rw [List.length_set]; exact hlen4) (by rw [List.getElem?_set_self (by omega)]))
      have HW6 : Hid (Below w1.heap.size w1 w6) := HB3.out.trans (HB6.out.mono (by omega))
      have hs6 : w3.heap.size < w6.heap.size := by omega
      have hs6' : w1.heap.size < w6.heap.size := by omega
      clear hw5 hown5 hb5 hgrow5 hown4 hgrow4 hb4 hblk4 hlen4 hg4 hf4 hv4 hblk5 hlen5 hg5 hblk6 hb6 HB3 HN3 HB6 q
      obtain ⟨D, E, D0, W, R, C, hDz, hDE, hZ0, hW, hR, hF⟩ := setup n k x z (by omega) hx HZ.out
      have HF : Hid (Facts n k D0 W R C) := hF
      have HZ0 : Hid (∀ j, j < n → ∀ w, Calls Trym.prog 9 #[.int .u64 ((x ^^^ z j : Nat) : Int)] w fun e w' => e = .returned (.int .i64 (D0 j)) ∧ w' = w) := hZ0
      clear hF hZ0
      have HDz : Hid (DistIs z n D) := hDz
      have HDE : Hid (DistIs (ext x z) (n + 1) E) := hDE
      have HWs : Hid (W = scan E k (n + 1) (n + 1)) := hW
      have HRs : Hid (R = scan D k n n) := hR
      clear hDz hDE hW hR
      go_wp2_with fail
      by_cases hWe : W = []
      · have hRe : R = [] := HF.out.rest_nil hWe
        have HWE : Hid (W = []) := hWe
        refine (scan_e _ _ (n + 1) _ k (ext x z) E _ (by omega) hs6 HE6.out HDE.out (by rw [← HWs.out]; exact hWe)).mono ?_
        rintro e w7 ⟨rfl, hb7⟩
        have HN7 : Hid (NumsAt w7 w1.heap.size 0 n z) := HN6.out.below hb7 hs6'
        have HB7 : Hid (Below w1.heap.size w1 w7) := HW6.out.trans (hb7.mono (by omega))
        have hs7 : w1.heap.size < w7.heap.size := Nat.lt_of_lt_of_le hs6' hb7.size
        clear hb7
        go_wp2_with fail
        refine (scan_e _ _ n _ k z D _ (by omega) hs7 HN7.out HDz.out (by rw [← HRs.out]; exact hRe)).mono ?_
        rintro e w8 ⟨rfl, hb8⟩
        have HN8 : Hid (NumsAt w8 w1.heap.size 0 n z) := HN7.out.below hb8 hs7
        have HB8 : Hid (Below w1.heap.size w1 w8) := HB7.out.trans (hb8.mono (by omega))
        have hs8 : w1.heap.size < w8.heap.size := Nat.lt_of_lt_of_le hs7 hb8.size
        have hCn : C n ≤ 0 := by have := HF.out.len; rw [hWe, hRe] at this; simp at this; omega
        clear hb8 hWe hRe
        go_wp2_with fail
        go_loopw [11, 12] (fun i b wq => ∃ j : Nat, j ≤ n ∧ b = .int .i64 j ∧ i = .int .i64 (C j) ∧ Below w8.heap.size w8 wq) (fun _ b _ => n - (intOf b).toNat)
        case atStart => exact ⟨0, Nat.zero_le _, rfl, by rw [HF.out.zero]; rfl, Below.refl _ _⟩
        case round =>
          obtain ⟨j, hj, rfl, rfl, hbj⟩ := hrel
          by_cases hlt : j < n
          · have hzj := HN8.out.below hbj hs8 j hlt
            rw [Nat.zero_add] at hzj
            have hxz := bits_xor_u64_nat x (z j) hx (HZ.out j hlt)
            by_cases hk : (D0 j : Int) ≤ k
            · exact absurd (HF.out.at0 j hlt hk) (by rw [HWE.out]; simp)
            · have HC1 : Hid (C (j + 1) = C j) := HF.out.miss j hk
              go_wp2_with (go_at_call 9; refine (HZ0.out j hlt _).mono ?_; rintro e w9 ⟨rfl, rfl⟩)
              go_roundw
              case rel => exact ⟨j + 1, by omega, by go_num, by rw [HC1.out], hbj⟩
              case measure => simp [intOf]; omega
          · obtain rfl : j = n := by omega

            go_wp2_with fail
            go_loopw [15] (fun t wq => t = .int .i64 0 ∧ Below w8.heap.size w8 wq) (fun _ _ => 0)
            case atStart => exact ⟨rfl, hbj⟩
            case round =>
              clear hbj
              obtain ⟨rfl, hbj⟩ := hrel
              go_wp2_with fail
              refine (scan_none _ _ k D _).mono ?_
              rintro e wz ⟨rfl, rfl⟩
              go_wp2_with fail
              go_ret
              exact ⟨rfl, HB8.out.trans (hbj.mono HB8.out.size)⟩
      · refine (scan_ne _ _ (n + 1) _ k (ext x z) E _ (by omega) hs6 HE6.out HDE.out W HWs.out hWe).mono ?_
        rintro e w7 ⟨gW, capW, rfl, hpW, hb7, hgW7⟩
        have HN7 : Hid (NumsAt w7 w1.heap.size 0 n z) := HN6.out.below hb7 hs6'
        have HB7 : Hid (Below w1.heap.size w1 w7) := HW6.out.trans (hb7.mono (by omega))
        have hs7 : w1.heap.size < w7.heap.size := Nat.lt_of_lt_of_le hs6' hb7.size
        have HPW7 : Hid (PairsAt w7 gW W) := hpW
        clear hb7 hpW
        by_cases hRe : R = []
        · go_wp2_with fail
          refine (scan_e _ _ n _ k z D _ (by omega) hs7 HN7.out HDz.out (by rw [← HRs.out]; exact hRe)).mono ?_
          rintro e w8 ⟨rfl, hb8⟩
          have HN8 : Hid (NumsAt w8 w1.heap.size 0 n z) := HN7.out.below hb8 hs7
          have HB8 : Hid (Below w1.heap.size w1 w8) := HB7.out.trans (hb8.mono (by omega))
          have hs8 : w1.heap.size < w8.heap.size := Nat.lt_of_lt_of_le hs7 hb8.size
          have HPW : Hid (PairsAt w8 gW W) := HPW7.out.below hb8 hgW7
          have hgW : gW < w8.heap.size := Nat.lt_of_lt_of_le hgW7 hb8.size
          have hCn1 : C n ≤ W.length := by have := HF.out.len; omega
          have hCn2 : W.length ≤ C n := by have := HF.out.len; rw [hRe] at this; simp at this; omega
          have hCn3 := HF.out.le n
          clear hb8 hRe hWe HPW7 hgW7
          go_wp2_with fail
          go_loopw [11, 12] (fun i b wq => ∃ j : Nat, j ≤ n ∧ b = .int .i64 j ∧ i = .int .i64 (C j) ∧ Below w8.heap.size w8 wq) (fun _ b _ => n - (intOf b).toNat)
          case atStart => exact ⟨0, Nat.zero_le _, rfl, by rw [HF.out.zero]; rfl, Below.refl _ _⟩
          case round =>
            obtain ⟨j, hj, rfl, rfl, hbj⟩ := hrel
            by_cases hlt : j < n
            · have hzj := HN8.out.below hbj hs8 j hlt
              rw [Nat.zero_add] at hzj
              have hxz := bits_xor_u64_nat x (z j) hx (HZ.out j hlt)
              by_cases hk : (D0 j : Int) ≤ k
              · have hC1 := HF.out.hit j hlt hk
                have hat := HF.out.at0 j hlt hk
                have hCl : C j < W.length := (List.getElem?_eq_some_iff.1 hat).1
                have hCj := HF.out.le j
                obtain ⟨p0, p1, p2⟩ := HPW.out.below hbj hgW _ _ hat
                have p0' : wr.cell? ⟨gW, C j * 3, none⟩ = some (.int .i64 0) := p0
                have p1' : wr.cell? ⟨gW, C j * 3 + 1, none⟩ = some (.int .i64 ((j : Int) + 1)) := p1
                have p2' : wr.cell? ⟨gW, C j * 3 + 2, none⟩ = some (.int .i64 (D0 j)) := p2
                have HC1 : Hid (C (j + 1) = C j + 1) := hC1
                clear hC1 hat p0 p1 p2
                go_wp2_with (go_at_call 9; refine (HZ0.out j hlt _).mono ?_; rintro e w9 ⟨rfl, rfl⟩)
                go_roundw
                case rel => exact ⟨j + 1, by omega, by go_num, by rw [HC1.out]; go_num, hbj.alloc hbj.size _⟩
                case measure => simp [intOf]; omega
              · have HC1 : Hid (C (j + 1) = C j) := HF.out.miss j hk
                go_wp2_with (go_at_call 9; refine (HZ0.out j hlt _).mono ?_; rintro e w9 ⟨rfl, rfl⟩)
                go_roundw
                case rel => exact ⟨j + 1, by omega, by go_num, by rw [HC1.out], hbj⟩
                case measure => simp [intOf]; omega
            · obtain rfl : j = n := by omega

              go_wp2_with fail
              go_loopw [15] (fun t wq => t = .int .i64 0 ∧ Below w8.heap.size w8 wq) (fun _ _ => 0)
              case atStart => exact ⟨rfl, hbj⟩
              case round =>
                clear hbj
                obtain ⟨rfl, hbj⟩ := hrel
                go_wp2_with fail
                refine (scan_none _ _ k D _).mono ?_
                rintro e wz ⟨rfl, rfl⟩
                go_wp2_with fail
                go_ret
                exact ⟨rfl, HB8.out.trans (hbj.mono HB8.out.size)⟩
        · go_wp2_with fail
          refine (scan_ne _ _ n _ k z D _ (by omega) hs7 HN7.out HDz.out R HRs.out hRe).mono ?_
          rintro e w8 ⟨gR, capR, rfl, hpR, hb8, hgR⟩
          have HN8 : Hid (NumsAt w8 w1.heap.size 0 n z) := HN7.out.below hb8 hs7
          have HB8 : Hid (Below w1.heap.size w1 w8) := HB7.out.trans (hb8.mono (by omega))
          have hs8 : w1.heap.size < w8.heap.size := Nat.lt_of_lt_of_le hs7 hb8.size
          have HPW : Hid (PairsAt w8 gW W) := HPW7.out.below hb8 hgW7
          have HPR : Hid (PairsAt w8 gR R) := hpR
          have hgW : gW < w8.heap.size := Nat.lt_of_lt_of_le hgW7 hb8.size
          have hCn1 : C n + R.length ≤ W.length := by have := HF.out.len; omega
          have hCn2 : W.length ≤ C n + R.length := by have := HF.out.len; omega
          have hCn3 := HF.out.le n
          have hRl := HF.out.small
          clear hb8 hRe hWe HPW7 hgW7 hpR
          go_wp2_with fail
          go_loopw [11, 12] (fun i b wq => ∃ j : Nat, j ≤ n ∧ b = .int .i64 j ∧ i = .int .i64 (C j) ∧ Below w8.heap.size w8 wq) (fun _ b _ => n - (intOf b).toNat)
          case atStart => exact ⟨0, Nat.zero_le _, rfl, by rw [HF.out.zero]; rfl, Below.refl _ _⟩
          case round =>
            obtain ⟨j, hj, rfl, rfl, hbj⟩ := hrel
            by_cases hlt : j < n
            · have hzj := HN8.out.below hbj hs8 j hlt
              rw [Nat.zero_add] at hzj
              have hxz := bits_xor_u64_nat x (z j) hx (HZ.out j hlt)
              by_cases hk : (D0 j : Int) ≤ k
              · have hC1 := HF.out.hit j hlt hk
                have hat := HF.out.at0 j hlt hk
                have hCl : C j < W.length := (List.getElem?_eq_some_iff.1 hat).1
                have hCj := HF.out.le j
                obtain ⟨p0, p1, p2⟩ := HPW.out.below hbj hgW _ _ hat
                have p0' : wr.cell? ⟨gW, C j * 3, none⟩ = some (.int .i64 0) := p0
                have p1' : wr.cell? ⟨gW, C j * 3 + 1, none⟩ = some (.int .i64 ((j : Int) + 1)) := p1
                have p2' : wr.cell? ⟨gW, C j * 3 + 2, none⟩ = some (.int .i64 (D0 j)) := p2
                have HC1 : Hid (C (j + 1) = C j + 1) := hC1
                clear hC1 hat p0 p1 p2
                go_wp2_with (go_at_call 9; refine (HZ0.out j hlt _).mono ?_; rintro e w9 ⟨rfl, rfl⟩)
                go_roundw
                case rel => exact ⟨j + 1, by omega, by go_num, by rw [HC1.out]; go_num, hbj.alloc hbj.size _⟩
                case measure => simp [intOf]; omega
              · have HC1 : Hid (C (j + 1) = C j) := HF.out.miss j hk
                go_wp2_with (go_at_call 9; refine (HZ0.out j hlt _).mono ?_; rintro e w9 ⟨rfl, rfl⟩)
                go_roundw
                case rel => exact ⟨j + 1, by omega, by go_num, by rw [HC1.out], hbj⟩
                case measure => simp [intOf]; omega
            · obtain rfl : j = n := by omega

              go_wp2_with fail
              go_loopw [15] (fun t wq => ∃ y : Nat, y ≤ R.length ∧ t = .int .i64 y ∧ Below w8.heap.size w8 wq) (fun t _ => R.length - (intOf t).toNat)
              case atStart => exact ⟨0, Nat.zero_le _, rfl, hbj⟩
              case round =>
                clear hbj
                obtain ⟨y, hy, rfl, hbj⟩ := hrel
                by_cases hlt2 : y < R.length
                · obtain ⟨q0, hq0⟩ : ∃ q0, R[y]? = some q0 := ⟨_, List.getElem?_eq_getElem hlt2⟩
                  obtain ⟨hWq, ha, hbb⟩ := HF.out.rest y q0 hq0
                  obtain ⟨p0, p1, p2⟩ := HPW.out.below hbj hgW _ _ hWq
                  obtain ⟨r0, r1, r2⟩ := HPR.out.below hbj hgR _ _ hq0
                  have p0' : wr.cell? ⟨gW, (C j + y) * 3, none⟩ = some (.int .i64 ((q0.a : Int) + 1)) := p0
                  have p1' : wr.cell? ⟨gW, (C j + y) * 3 + 1, none⟩ = some (.int .i64 ((q0.b : Int) + 1)) := p1
                  have p2' : wr.cell? ⟨gW, (C j + y) * 3 + 2, none⟩ = some (.int .i64 q0.d) := p2
                  have hgR' : gR < wr.heap.size := Nat.lt_of_lt_of_le hgR hbj.size
                  have r0' : ∀ ob, (wr.alloc ob).cell? ⟨gR, y * 3, none⟩ = some (.int .i64 q0.a) := fun ob => (((Below.refl wr.heap.size wr).alloc (Nat.le_refl _) ob).cell (p := ⟨gR, y * 3, none⟩) hgR').trans r0
                  have r1' : ∀ ob, (wr.alloc ob).cell? ⟨gR, y * 3 + 1, none⟩ = some (.int .i64 q0.b) := fun ob => (((Below.refl wr.heap.size wr).alloc (Nat.le_refl _) ob).cell (p := ⟨gR, y * 3 + 1, none⟩) hgR').trans r1
                  have r2' : ∀ ob, (wr.alloc ob).cell? ⟨gR, y * 3 + 2, none⟩ = some (.int .i64 q0.d) := fun ob => (((Below.refl wr.heap.size wr).alloc (Nat.le_refl _) ob).cell (p := ⟨gR, y * 3 + 2, none⟩) hgR').trans r2
                  clear p0 p1 p2 hWq hq0 r0 r1 r2
                  go_wp2_with fail
                  go_roundw
                  case rel => exact ⟨y + 1, by omega, by go_num, (hbj.alloc hbj.size _).alloc (by have := hbj.size; simp; omega) _⟩
                  case measure => simp [intOf]; omega
                · go_wp2_with fail
                  refine (scan_none _ _ k D _).mono ?_
                  rintro e wz ⟨rfl, rfl⟩
                  go_wp2_with fail
                  go_ret
                  exact ⟨rfl, HB8.out.trans (hbj.mono HB8.out.size)⟩
end Go.Proofs.Qxb6608571aMods.Sp
