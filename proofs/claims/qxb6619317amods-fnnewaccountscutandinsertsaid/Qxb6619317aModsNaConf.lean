/- FnNewAccountsCutAndInsert: toConfig: a new row that holds the same links. -/
import Derived.Test.Qxb6619317aModsNaBytes
import Derived.WalkSpells
namespace Go.Proofs.Qxb6619317aMods.Na
open Go.ChangeShapes Go.WideShapes Go.ChangeAt Go.RowKit
set_option linter.unusedVariables false

theorem Trym.info35 : (Trym.prog.info? 35).map (fun i => (i.zero, i.size, i.bytes)) = some (some (.agg #[.string ⟨#[]⟩, .string ⟨#[]⟩, .string ⟨#[]⟩, .string ⟨#[]⟩]), 4, 64) := by kernel_rfl

def Lk.cells (l : Lk) : List Value := [.string l.sid, .string l.pw, .string l.st, .string l.cn]
/-- the cells of the first k links -/
def cellsTo (L : Nat → Lk) : Nat → List Value
  | 0 => []
  | k + 1 => cellsTo L k ++ (L k).cells
theorem length_cellsTo (L : Nat → Lk) : ∀ k, (cellsTo L k).length = k * 4
  | 0 => rfl
  | k + 1 => by simp [cellsTo, Lk.cells, length_cellsTo L k]; omega
theorem cellsTo_at (L : Nat → Lk) (i j : Nat) (hj : j < 4) : ∀ k, i < k → (cellsTo L k)[i * 4 + j]? = (L i).cells[j]?
  | 0, h => absurd h (by omega)
  | k + 1, h => by
    have hl := length_cellsTo L k
    by_cases e : i = k
    · subst e
      rw [cellsTo, List.getElem?_append_right (by omega), hl]
      congr 1
      omega
    · rw [cellsTo, List.getElem?_append_left (by omega)]
      exact cellsTo_at L i j hj k (by omega)

/-- what is owned stays owned while only blocks from B on are written -/
theorem ownsRow_below {w w' : World} {base e size : Nat} {g : Nat} {m n : Nat} {xs : List Value} {B : Nat} (h : w.ownsRow base e size (.slice (some ⟨g, 0, none⟩) m n) m xs) (hb : Below B w w') (hg : g < B) :
    w'.ownsRow base e size (.slice (some ⟨g, 0, none⟩) m n) m xs := by
  refine ⟨h.1, ?_⟩
  rcases h.2 with ⟨h', _⟩ | ⟨g', cap, cur, h', hbg, hgg, r⟩
  · simp at h'
  · simp only [Value.slice.injEq, Option.some.injEq, Addr.mk.injEq, and_true, true_and] at h'
    obtain ⟨rfl, rfl⟩ := h'
    exact .inr ⟨g, n, cur, rfl, hbg, (hb.block g hg).trans hgg, r⟩

theorem linksAt_of_owns {w : World} {base g k c : Nat} {L : Nat → Lk} (h : w.ownsRow base 35 4 (.slice (some ⟨g, 0, none⟩) k c) k (cellsTo L k)) : LinksAt w g 0 k L := by
  intro i hi
  have h0 := h.cellAt (i * 4 + 0) (by omega)
  have h1 := h.cellAt (i * 4 + 1) (by omega)
  have h2 := h.cellAt (i * 4 + 2) (by omega)
  have h3 := h.cellAt (i * 4 + 3) (by omega)
  rw [cellsTo_at L i _ (by omega) k hi] at h0 h1 h2 h3
  exact ⟨by simpa [Lk.cells] using h0, by simpa [Lk.cells] using h1, by simpa [Lk.cells] using h2, by simpa [Lk.cells] using h3⟩

theorem LinksAt.below {w w' : World} {b o n B : Nat} {L : Nat → Lk} (h : LinksAt w b o n L) (hb : Below B w w') (hlt : b < B) : LinksAt w' b o n L := by
  intro i hi
  obtain ⟨h0, h1, h2, h3⟩ := h i hi
  exact ⟨(hb.cell (p := ⟨b, _, none⟩) hlt).trans h0, (hb.cell (p := ⟨b, _, none⟩) hlt).trans h1, (hb.cell (p := ⟨b, _, none⟩) hlt).trans h2, (hb.cell (p := ⟨b, _, none⟩) hlt).trans h3⟩

/-- the four cells of a block that has just been laid -/
theorem cells_new (w : World) (l : Lk) (t : Nat) : ∀ j u, l.cells[j]? = some u → (w.alloc (.cells #[.string l.sid, .string l.pw, .string l.st, .string l.cn] t)).cell? ((⟨w.heap.size, 0, none⟩ : Addr).add j) = some u := by
  intro j u hj
  match j, hj with
  | 0, hj => simp [Lk.cells] at hj; subst hj; simp [Addr.add]
  | 1, hj => simp [Lk.cells] at hj; subst hj; simp [Addr.add]
  | 2, hj => simp [Lk.cells] at hj; subst hj; simp [Addr.add]
  | 3, hj => simp [Lk.cells] at hj; subst hj; simp [Addr.add]
  | j + 4, hj => simp [Lk.cells] at hj
theorem cells_one (l : Lk) : ∀ u ∈ l.cells, u.oneCell' = true := by
  intro u hu
  simp [Lk.cells] at hu
  rcases hu with rfl | rfl | rfl | rfl <;> rfl

theorem nil_eq (w : World) (a : Option Addr) (n c n' c' : Nat) : (binOp .eql 27 (.slice a n c) (.slice none n' c')).run Trym.prog w = .ok (.bool a.isNone) w := Lib.run_eql_slice_nil w _ _ a n c n' c' Trym.underlying27

theorem conf_nil (w : World) : Calls Trym.prog 10 #[.slice none 0 0] w fun e w' => e = .returned (.slice none 0 0) ∧ w' = w := by
  have q := nil_eq
  go_enter Trym.func10, Trym.ntmps10
  go_wp2
  go_ret
  exact ⟨rfl, rfl⟩

theorem conf_below {w wr w2 w3 : World} {o : Obj} (h1 : Below w.heap.size w wr) (h2 : Below wr.heap.size wr w2) (h3 : (w2.alloc o).grownBy w3 (some w.heap.size)) : Below w.heap.size w w3 := by
  have hs := h1.size
  have hs2 := h2.size
  exact ((h1.trans (h2.mono hs)).alloc (by omega) o).grown h3 (by simp; omega) (fun k e => by cases e; exact Nat.le_refl _)

set_option maxHeartbeats 1000000 in
theorem conf_some (b o n c : Nat) (L : Nat → Lk) (w : World) (hn : n ≤ 1048576) (hb : b < w.heap.size) (hc : LinksAt w b o n L) :
    Calls Trym.prog 10 #[.slice (some ⟨b, o, none⟩) n c] w fun e w' => e = .returned (.slice (some ⟨w.heap.size, 0, none⟩) n n) ∧ LinksAt w' w.heap.size 0 n L ∧ Below w.heap.size w w' ∧ w.heap.size < w'.heap.size := by
  have HC : Hid (LinksAt w b o n L) := hc
  clear hc
  obtain ⟨i0, hi, hz0, hz1, hz2⟩ := info_parts Trym.info35
  have q := nil_eq
  go_enter Trym.func10, Trym.ntmps10
  go_wp2_with (at_make; refine wpList_make_own _ rfl _ _ 32 rfl w.heap.size 35 i0 _ 4 Trym.underlying32 hi hz0 hz1 _ _ _ n rfl rfl rfl (by rw [hz2]; omega) (by unfold maxLen; omega) (Nat.le_refl _) ?_; intro w1 hown hgrow)
  have hb1 : Below w.heap.size w w1 := (Below.refl _ _).grown hgrow (Nat.le_refl _) (fun _ h => by cases h)
  clear q
  go_loopw [3, 4] (fun v i wr => ∃ k : Nat, k ≤ n ∧ i = .int .i64 k ∧ v = .slice (some ⟨w.heap.size, 0, none⟩) k n ∧ wr.ownsRow w.heap.size 35 4 (.slice (some ⟨w.heap.size, 0, none⟩) k n) k (cellsTo L k) ∧ Below w.heap.size w wr) (fun _ i _ => n - (intOf i).toNat)
  case atStart => exact ⟨0, Nat.zero_le _, rfl, rfl, hown, hb1⟩
  case round =>
    clear hown hgrow hb1
    obtain ⟨k, hk, rfl, rfl, hownk, hbk⟩ := hrel
    have hB : w.heap.size < wr.heap.size := by
      rcases hownk.2 with ⟨h', _⟩ | ⟨g', cap, cur, h', _, hgg, _⟩
      · simp at h'
      · simp only [Value.slice.injEq, Option.some.injEq, Addr.mk.injEq, and_true, true_and] at h'
        rw [h'.1]
        exact (Array.getElem?_eq_some_iff.1 hgg).1
    by_cases hlt : k < n
    · obtain ⟨h0, h1, h2, h3⟩ := (HC.out.below hbk hb) k hlt
      go_wp2_with (first | (go_at_call 11; refine (toLink_any _ _ _ _ _).mono ?_; rintro e w2 ⟨rfl, hb2⟩) | (at_builtin; refine wpList_append_fits _ rfl _ _ 32 rfl w.heap.size 35 i0 4 Trym.underlying32 hi hz1 w.heap.size k n _ rfl ((ownsRow_below hownk hb2 hB).alloc _) ⟨w2.heap.size, 0, none⟩ 1 1 (L k).cells rfl rfl (cells_new w2 (L k) _) (cells_one _) (by omega) ?_; intro w3 hown3 hgrow3))
      go_roundw
      case rel => exact ⟨k + 1, by omega, by go_num, rfl, hown3, conf_below hbk hb2 hgrow3⟩
      case measure => simp [intOf]; omega
    · go_wp2_with fail
      obtain rfl : k = n := by omega
      go_ret
      exact ⟨rfl, linksAt_of_owns hownk, hbk, hB⟩
end Go.Proofs.Qxb6619317aMods.Na
