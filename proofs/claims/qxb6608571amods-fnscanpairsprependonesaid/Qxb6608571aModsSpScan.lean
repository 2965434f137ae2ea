/- FnScanPairsPrependOne: ScanPairs makes a row of the pairs. -/
import Derived.Test.Qxb6608571aModsSpOnes
import Derived.WalkSpells
namespace Go.Proofs.Qxb6608571aMods.Sp
open Go.ChangeShapes Go.WideShapes Go.ChangeAt Go.RowKit
set_option linter.unusedVariables false

theorem Trym.info34 : (Trym.prog.info? 34).map (fun i => (i.zero, i.size, i.bytes)) = some (some (.agg #[.int .i64 0, .int .i64 0, .int .i64 0]), 3, 24) := by kernel_rfl

/-- a pair: two places and a distance -/
structure Pr where
  a : Nat
  b : Nat
  d : Nat
def Pr.cells (q : Pr) : List Value := [.int .i64 q.a, .int .i64 q.b, .int .i64 q.d]
def prCells (l : List Pr) : List Value := l.flatMap Pr.cells
theorem length_prCells : ∀ l : List Pr, (prCells l).length = l.length * 3
  | [] => rfl
  | q :: r => by have := length_prCells r; simp only [prCells, List.flatMap_cons, List.length_append, List.length_cons] at *; simp only [Pr.cells, List.length_cons, List.length_nil]; omega
theorem prCells_snoc (l : List Pr) (q : Pr) : prCells (l ++ [q]) = prCells l ++ q.cells := by simp [prCells]
theorem prCells_at (j : Nat) (hj : j < 3) : ∀ (l : List Pr) (i : Nat) (q : Pr), l[i]? = some q → (prCells l)[i * 3 + j]? = q.cells[j]?
  | [], i, q, h => by simp at h
  | y :: r, 0, q, h => by
    simp at h
    subst h
    simp only [prCells, List.flatMap_cons]
    rw [List.getElem?_append_left (by simp [Pr.cells]; omega)]
    simp
  | y :: r, i + 1, q, h => by
    simp at h
    have := prCells_at j hj r i q h
    simp only [prCells, List.flatMap_cons] at *
    rw [List.getElem?_append_right (by simp [Pr.cells]; omega)]
    rw [← this]
    congr 1
    simp [Pr.cells]
    omega

/-- the pairs (a, lo), (a, lo + 1), .. of which the distance is at most k -/
def inn (D : Nat → Nat → Nat) (k : Int) (a lo : Nat) : Nat → List Pr
  | 0 => []
  | j + 1 => inn D k a lo j ++ if (D a (lo + j) : Int) ≤ k then [⟨a, lo + j, D a (lo + j)⟩] else []
def scan (D : Nat → Nat → Nat) (k : Int) (n : Nat) : Nat → List Pr
  | 0 => []
  | a + 1 => scan D k n a ++ inn D k a (a + 1) (n - (a + 1))
theorem inn_len (D : Nat → Nat → Nat) (k : Int) (a lo : Nat) : ∀ j, (inn D k a lo j).length ≤ j
  | 0 => Nat.le_refl _
  | j + 1 => by
    have := inn_len D k a lo j
    unfold inn
    split <;> simp <;> omega
theorem scan_len (D : Nat → Nat → Nat) (k : Int) (n : Nat) : ∀ a, (scan D k n a).length ≤ a * n
  | 0 => by simp [scan]
  | a + 1 => by
    have := scan_len D k n a
    have := inn_len D k a (a + 1) (n - (a + 1))
    unfold scan
    rw [List.length_append, Nat.add_mul]
    omega

/-- the numbers that lie from ⟨b, o⟩ on -/
def NumsAt (w : World) (b o n : Nat) (z : Nat → Nat) : Prop := ∀ i, i < n → w.cell? ⟨b, o + i, none⟩ = some (.int .u64 (z i))
theorem NumsAt.below {w w' : World} {b o n B : Nat} {z : Nat → Nat} (h : NumsAt w b o n z) (hb : Below B w w') (hlt : b < B) : NumsAt w' b o n z :=
  fun i hi => (hb.cell (p := ⟨b, _, none⟩) hlt).trans (h i hi)

theorem cells_new3 (w : World) (q : Pr) (t : Nat) : ∀ j u, q.cells[j]? = some u → (w.alloc (.cells #[.int .i64 q.a, .int .i64 q.b, .int .i64 q.d] t)).cell? ((⟨w.heap.size, 0, none⟩ : Addr).add j) = some u := by
  intro j u hj
  match j, hj with
  | 0, hj => simp [Pr.cells] at hj; subst hj; simp [Addr.add]
  | 1, hj => simp [Pr.cells] at hj; subst hj; simp [Addr.add]
  | 2, hj => simp [Pr.cells] at hj; subst hj; simp [Addr.add]
  | j + 3, hj => simp [Pr.cells] at hj
theorem cells_one3 (q : Pr) : ∀ u ∈ q.cells, u.oneCell' = true := by
  intro u hu
  simp [Pr.cells] at hu
  rcases hu with rfl | rfl | rfl <;> rfl

/-- Distance at the numbers z, an unknown function D -/
def DistIs (z : Nat → Nat) (n : Nat) (D : Nat → Nat → Nat) : Prop := ∀ a b, a < n → b < n → ∀ w, Calls Trym.prog 6 #[.int .u64 (z a), .int .u64 (z b)] w fun e w' => e = .returned (.int .i64 (D a b)) ∧ w' = w

/-- a slice of pairs of the call's own: nil where there is none -/
def Own (w : World) (base : Nat) (v : Value) (l : List Pr) : Prop := w.ownsRow base 34 3 v l.length (prCells l) ∧ (l = [] → v = .slice none 0 0)

theorem own_step {w wr w1 : World} {o : Obj} {base : Nat} {v : Value} {l : List Pr} (hb : Below base w wr) (hB : base ≤ wr.heap.size) (ho : wr.ownsRow base 34 3 v l.length (prCells l)) (hg : (wr.alloc o).grownBy w1 v.ownBlock) : Below base w w1 :=
  (hb.alloc hB o).grown hg (by simp; omega) (fun k e => (ho.lt k e).1)

theorem own_yes {w3 : World} {base : Nat} {v' : Value} {l : List Pr} {a bm j n : Nat} {D : Nat → Nat → Nat} {k : Int} (h : w3.ownsRow base 34 3 v' (l.length + 1) (prCells l ++ Pr.cells ⟨a, bm, D a bm⟩)) (hb : bm = a + 1 + j)
    (hl : l = scan D k n a ++ inn D k a (a + 1) j) (hk : (D a bm : Int) ≤ k) : Own w3 base v' (scan D k n a ++ inn D k a (a + 1) (j + 1)) := by
  have e : scan D k n a ++ inn D k a (a + 1) (j + 1) = l ++ [⟨a, bm, D a bm⟩] := by rw [inn, if_pos (by rw [← hb]; exact hk), ← List.append_assoc, ← hl, ← hb]
  rw [e]
  exact ⟨by rw [List.length_append, prCells_snoc]; exact h, fun h => absurd h (by simp)⟩
theorem list_small (D : Nat → Nat → Nat) (k : Int) (n a j : Nat) (hn : n ≤ 1025) (ha : a ≤ n) (hj : a + 1 + j ≤ n) : (scan D k n a ++ inn D k a (a + 1) j).length ≤ 2000000 := by
  have h1 := scan_len D k n a
  have h2 := inn_len D k a (a + 1) j
  have h3 : a * n ≤ 1025 * 1025 := Nat.mul_le_mul (by omega) hn
  rw [List.length_append]
  omega

set_option maxHeartbeats 1000000 in
theorem scan_some (b o n c : Nat) (k : Int) (z : Nat → Nat) (D : Nat → Nat → Nat) (w : World) (hn : n ≤ 1025) (hb : b < w.heap.size) (hc : NumsAt w b o n z) (hd : DistIs z n D) :
    Calls Trym.prog 8 #[.slice (some ⟨b, o, none⟩) n c, .int .i64 k] w fun e w' => ∃ v, e = .returned v ∧ Own w' w.heap.size v (scan D k n n) ∧ Below w.heap.size w w' := by
  have HC : Hid (NumsAt w b o n z) := hc
  have HD : Hid (DistIs z n D) := hd
  clear hc hd
  obtain ⟨i0, hi, hz0, hz1, hz2⟩ := info_parts Trym.info34
  go_enter Trym.func8, Trym.ntmps8
  go_wp2_with fail
  go_loopw [5, 12] (fun v i wr => ∃ a : Nat, a ≤ n ∧ i = .int .i64 a ∧ Own wr w.heap.size v (scan D k n a) ∧ Below w.heap.size w wr) (fun _ i _ => n - (intOf i).toNat)
  case atStart => exact ⟨0, Nat.zero_le _, rfl, ⟨World.ownsRow_nil _ _ _ _, fun _ => rfl⟩, Below.refl _ _⟩
  case round =>
    obtain ⟨a, ha, rfl, hown, hba⟩ := hrel
    by_cases hlt : a < n
    · have ha0 := HC.out.below hba hb a hlt
      have hw5 := hown
      clear hown
      go_wp2_with fail
      go_loopw [5, 8] (fun v i wq => ∃ j bm : Nat, Hid (bm = a + 1 + j) ∧ bm ≤ n ∧ i = .int .i64 bm ∧ Own wq w.heap.size v (scan D k n a ++ inn D k a (a + 1) j) ∧ Below w.heap.size w wq) (fun _ i _ => n - (intOf i).toNat)
      case atStart => exact ⟨0, a + 1, rfl, by omega, by go_num, by simpa [inn] using hw5, hba⟩
      case round =>
        clear hw5 hba ha0
        obtain ⟨j, bm, hbm, hle, rfl, hown, hbj⟩ := hrel
        by_cases hlt2 : bm < n
        · have hb0 := HC.out.below hbj hb bm hlt2
          have HDA := HD.out a bm hlt hlt2
          have HDA : Hid _ := HDA
          by_cases hk : (D a bm : Int) ≤ k
          · have HL : Hid ((scan D k n a ++ inn D k a (a + 1) j).length ≤ 2000000) := list_small D k n a j (by omega) (by omega) (by have := hbm.out; omega)
            obtain ⟨l, hl⟩ : ∃ l, l = scan D k n a ++ inn D k a (a + 1) j := ⟨_, rfl⟩
            rw [← hl] at hown HL
            have HLL : Hid (l = scan D k n a ++ inn D k a (a + 1) j) := hl
            clear hl
            have hsz := hbj.size
            go_wp2_with (first | (go_at_call 6; refine (HDA.out _).mono ?_; rintro e w2 ⟨rfl, rfl⟩) | (at_builtin; refine wpList_append_own _ rfl _ _ 30 rfl w.heap.size 34 i0 _ 3 24 Trym.underlying30 hi hz0 hz1 hz2 rfl (by decide) _ _ _ rfl (hown.1.alloc _) ⟨w2.heap.size, 0, none⟩ 1 1 (Pr.cells ⟨a, bm, D a bm⟩) rfl rfl (cells_new3 w2 ⟨a, bm, D a bm⟩ _) (cells_one3 _) (by have := HL.out; unfold maxLen; omega) (by have := HL.out; omega) (by simp; omega) ?_; intro v' w3 hown3 hgrow3 hnil3))
            go_roundw
            case rel => exact ⟨j + 1, bm + 1, by have := hbm.out; unfold Hid; omega, by omega, by go_num, own_yes hown3 hbm.out HLL.out hk, own_step hbj hsz hown.1 hgrow3⟩
            case measure => simp [intOf]; omega
          · go_wp2_with (go_at_call 6; refine (HDA.out _).mono ?_; rintro e w2 ⟨rfl, rfl⟩)
            go_roundw
            case rel => exact ⟨j + 1, bm + 1, by have := hbm.out; unfold Hid; omega, by omega, by go_num, by rw [inn, if_neg (by rw [← hbm.out]; omega), List.append_nil]; exact hown, hbj⟩
            case measure => simp [intOf]; omega
        · go_wp2_with fail
          go_roundw
          case rel => exact ⟨a + 1, by omega, by go_num, by rw [scan, show n - (a + 1) = j by have := hbm.out; omega]; exact hown, hbj⟩
          case measure => simp [intOf]; omega
    · go_wp2_with fail
      obtain rfl : a = n := by omega
      go_ret
      exact ⟨_, rfl, hown, hba⟩

set_option maxHeartbeats 1000000 in
theorem scan_none (v : Option Addr) (c : Nat) (k : Int) (D : Nat → Nat → Nat) (w : World) :
    Calls Trym.prog 8 #[.slice v 0 c, .int .i64 k] w fun e w' => e = .returned (.slice none 0 0) ∧ w' = w := by
  go_enter Trym.func8, Trym.ntmps8
  go_wp2_with fail
  go_loopw [5, 12] (fun v i wr => i = .int .i64 0 ∧ v = .slice none 0 0 ∧ wr = w) (fun _ i _ => 0)
  case atStart => exact ⟨rfl, rfl, rfl⟩
  case round =>
    obtain ⟨rfl, rfl, rfl⟩ := hrel
    go_wp2_with fail
    go_ret
    exact ⟨rfl, rfl⟩
end Go.Proofs.Qxb6608571aMods.Sp
