/- FnScanPairsPrependOne: the plain law on the lists of pairs, and the contracts of ScanPairs by whether there is a pair. -/
import Derived.Test.Qxb6608571aModsSpScan
namespace Go.Proofs.Qxb6608571aMods.Sp
open Go.ChangeShapes Go.WideShapes Go.ChangeAt Go.RowKit
set_option linter.unusedVariables false

def Pr.up (q : Pr) : Pr := ⟨q.a + 1, q.b + 1, q.d⟩

theorem inn_up {D E : Nat → Nat → Nat} (h : ∀ a b, E (a + 1) (b + 1) = D a b) (k : Int) (a lo : Nat) : ∀ j, inn E k (a + 1) (lo + 1) j = (inn D k a lo j).map Pr.up
  | 0 => rfl
  | j + 1 => by
    have e : lo + 1 + j = lo + j + 1 := by omega
    rw [inn, inn, inn_up h k a lo j, e, h a (lo + j)]
    split <;> simp [Pr.up]
theorem scan_up {D E : Nat → Nat → Nat} (h : ∀ a b, E (a + 1) (b + 1) = D a b) (k : Int) (n : Nat) : ∀ a, scan E k (n + 1) (a + 1) = inn E k 0 1 n ++ (scan D k n a).map Pr.up
  | 0 => by simp [scan]
  | a + 1 => by
    rw [scan, scan_up h k n a, scan, List.map_append, List.append_assoc, ← inn_up h k a (a + 1)]
    congr 3
    omega

theorem inn_at {E : Nat → Nat → Nat} {k : Int} {a lo : Nat} {j : Nat} (hk : (E a (lo + j) : Int) ≤ k) : ∀ n, j < n → (inn E k a lo n)[(inn E k a lo j).length]? = some ⟨a, lo + j, E a (lo + j)⟩
  | 0, h => absurd h (by omega)
  | n + 1, h => by
    by_cases e : j = n
    · subst e
      rw [inn, if_pos hk, List.getElem?_append_right (Nat.le_refl _)]
      simp
    · have ih := inn_at hk n (by omega)
      rw [inn, List.getElem?_append_left (List.getElem?_eq_some_iff.1 ih).1]
      exact ih
theorem inn_mem {D : Nat → Nat → Nat} {k : Int} {a lo : Nat} : ∀ j q, q ∈ inn D k a lo j → q.a = a ∧ q.b < lo + j
  | 0, q, h => by simp [inn] at h
  | j + 1, q, h => by
    rw [inn] at h
    rcases List.mem_append.1 h with h | h
    · have := inn_mem j q h; omega
    · split at h
      · simp at h; subst h; simp
      · simp at h
theorem scan_mem {D : Nat → Nat → Nat} {k : Int} {n : Nat} : ∀ a q, a ≤ n → q ∈ scan D k n a → q.a < n ∧ q.b ≤ n
  | 0, q, _, h => by simp [scan] at h
  | a + 1, q, ha, h => by
    rw [scan] at h
    rcases List.mem_append.1 h with h | h
    · exact scan_mem a q (by omega) h
    · have := inn_mem _ q h; omega

/-- what the law needs of the whole list W, the rest R and the counter C -/
structure Facts (n : Nat) (k : Int) (D0 : Nat → Nat) (W R : List Pr) (C : Nat → Nat) : Prop where
  zero : C 0 = 0
  hit : ∀ j, j < n → (D0 j : Int) ≤ k → C (j + 1) = C j + 1
  miss : ∀ j, ¬ (D0 j : Int) ≤ k → C (j + 1) = C j
  le : ∀ j, C j ≤ j
  at0 : ∀ j, j < n → (D0 j : Int) ≤ k → W[C j]? = some ⟨0, j + 1, D0 j⟩
  len : W.length = C n + R.length
  rest : ∀ t q, R[t]? = some q → W[C n + t]? = some q.up ∧ q.a ≤ 1025 ∧ q.b ≤ 1025
  small : R.length ≤ 2000000

theorem facts {n : Nat} {k : Int} {D E : Nat → Nat → Nat} {D0 : Nat → Nat} (hn : n ≤ 1024) (h : ∀ a b, E (a + 1) (b + 1) = D a b) (h0 : ∀ j, D0 j = E 0 (1 + j)) :
    Facts n k D0 (scan E k (n + 1) (n + 1)) (scan D k n n) (fun j => (inn E k 0 1 j).length) := by
  have hs := scan_up h k n n
  refine ⟨rfl, fun j hj hk => ?_, fun j hk => ?_, fun j => inn_len _ _ _ _ _, fun j hj hk => ?_, ?_, fun t q hq => ?_, ?_⟩
  · rw [h0] at hk
    show (inn E k 0 1 (j + 1)).length = _
    rw [inn, if_pos hk]
    simp
  · rw [h0] at hk
    show (inn E k 0 1 (j + 1)).length = _
    rw [inn, if_neg hk]
    simp
  · rw [h0] at hk
    have := inn_at hk n hj
    rw [hs, List.getElem?_append_left (List.getElem?_eq_some_iff.1 this).1, this, h0, Nat.add_comm 1 j]
  · rw [hs]; simp
  · have hm := scan_mem n q (Nat.le_refl _) (List.mem_of_getElem? hq)
    refine ⟨?_, by omega, by omega⟩
    rw [hs, List.getElem?_append_right (by simp)]
    simp [hq]
  · have := scan_len D k n n
    have : n * n ≤ 1025 * 1025 := Nat.mul_le_mul (by omega) (by omega)
    omega

/-- the pairs that lie from the head of block g on -/
def PairsAt (w : World) (g : Nat) (l : List Pr) : Prop := ∀ i q, l[i]? = some q → w.cell? ⟨g, i * 3, none⟩ = some (.int .i64 q.a) ∧ w.cell? ⟨g, i * 3 + 1, none⟩ = some (.int .i64 q.b) ∧ w.cell? ⟨g, i * 3 + 2, none⟩ = some (.int .i64 q.d)
theorem PairsAt.below {w w' : World} {g B : Nat} {l : List Pr} (h : PairsAt w g l) (hb : Below B w w') (hlt : g < B) : PairsAt w' g l := by
  intro i q hq
  obtain ⟨h0, h1, h2⟩ := h i q hq
  exact ⟨(hb.cell (p := ⟨g, _, none⟩) hlt).trans h0, (hb.cell (p := ⟨g, _, none⟩) hlt).trans h1, (hb.cell (p := ⟨g, _, none⟩) hlt).trans h2⟩

theorem scan_ne (b o n c : Nat) (k : Int) (z : Nat → Nat) (D : Nat → Nat → Nat) (w : World) (hn : n ≤ 1025) (hb : b < w.heap.size) (hc : NumsAt w b o n z) (hd : DistIs z n D) (l : List Pr) (hl : l = scan D k n n) (hne : l ≠ []) :
    Calls Trym.prog 8 #[.slice (some ⟨b, o, none⟩) n c, .int .i64 k] w fun e w' => ∃ g cap, e = .returned (.slice (some ⟨g, 0, none⟩) l.length cap) ∧ PairsAt w' g l ∧ Below w.heap.size w w' ∧ g < w'.heap.size := by
  refine (scan_some b o n c k z D w hn hb hc hd).mono ?_
  rintro e w' ⟨v, rfl, ⟨ho, _⟩, hb'⟩
  rw [← hl] at ho
  rcases ho.2 with ⟨_, h0⟩ | ⟨g, cap, cur, rfl, _, hgg, _⟩
  · exact absurd (List.eq_nil_of_length_eq_zero h0) hne
  · refine ⟨g, cap, rfl, ?_, hb', (Array.getElem?_eq_some_iff.1 hgg).1⟩
    intro i q hq
    have hi := (List.getElem?_eq_some_iff.1 hq).1
    have e0 := ho.cellAt (i * 3 + 0) (by omega)
    have e1 := ho.cellAt (i * 3 + 1) (by omega)
    have e2 := ho.cellAt (i * 3 + 2) (by omega)
    rw [prCells_at _ (by omega) l i q hq] at e0 e1 e2
    exact ⟨by simpa [Pr.cells] using e0, by simpa [Pr.cells] using e1, by simpa [Pr.cells] using e2⟩
theorem scan_e (b o n c : Nat) (k : Int) (z : Nat → Nat) (D : Nat → Nat → Nat) (w : World) (hn : n ≤ 1025) (hb : b < w.heap.size) (hc : NumsAt w b o n z) (hd : DistIs z n D) (hl : scan D k n n = []) :
    Calls Trym.prog 8 #[.slice (some ⟨b, o, none⟩) n c, .int .i64 k] w fun e w' => e = .returned (.slice none 0 0) ∧ Below w.heap.size w w' := by
  refine (scan_some b o n c k z D w hn hb hc hd).mono ?_
  rintro e w' ⟨v, rfl, ⟨_, ho⟩, hb'⟩
  rw [ho hl]
  exact ⟨rfl, hb'⟩
end Go.Proofs.Qxb6608571aMods.Sp
