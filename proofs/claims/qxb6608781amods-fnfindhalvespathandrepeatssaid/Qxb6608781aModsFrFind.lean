/- FnFindHalvesPathAndRepeats: the plain mathematics of find: halving a path in a forest. -/
import Derived.Test.Qxb6608781aModsFrPlain
namespace Go.Proofs.Qxb6608781aMods.Fr

/-- parents that are plain numbers -/
def dC (c : Nat → Nat) : Nat → Int := fun i => (c i : Int)
theorem pr_dC (c : Nat → Nat) (i : Nat) : pr (dC c) i = c i := by simp [pr, dC]

def iter (c : Nat → Nat) : Nat → Nat → Nat
  | 0, i => i
  | k + 1, i => c (iter c k i)

/-! ### a forest has depths wherever something falls along the parents -/
def depF (c : Nat → Nat) : Nat → Nat → Nat
  | 0, _ => 0
  | f + 1, y => if c y = y then 0 else depF c f (c y) + 1
theorem depF_more {c r : Nat → Nat} {n : Nat} (hn : ∀ y, y < n → c y < n) (hr : ∀ y, y < n → c y ≠ y → r (c y) < r y) : ∀ f y, y < n → r y ≤ f → depF c f y = depF c (r y) y := by
  intro f
  induction f using Nat.strongRecOn with
  | _ f ih =>
    intro y hy hf
    by_cases e : c y = y
    · cases f with
      | zero => rw [show r y = 0 by omega]
      | succ f =>
        cases h : r y with
        | zero => simp [depF, e]
        | succ q => simp [depF, e]
    · have h1 := hr y hy e
      cases f with
      | zero => omega
      | succ f =>
        cases h : r y with
        | zero => omega
        | succ q =>
          simp only [depF, if_neg e]
          rw [ih f (by omega) (c y) (hn y hy) (by omega)]
          by_cases e2 : q = f
          · rw [e2, ih f (by omega) (c y) (hn y hy) (by omega)]
          · rw [ih q (by omega) (c y) (hn y hy) (by omega)]
theorem exists_depth {c r : Nat → Nat} {n : Nat} (hn : ∀ y, y < n → c y < n) (hr : ∀ y, y < n → c y ≠ y → r (c y) < r y) :
    ∃ dp : Nat → Nat, (∀ y, y < n → c y = y → dp y = 0) ∧ ∀ y, y < n → c y ≠ y → dp y = dp (c y) + 1 := by
  refine ⟨fun y => depF c (r y) y, fun y hy e => ?_, fun y hy e => ?_⟩
  · show depF c (r y) y = 0
    cases h : r y with
    | zero => rfl
    | succ q => simp [depF, e]
  · show depF c (r y) y = depF c (r (c y)) (c y) + 1
    have h1 := hr y hy e
    cases h : r y with
    | zero => omega
    | succ q =>
      simp only [depF, if_neg e]
      rw [depF_more hn hr q (c y) (hn y hy) (by omega)]

/-- one element is pointed at its grandparent: still a forest, the same roots, no element deeper -/
theorem forest_upd {c : Nat → Nat} {n : Nat} {rt dp : Nat → Nat} (F : FOk (dC c) n rt dp) {x : Nat} (hx : x < n) (hne : c x ≠ x) :
    ∃ dp', FOk (dC (upd c x (c (c x)))) n rt dp' ∧ ∀ y, y < n → dp' y ≤ dp y := by
  have cn : ∀ y, y < n → c y < n := fun y hy => by have := F.pn y hy; rwa [pr_dC] at this
  have rot : ∀ y, y < n → c y = y → rt y = y ∧ dp y = 0 := fun y hy e => F.rot y hy (by rw [pr_dC]; exact e)
  have stp : ∀ y, y < n → c y ≠ y → rt y = rt (c y) ∧ dp y = dp (c y) + 1 := fun y hy e => by
    have := F.stp y hy (by rw [pr_dC]; exact e)
    rwa [pr_dC] at this
  have hp := cn x hx
  have hg := cn _ hp
  obtain ⟨s1, s2⟩ := stp x hx hne
  have gp : rt (c (c x)) = rt x ∧ dp (c (c x)) < dp x := by
    by_cases e : c (c x) = c x
    · rw [e]; exact ⟨s1.symm, by omega⟩
    · obtain ⟨t1, t2⟩ := stp _ hp e
      exact ⟨by rw [← t1, ← s1], by omega⟩
  have hgx : c (c x) ≠ x := fun e => by have := gp.2; rw [e] at this; omega
  have un : ∀ y, y < n → upd c x (c (c x)) y < n := fun y hy => by
    by_cases e : y = x
    · subst e; rw [upd_same]; exact hg
    · rw [upd_ne e]; exact cn y hy
  have ur : ∀ y, y < n → upd c x (c (c x)) y ≠ y → dp (upd c x (c (c x)) y) < dp y := fun y hy h => by
    by_cases e : y = x
    · subst e; rw [upd_same]; exact gp.2
    · rw [upd_ne e] at h ⊢; have := (stp y hy h).2; omega
  obtain ⟨dq, q0, q1⟩ := exists_depth un ur
  refine ⟨dq, ⟨fun y hy => ?_, fun y hy h => ?_, fun y hy h => ?_⟩, ?_⟩
  · have := un y hy
    unfold dC
    omega
  · rw [pr_dC] at h
    refine ⟨?_, q0 y hy h⟩
    by_cases e : y = x
    · subst e; rw [upd_same] at h; exact absurd h hgx
    · rw [upd_ne e] at h; exact (rot y hy h).1
  · rw [pr_dC] at h ⊢
    refine ⟨?_, q1 y hy h⟩
    by_cases e : y = x
    · subst e; rw [upd_same]; exact gp.1.symm
    · rw [upd_ne e] at h ⊢; exact (stp y hy h).1
  · have key : ∀ k y, y < n → dp y = k → dq y ≤ dp y := by
      intro k
      induction k using Nat.strongRecOn with
      | _ k ih =>
        intro y hy hk
        by_cases h : upd c x (c (c x)) y = y
        · rw [q0 y hy h]; omega
        · have a := q1 y hy h
          have b := ur y hy h
          have c' := ih _ (by omega) _ (un y hy) rfl
          omega
    exact fun y hy => key _ y hy rfl

theorem dp_iter {c : Nat → Nat} {n : Nat} {rt dp : Nat → Nat} (F : FOk (dC c) n rt dp) {i : Nat} (hi : i < n) : ∀ k, iter c k i < n ∧ dp i ≤ k + dp (iter c k i)
  | 0 => ⟨hi, by simp [iter]⟩
  | k + 1 => by
    obtain ⟨h1, h2⟩ := dp_iter F hi k
    have h3 := F.pn _ h1
    rw [pr_dC] at h3
    refine ⟨h3, ?_⟩
    by_cases e : c (iter c k i) = iter c k i
    · have := F.rot _ h1 (by rw [pr_dC]; exact e)
      omega
    · have := F.stp _ h1 (by rw [pr_dC]; exact e)
      rw [pr_dC] at this
      show _ ≤ k + 1 + dp (c (iter c k i))
      omega
theorem iter_upd {c : Nat → Nat} {x v i : Nat} : ∀ k, (∀ t, t < k → iter c t i ≠ x) → iter (upd c x v) k i = iter c k i
  | 0, _ => rfl
  | k + 1, h => by
    show upd c x v (iter (upd c x v) k i) = c (iter c k i)
    rw [iter_upd k (fun t ht => h t (by omega)), upd_ne (h k (by omega))]

/-- find's loop: at x, k rounds done, the parents now e -/
structure Fi (c : Nat → Nat) (n : Nat) (rt dp : Nat → Nat) (i0 : Nat) (e : Nat → Nat) (x k : Nat) : Prop where
  xn : x < n
  ex : ∃ dp', FOk (dC e) n rt dp' ∧ ∀ y, y < n → dp' y ≤ dp y
  same : ∀ y, y < n → dp y ≤ dp x → e y = c y
  it : iter e k i0 = x
  far : ∀ t, t < k → dp x < dp (iter e t i0)
  rtx : rt x = rt i0
  len : 2 * k + dp x ≤ dp i0 ∨ (dp x = 0 ∧ 2 * k ≤ dp i0 + 1)

section
variable {c : Nat → Nat} {n : Nat} {rt dp : Nat → Nat} {i0 : Nat} {e : Nat → Nat} {x k : Nat}
theorem Fi.start (F : FOk (dC c) n rt dp) (hi : i0 < n) : Fi c n rt dp i0 c i0 0 :=
  ⟨hi, ⟨dp, F, fun _ _ => Nat.le_refl _⟩, fun _ _ _ => rfl, rfl, fun t ht => absurd ht (by omega), rfl, .inl (by omega)⟩
theorem Fi.next (F : FOk (dC c) n rt dp) (h : Fi c n rt dp i0 e x k) (hne : e x ≠ x) : Fi c n rt dp i0 (upd e x (e (e x))) (e (e x)) (k + 1) ∧ dp (e (e x)) < dp x ∧ e x < n ∧ e (e x) < n := by
  have ex := h.same x h.xn (Nat.le_refl _)
  have cx : c x ≠ x := fun e' => hne (by rw [ex]; exact e')
  have pn : c x < n := by have := F.pn x h.xn; rwa [pr_dC] at this
  have s1 := F.stp x h.xn (by rw [pr_dC]; exact cx)
  rw [pr_dC] at s1
  have ep : e (c x) = c (c x) := h.same _ pn (by omega)
  have gn : c (c x) < n := by have := F.pn _ pn; rwa [pr_dC] at this
  have g : rt (c (c x)) = rt x ∧ (dp (c (c x)) + 2 = dp x ∨ (dp x = 1 ∧ dp (c (c x)) = 0)) := by
    by_cases e' : c (c x) = c x
    · have := F.rot _ pn (by rw [pr_dC]; exact e')
      rw [e']
      exact ⟨s1.1.symm, .inr ⟨by omega, this.2⟩⟩
    · have := F.stp _ pn (by rw [pr_dC]; exact e')
      rw [pr_dC] at this
      exact ⟨by rw [← this.1, ← s1.1], .inl (by omega)⟩
  have glt : dp (c (c x)) < dp x := by omega
  have eg : e (e x) = c (c x) := by rw [ex, ep]
  rw [eg]
  refine ⟨⟨gn, ?_, ?_, ?_, ?_, ?_, ?_⟩, glt, by rw [ex]; exact pn, gn⟩
  · obtain ⟨dq, Fq, lq⟩ := h.ex
    obtain ⟨dz, Fz, lz⟩ := forest_upd Fq h.xn hne
    rw [eg] at Fz
    exact ⟨dz, Fz, fun y hy => Nat.le_trans (lz y hy) (lq y hy)⟩
  · intro y hy hd
    rw [upd_ne (fun e' => by rw [e'] at hd; omega)]
    exact h.same y hy (by omega)
  · show upd e x (c (c x)) (iter (upd e x (c (c x))) k i0) = _
    rw [iter_upd k (fun t ht e' => by have := h.far t ht; rw [e'] at this; omega), h.it, upd_same]
  · intro t ht
    rw [iter_upd t (fun t' ht' e' => by have := h.far t' (by omega); rw [e'] at this; omega)]
    by_cases e' : t = k
    · rw [e', h.it]; exact glt
    · have := h.far t (by omega); omega
  · rw [g.1]; exact h.rtx
  · rcases h.len with l | ⟨l, _⟩
    · rcases g.2 with g2 | ⟨g2, g3⟩
      · exact .inl (by omega)
      · exact .inr ⟨g3, by omega⟩
    · omega
/-- the end: the root; the start lies at most half as deep -/
theorem Fi.fin (F : FOk (dC c) n rt dp) (hi : i0 < n) (h : Fi c n rt dp i0 e x k) (he : e x = x) : x = rt i0 ∧ ∃ dp', FOk (dC e) n rt dp' ∧ (∀ y, y < n → dp' y ≤ dp y) ∧ dp' i0 ≤ (dp i0 + 1) / 2 := by
  have cx : c x = x := by rw [← h.same x h.xn (Nat.le_refl _)]; exact he
  have r := F.rot x h.xn (by rw [pr_dC]; exact cx)
  obtain ⟨dq, Fq, lq⟩ := h.ex
  refine ⟨by rw [← h.rtx]; exact r.1.symm, dq, Fq, lq, ?_⟩
  have a := (dp_iter Fq hi k).2
  rw [h.it] at a
  have b := lq x h.xn
  rcases h.len with l | ⟨_, l⟩ <;> omega
end
end Go.Proofs.Qxb6608781aMods.Fr
