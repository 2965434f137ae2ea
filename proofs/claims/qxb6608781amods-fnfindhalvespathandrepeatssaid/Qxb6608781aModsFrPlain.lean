/- FnFindHalvesPathAndRepeats: the plain mathematics: forests of parents, their roots and depths; the search with a stack. -/
import Derived.KernelRfl
namespace Go.Proofs.Qxb6608781aMods.Fr

/-- the parent -/
def pr (d : Nat → Int) (i : Nat) : Nat := (d i).toNat
/-- the parents make a forest, rt and dp are its roots and depths -/
structure FOk (d : Nat → Int) (n : Nat) (rt dp : Nat → Nat) : Prop where
  lo : ∀ i, i < n → 0 ≤ d i ∧ d i < n
  rot : ∀ i, i < n → pr d i = i → rt i = i ∧ dp i = 0
  stp : ∀ i, i < n → pr d i ≠ i → rt i = rt (pr d i) ∧ dp i = dp (pr d i) + 1
theorem FOk.pn {d : Nat → Int} {n : Nat} {rt dp : Nat → Nat} (h : FOk d n rt dp) (i : Nat) (hi : i < n) : pr d i < n := by
  have := h.lo i hi
  unfold pr
  omega

def upd (f : Nat → Nat) (i v : Nat) : Nat → Nat := fun j => if j = i then v else f j
theorem upd_same (f : Nat → Nat) (i v : Nat) : upd f i v i = v := by simp [upd]
theorem upd_ne {f : Nat → Nat} {i v j : Nat} (h : j ≠ i) : upd f i v j = f j := by simp [upd, h]

/-- of the first n, how many hold v -/
def cn (v : Nat) (st : Nat → Nat) : Nat → Nat
  | 0 => 0
  | n + 1 => cn v st n + if st n = v then 1 else 0
theorem cn_le (v : Nat) (st : Nat → Nat) : ∀ n, cn v st n ≤ n
  | 0 => Nat.le_refl _
  | n + 1 => by have := cn_le v st n; unfold cn; split <;> omega
theorem cn_lt {v : Nat} {st : Nat → Nat} {j : Nat} (h : st j ≠ v) : ∀ n, j < n → cn v st n < n
  | 0, hj => by omega
  | n + 1, hj => by
    unfold cn
    by_cases e : j = n
    · subst e
      rw [if_neg h]
      have := cn_le v st j
      omega
    · have := cn_lt h n (by omega)
      split <;> omega
theorem cn_far {v u j : Nat} (st : Nat → Nat) : ∀ n, n ≤ j → cn v (upd st j u) n = cn v st n
  | 0, _ => rfl
  | n + 1, h => by
    unfold cn
    rw [cn_far st n (by omega), upd_ne (by omega)]
theorem cn_in {v j : Nat} {st : Nat → Nat} (h : st j ≠ v) : ∀ n, j < n → cn v (upd st j v) n = cn v st n + 1
  | 0, hj => by omega
  | n + 1, hj => by
    unfold cn
    by_cases e : j = n
    · subst e
      rw [cn_far st j (Nat.le_refl _), upd_same, if_pos rfl, if_neg h]
    · rw [cn_in h n (by omega), upd_ne (fun e' => e e'.symm)]
      omega
theorem cn_out {v u j : Nat} {st : Nat → Nat} (h : st j ≠ v) (hu : u ≠ v) : ∀ n, cn v (upd st j u) n = cn v st n
  | 0 => rfl
  | n + 1 => by
    unfold cn
    rw [cn_out h hu n]
    by_cases e : n = j
    · subst e
      rw [upd_same, if_neg hu, if_neg h]
    · rw [upd_ne e]
theorem cn_zero {v : Nat} {st : Nat → Nat} : ∀ n, (∀ i, i < n → st i ≠ v) → cn v st n = 0
  | 0, _ => rfl
  | n + 1, h => by
    unfold cn
    rw [cn_zero n (fun i hi => h i (by omega)), if_neg (h n (by omega))]

/-- what is settled (state 2) is closed -/
structure Cl (d : Nat → Int) (n : Nat) (st rt dp : Nat → Nat) : Prop where
  lo : ∀ i, i < n → st i = 2 → 0 ≤ d i ∧ d i < n
  cl : ∀ i, i < n → st i = 2 → st (pr d i) = 2
  rot : ∀ i, i < n → st i = 2 → pr d i = i → rt i = i ∧ dp i = 0
  stp : ∀ i, i < n → st i = 2 → pr d i ≠ i → rt i = rt (pr d i) ∧ dp i = dp (pr d i) + 1
  bnd : ∀ i, i < n → st i = 2 → dp i < cn 2 st n

/-- the outer loop, at s -/
structure Ot (d : Nat → Int) (n s : Nat) (st rt dp : Nat → Nat) : Prop where
  sn : s ≤ n
  cls : Cl d n st rt dp
  duo : ∀ i, i < n → st i = 0 ∨ st i = 2
  dn : ∀ i, i < s → st i = 2
/-- the chain upwards: m marked elements on the stack -/
structure Chn (d : Nat → Int) (n s : Nat) (st sk : Nat → Nat) (m : Nat) : Prop where
  tri : ∀ i, i < n → st i = 0 ∨ st i = 1 ∨ st i = 2
  skn : ∀ t, t < m → sk t < n
  sko : ∀ t, t < m → st (sk t) = 1
  skr : ∀ t, t < m → 0 ≤ d (sk t) ∧ d (sk t) < n ∧ pr d (sk t) ≠ sk t
  skl : ∀ t, t + 1 < m → pr d (sk t) = sk (t + 1)
  inj : ∀ t t', t < t' → t' < m → sk t ≠ sk t'
  one : ∀ i, i < n → st i = 1 → ∃ t, t < m ∧ sk t = i
  hd1 : 0 < m → sk 0 = s
  dn : ∀ i, i < s → st i = 2
/-- the inner loop: at j, top elements on the stack -/
structure In (d : Nat → Int) (n s : Nat) (st rt dp sk : Nat → Nat) (top j : Nat) : Prop where
  jn : j < n
  cls : Cl d n st rt dp
  chn : Chn d n s st sk top
  ske : ∀ t, t + 1 = top → pr d (sk t) = j
  c1 : cn 1 st n = top
  hd0 : top = 0 → j = s
/-- the loop downwards: m elements left -/
structure Un (d : Nat → Int) (n s : Nat) (st rt dp sk : Nat → Nat) (m : Nat) : Prop where
  cls : Cl d n st rt dp
  chn : Chn d n s st sk m
  nx : ∀ t, t + 1 = m → st (pr d (sk t)) = 2
  hd0 : m = 0 → st s = 2

section
variable {d : Nat → Int} {n s : Nat} {st rt dp sk : Nat → Nat} {top j m : Nat}

theorem Ot.start (d : Nat → Int) (n : Nat) (rt dp : Nat → Nat) : Ot d n 0 (fun _ => 0) rt dp :=
  ⟨Nat.zero_le _, ⟨fun _ _ h => by simp at h, fun _ _ h => by simp at h, fun _ _ h => by simp at h, fun _ _ h => by simp at h, fun _ _ h => by simp at h⟩, fun _ _ => .inl rfl, fun i h => absurd h (by omega)⟩
theorem Ot.skip (h : Ot d n s st rt dp) (hs : s < n) (h2 : st s = 2) : Ot d n (s + 1) st rt dp :=
  ⟨by omega, h.cls, h.duo, fun i hi => by
    by_cases e : i = s
    · rw [e]; exact h2
    · exact h.dn i (by omega)⟩
theorem Ot.enter (h : Ot d n s st rt dp) (hs : s < n) (sk : Nat → Nat) : In d n s st rt dp sk 0 s := by
  refine ⟨hs, h.cls, ⟨fun i hi => ?_, fun t ht => absurd ht (by omega), fun t ht => absurd ht (by omega), fun t ht => absurd ht (by omega), fun t ht => absurd ht (by omega), fun t t' _ ht => absurd ht (by omega), fun i hi h1 => ?_, fun h => absurd h (by omega), h.dn⟩, fun t ht => absurd ht (by omega), ?_, fun _ => rfl⟩
  · rcases h.duo i hi with e | e
    · exact .inl e
    · exact .inr (.inr e)
  · rcases h.duo i hi with e | e <;> omega
  · exact cn_zero n (fun i hi => by rcases h.duo i hi with e | e <;> omega)
theorem Ot.done (h : Ot d n n st rt dp) : FOk d n rt dp ∧ ∀ i, i < n → dp i < n := by
  refine ⟨⟨fun i hi => h.cls.lo i hi (h.dn i hi), fun i hi => h.cls.rot i hi (h.dn i hi), fun i hi => h.cls.stp i hi (h.dn i hi)⟩, fun i hi => ?_⟩
  have := h.cls.bnd i hi (h.dn i hi)
  have := cn_le 2 st n
  omega

theorem In.top_lt (h : In d n s st rt dp sk top j) (h0 : st j ≠ 1) : top < n := by
  rw [← h.c1]
  exact cn_lt h0 n h.jn

theorem In.push (h : In d n s st rt dp sk top j) (h0 : st j = 0) (hr : 0 ≤ d j ∧ d j < n) (hne : pr d j ≠ j) : In d n s (upd st j 1) rt dp (upd sk top j) (top + 1) (pr d j) := by
  have h2 : ∀ i, i < n → upd st j 1 i = 2 → st i = 2 ∧ i ≠ j := by
    intro i hi h
    by_cases e : i = j
    · subst e; rw [upd_same] at h; omega
    · rw [upd_ne e] at h; exact ⟨h, e⟩
  have hsk : ∀ t, t < top → upd sk top j t = sk t := fun t ht => upd_ne (by omega)
  have hskj : ∀ t, t < top → sk t ≠ j := fun t ht e => by have := h.chn.sko t ht; rw [e] at this; omega
  have hsj : s ≠ j ∨ True := .inr trivial
  refine ⟨?_, ⟨?_, ?_, ?_, ?_, ?_⟩, ⟨?_, ?_, ?_, ?_, ?_, ?_, ?_, ?_, ?_⟩, ?_, ?_, ?_⟩
  · unfold pr; omega
  · exact fun i hi h' => h.cls.lo i hi (h2 i hi h').1
  · intro i hi h'
    have := h.cls.cl i hi (h2 i hi h').1
    rw [upd_ne (fun e => by rw [e] at this; omega)]
    exact this
  · exact fun i hi h' => h.cls.rot i hi (h2 i hi h').1
  · exact fun i hi h' => h.cls.stp i hi (h2 i hi h').1
  · intro i hi h'
    rw [cn_out (by omega) (by omega)]
    exact h.cls.bnd i hi (h2 i hi h').1
  · intro i hi
    by_cases e : i = j
    · subst e; rw [upd_same]; omega
    · rw [upd_ne e]; exact h.chn.tri i hi
  · intro t ht
    by_cases e : t = top
    · subst e; rw [upd_same]; exact h.jn
    · rw [hsk t (by omega)]; exact h.chn.skn t (by omega)
  · intro t ht
    by_cases e : t = top
    · subst e; rw [upd_same, upd_same]
    · rw [hsk t (by omega), upd_ne (hskj t (by omega))]; exact h.chn.sko t (by omega)
  · intro t ht
    by_cases e : t = top
    · subst e; rw [upd_same]; exact ⟨hr.1, hr.2, hne⟩
    · rw [hsk t (by omega)]; exact h.chn.skr t (by omega)
  · intro t ht
    rw [hsk t (by omega)]
    by_cases e : t + 1 = top
    · rw [e, upd_same]; exact h.ske t e
    · rw [hsk (t + 1) (by omega)]; exact h.chn.skl t (by omega)
  · intro t t' htt ht'
    rw [hsk t (by omega)]
    by_cases e : t' = top
    · subst e; rw [upd_same]; exact hskj t (by omega)
    · rw [hsk t' (by omega)]; exact h.chn.inj t t' htt (by omega)
  · intro i hi h1
    by_cases e : i = j
    · exact ⟨top, by omega, by rw [upd_same, e]⟩
    · rw [upd_ne e] at h1
      obtain ⟨t, ht, et⟩ := h.chn.one i hi h1
      exact ⟨t, by omega, by rw [hsk t ht]; exact et⟩
  · intro _
    by_cases e : top = 0
    · subst e; rw [upd_same]; exact h.hd0 rfl
    · rw [hsk 0 (by omega)]; exact h.chn.hd1 (by omega)
  · intro i hi
    rw [upd_ne (fun e => by have := h.chn.dn i hi; rw [e] at this; omega)]
    exact h.chn.dn i hi
  · intro t ht
    obtain rfl : t = top := by omega
    rw [upd_same]
  · rw [cn_in (by omega) n h.jn, h.c1]
  · intro e; omega

theorem In.meet (h : In d n s st rt dp sk top j) (h2 : st j = 2) : Un d n s st rt dp sk top :=
  ⟨h.cls, h.chn, fun t ht => by rw [h.ske t ht]; exact h2, fun e => by rw [← h.hd0 e]; exact h2⟩

theorem In.root (h : In d n s st rt dp sk top j) (h0 : st j = 0) (hr : 0 ≤ d j ∧ d j < n) (he : pr d j = j) : Un d n s (upd st j 2) (upd rt j j) (upd dp j 0) sk top := by
  have h2 : ∀ i, i ≠ j → upd st j 2 i = 2 → st i = 2 := fun i e h => by rw [upd_ne e] at h; exact h
  have hpj : ∀ i, i < n → i ≠ j → st i = 2 → pr d i ≠ j := fun i hi e h' e' => by have := h.cls.cl i hi h'; rw [e'] at this; omega
  have hskj : ∀ t, t < top → sk t ≠ j := fun t ht e => by have := h.chn.sko t ht; rw [e] at this; omega
  refine ⟨⟨?_, ?_, ?_, ?_, ?_⟩, ⟨?_, h.chn.skn, ?_, h.chn.skr, h.chn.skl, h.chn.inj, ?_, h.chn.hd1, ?_⟩, ?_, ?_⟩
  · intro i hi h'
    by_cases e : i = j
    · subst e; exact hr
    · exact h.cls.lo i hi (h2 i e h')
  · intro i hi h'
    by_cases e : i = j
    · subst e; rw [he, upd_same]
    · rw [upd_ne (hpj i hi e (h2 i e h'))]; exact h.cls.cl i hi (h2 i e h')
  · intro i hi h' hp
    by_cases e : i = j
    · subst e; exact ⟨upd_same _ _ _, upd_same _ _ _⟩
    · rw [upd_ne e, upd_ne e]; exact h.cls.rot i hi (h2 i e h') hp
  · intro i hi h' hp
    by_cases e : i = j
    · subst e; exact absurd he hp
    · have := hpj i hi e (h2 i e h')
      rw [upd_ne e, upd_ne e, upd_ne this, upd_ne this]; exact h.cls.stp i hi (h2 i e h') hp
  · intro i hi h'
    rw [cn_in (by omega) n h.jn]
    by_cases e : i = j
    · subst e; rw [upd_same]; omega
    · rw [upd_ne e]; have := h.cls.bnd i hi (h2 i e h'); omega
  · intro i hi
    by_cases e : i = j
    · subst e; rw [upd_same]; omega
    · rw [upd_ne e]; exact h.chn.tri i hi
  · intro t ht
    rw [upd_ne (hskj t ht)]; exact h.chn.sko t ht
  · intro i hi h1
    by_cases e : i = j
    · subst e; rw [upd_same] at h1; omega
    · rw [upd_ne e] at h1; exact h.chn.one i hi h1
  · intro i hi
    by_cases e : i = j
    · subst e; exact upd_same _ _ _
    · rw [upd_ne e]; exact h.chn.dn i hi
  · intro t ht
    rw [h.ske t ht, upd_same]
  · intro e
    rw [← h.hd0 e, upd_same]

theorem Un.step (h : Un d n s st rt dp sk (m + 1)) : Un d n s (upd st (sk m) 2) (upd rt (sk m) (rt (pr d (sk m)))) (upd dp (sk m) (dp (pr d (sk m)) + 1)) sk m := by
  have hx := h.chn.sko m (by omega)
  have hxn := h.chn.skn m (by omega)
  obtain ⟨hr0, hr1, hr2⟩ := h.chn.skr m (by omega)
  have hp2 := h.nx m rfl
  have hpn : pr d (sk m) < n := by unfold pr; omega
  have h2 : ∀ i, i ≠ sk m → upd st (sk m) 2 i = 2 → st i = 2 := fun i e h => by rw [upd_ne e] at h; exact h
  have hpj : ∀ i, i < n → st i = 2 → pr d i ≠ sk m := fun i hi h' e' => by have := h.cls.cl i hi h'; rw [e'] at this; omega
  have hij : ∀ t, t < m → sk t ≠ sk m := fun t ht => h.chn.inj t m ht (by omega)
  refine ⟨⟨?_, ?_, ?_, ?_, ?_⟩, ⟨?_, fun t ht => h.chn.skn t (by omega), ?_, fun t ht => h.chn.skr t (by omega), fun t ht => h.chn.skl t (by omega), fun t t' h1 h2 => h.chn.inj t t' h1 (by omega), ?_, fun h0 => h.chn.hd1 (by omega), ?_⟩, ?_, ?_⟩
  · intro i hi h'
    by_cases e : i = sk m
    · subst e; exact ⟨hr0, hr1⟩
    · exact h.cls.lo i hi (h2 i e h')
  · intro i hi h'
    by_cases e : i = sk m
    · subst e; rw [upd_ne hr2]; exact hp2
    · rw [upd_ne (hpj i hi (h2 i e h'))]; exact h.cls.cl i hi (h2 i e h')
  · intro i hi h' hp
    by_cases e : i = sk m
    · subst e; exact absurd hp hr2
    · rw [upd_ne e, upd_ne e]; exact h.cls.rot i hi (h2 i e h') hp
  · intro i hi h' hp
    by_cases e : i = sk m
    · subst e; rw [upd_same, upd_same, upd_ne hr2, upd_ne hr2]; exact ⟨rfl, rfl⟩
    · have := hpj i hi (h2 i e h')
      rw [upd_ne e, upd_ne e, upd_ne this, upd_ne this]; exact h.cls.stp i hi (h2 i e h') hp
  · intro i hi h'
    rw [cn_in (by omega) n hxn]
    by_cases e : i = sk m
    · subst e; rw [upd_same]; have := h.cls.bnd _ hpn hp2; omega
    · rw [upd_ne e]; have := h.cls.bnd i hi (h2 i e h'); omega
  · intro i hi
    by_cases e : i = sk m
    · subst e; rw [upd_same]; omega
    · rw [upd_ne e]; exact h.chn.tri i hi
  · intro t ht
    rw [upd_ne (hij t ht)]; exact h.chn.sko t (by omega)
  · intro i hi h1
    by_cases e : i = sk m
    · subst e; rw [upd_same] at h1; omega
    · rw [upd_ne e] at h1
      obtain ⟨t, ht, et⟩ := h.chn.one i hi h1
      refine ⟨t, ?_, et⟩
      by_cases e' : t = m
      · subst e'; exact absurd et.symm e
      · omega
  · intro i hi
    by_cases e : i = sk m
    · subst e; exact upd_same _ _ _
    · rw [upd_ne e]; exact h.chn.dn i hi
  · intro t ht
    have := h.chn.skl t (by omega)
    rw [this, ht, upd_same]
  · intro e
    subst e
    rw [← h.chn.hd1 (by omega), upd_same]
theorem Un.leave (h : Un d n s st rt dp sk 0) (hs : s < n) : Ot d n (s + 1) st rt dp := by
  refine ⟨by omega, h.cls, fun i hi => ?_, fun i hi => ?_⟩
  · rcases h.chn.tri i hi with e | e | e
    · exact .inl e
    · obtain ⟨t, ht, _⟩ := h.chn.one i hi e
      omega
    · exact .inr e
  · by_cases e : i = s
    · rw [e]; exact h.hd0 rfl
    · exact h.chn.dn i (by omega)

/-- a marked element met again: no forest -/
theorem In.cycle (h : In d n s st rt dp sk top j) (h1 : st j = 1) : ¬ ∃ rt' dp', FOk d n rt' dp' := by
  rintro ⟨rt', dp', F⟩
  obtain ⟨t, ht, et⟩ := h.chn.one j h.jn h1
  have key : ∀ e, t + e < top → dp' (sk t) = dp' (sk (t + e)) + e := by
    intro e
    induction e with
    | zero => intro _; rfl
    | succ e ih =>
      intro hlt
      have h1 := ih (by omega)
      have h2 := (F.stp _ (h.chn.skn (t + e) (by omega)) (h.chn.skr (t + e) (by omega)).2.2).2
      rw [h.chn.skl (t + e) (by omega)] at h2
      rw [h1, h2, ← Nat.add_assoc t e 1]
      omega
  have h1 := key (top - 1 - t) (by omega)
  have h2 := (F.stp _ (h.chn.skn (t + (top - 1 - t)) (by omega)) (h.chn.skr (t + (top - 1 - t)) (by omega)).2.2).2
  rw [h.ske (t + (top - 1 - t)) (by omega), ← et] at h2
  omega
theorem no_forest (hj : j < n) (hr : ¬ (0 ≤ d j ∧ d j < n)) : ¬ ∃ rt' dp', FOk d n rt' dp' := by
  rintro ⟨rt', dp', F⟩
  exact hr (F.lo j hj)

theorem FOk.unique {rt' dp' : Nat → Nat} (h : FOk d n rt dp) (h' : FOk d n rt' dp') : ∀ k i, i < n → dp i = k → rt' i = rt i ∧ dp' i = dp i := by
  intro k
  induction k with
  | zero =>
    intro i hi hk
    by_cases e : pr d i = i
    · have a := h.rot i hi e; have b := h'.rot i hi e; omega
    · have a := h.stp i hi e; omega
  | succ k ih =>
    intro i hi hk
    by_cases e : pr d i = i
    · have a := h.rot i hi e; omega
    · have a := h.stp i hi e
      have b := h'.stp i hi e
      have c := ih (pr d i) (h.pn i hi) (by omega)
      omega
end
end Go.Proofs.Qxb6608781aMods.Fr
