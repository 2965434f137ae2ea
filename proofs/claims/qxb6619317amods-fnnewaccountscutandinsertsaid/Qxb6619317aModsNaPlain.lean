/- FnNewAccountsCutAndInsert: the plain mathematics, and two laws on look-ups in a map of the call's own. -/
import Derived.Test.Qxb6619317aModsNaAcc
import Derived.WalkSpells
namespace Go.Proofs.Qxb6619317aMods.Na
open Go.ChangeShapes Go.WideShapes Go.ChangeAt Go.RowKit Go.Maps
set_option linter.unusedVariables false

/-! ### the accounts as a function -/
def accV (L : Nat → Lk) : Nat → ByteArray → Option ByteArray
  | 0, _ => none
  | k + 1, x => if (L k).cn.toList.isEmpty = true ∧ (L k).sid = x then some (L k).pw else accV L k x

theorem kL_inj {a b : ByteArray} (h : kL a = kL b) : a = b := by
  simp only [kL, Lit.string.injEq] at h
  exact bytes_inj h
theorem kL_key (a : ByteArray) : WideAt.IsKeyLit (kL a) := by simp [kL, WideAt.IsKeyLit]

theorem accD_isMap (L : Nat → Lk) : ∀ k, Tidy (accD L k)
  | 0 => tidy_empty
  | k + 1 => by
    unfold accD
    split
    · exact (accD_isMap L k).put (kL_key _) _
    · exact accD_isMap L k
theorem accD_has (L : Nat → Lk) (x : ByteArray) : ∀ k, Maps.has (accD L k) (kL x) = (accV L k x).isSome
  | 0 => rfl
  | k + 1 => by
    unfold accD accV
    by_cases hc : (L k).cn.toList.isEmpty = true
    · rw [if_pos hc]
      by_cases e : (L k).sid = x
      · rw [if_pos ⟨hc, e⟩, ← e, has_put_same (accD_isMap L k).isMap (kL_key _)]
        rfl
      · rw [if_neg (fun h => e h.2), has_put_other (fun h => e (kL_inj h).symm)]
        exact accD_has L x k
    · rw [if_neg hc, if_neg (fun h => hc h.1)]
      exact accD_has L x k
theorem accD_at (L : Nat → Lk) (x : ByteArray) : ∀ k, (accD L k).atKey (kL x) (dL ⟨#[]⟩) = dL ((accV L k x).getD ⟨#[]⟩)
  | 0 => rfl
  | k + 1 => by
    unfold accD accV
    by_cases hc : (L k).cn.toList.isEmpty = true
    · rw [if_pos hc]
      by_cases e : (L k).sid = x
      · rw [if_pos ⟨hc, e⟩, ← e, atKey_put_same (accD_isMap L k).isMap (kL_key _)]
        rfl
      · rw [if_neg (fun h => e h.2), atKey_put_other (fun h => e (kL_inj h).symm)]
        exact accD_at L x k
    · rw [if_neg hc, if_neg (fun h => hc h.1)]
      exact accD_at L x k

/-! ### the ids seen so far -/
def inB (x : ByteArray) (l : List ByteArray) : Bool := l.any (fun y => decide (y = x))
theorem inB_iff (x : ByteArray) (l : List ByteArray) : inB x l = true ↔ x ∈ l := by
  simp [inB]
theorem inB_snoc (x y : ByteArray) (l : List ByteArray) : inB x (l ++ [y]) = (inB x l || decide (y = x)) := by
  simp [inB]
def seenL (L : Nat → Lk) : Nat → List ByteArray
  | 0 => []
  | k + 1 => if inB (L k).sid (seenL L k) = true then seenL L k else seenL L k ++ [(L k).sid]
def seenD (L : Nat → Lk) : Nat → DataW Unit
  | 0 => .map []
  | k + 1 => if inB (L k).sid (seenL L k) = true then seenD L k else (seenD L k).put (kL (L k).sid) (.lit (.bool true))
theorem seenD_isMap (L : Nat → Lk) : ∀ k, IsMap (seenD L k)
  | 0 => isMap_empty
  | k + 1 => by
    unfold seenD
    split
    · exact seenD_isMap L k
    · exact (seenD_isMap L k).put _ _
theorem seenD_at (L : Nat → Lk) (x : ByteArray) : ∀ k, (seenD L k).atKey (kL x) (.lit (.bool false)) = .lit (.bool (inB x (seenL L k)))
  | 0 => rfl
  | k + 1 => by
    by_cases hc : inB (L k).sid (seenL L k) = true
    · rw [seenD, seenL, if_pos hc, if_pos hc]
      exact seenD_at L x k
    · rw [seenD, seenL, if_neg hc, if_neg hc, inB_snoc]
      by_cases e : (L k).sid = x
      · rw [← e, atKey_put_same (seenD_isMap L k) (kL_key _)]
        simp
      · rw [atKey_put_other (fun h => e (kL_inj h).symm), seenD_at L x k]
        simp [e]
theorem seenL_nodup (L : Nat → Lk) : ∀ k, (seenL L k).Nodup
  | 0 => List.nodup_nil
  | k + 1 => by
    unfold seenL
    split
    · exact seenL_nodup L k
    · rename_i h
      rw [List.nodup_append]
      exact ⟨seenL_nodup L k, by simp, fun a ha b hb => by simp at hb; subst hb; exact fun e => h ((inB_iff _ _).2 (e ▸ ha))⟩
theorem seenL_len (L : Nat → Lk) : ∀ k, (seenL L k).length ≤ k
  | 0 => Nat.le_refl _
  | k + 1 => by
    unfold seenL
    have := seenL_len L k
    split
    · omega
    · simp; omega
theorem seenL_mem (L : Nat → Lk) (i : Nat) : ∀ k, i < k → (L i).sid ∈ seenL L k
  | 0, h => absurd h (by omega)
  | k + 1, h => by
    unfold seenL
    by_cases e : i = k
    · subst e
      split
      · rename_i h'; exact (inB_iff _ _).1 h'
      · simp
    · have := seenL_mem L i k (by omega)
      split
      · exact this
      · exact List.mem_append_left _ this

/-- of the ids seen so far, how many have an account in the n links M -/
def cnt (L M : Nat → Lk) (n k : Nat) : Nat := ((seenL L k).filter (fun x => (accV M n x).isSome)).length
theorem cnt_le (L M : Nat → Lk) (n k : Nat) : cnt L M n k ≤ k := Nat.le_trans (List.length_filter_le _ _) (seenL_len L k)
theorem cnt_seen {L : Nat → Lk} {k : Nat} (h : inB (L k).sid (seenL L k) = true) (M : Nat → Lk) (n : Nat) : cnt L M n (k + 1) = cnt L M n k := by
  unfold cnt
  rw [seenL, if_pos h]
theorem cnt_new {L : Nat → Lk} {k : Nat} (h : inB (L k).sid (seenL L k) = false) (M : Nat → Lk) (n : Nat) : cnt L M n (k + 1) = cnt L M n k + if (accV M n (L k).sid).isSome then 1 else 0 := by
  unfold cnt
  rw [seenL, if_neg (by simp [h]), List.filter_append]
  cases hv : (accV M n (L k).sid) <;> simp [hv]

theorem filter_more {p q : ByteArray → Bool} {a : ByteArray} : ∀ S : List ByteArray, S.Nodup → a ∈ S → p a = false → q a = true → (∀ x, x ≠ a → q x = p x) → (S.filter q).length = (S.filter p).length + 1
  | [], _, h, _, _, _ => by simp at h
  | y :: r, hn, hm, hp, hq, ho => by
    obtain ⟨h1, h2⟩ := List.nodup_cons.1 hn
    by_cases e : y = a
    · subst e
      have : r.filter q = r.filter p := List.filter_congr (fun x hx => ho x (fun e => h1 (e ▸ hx)))
      simp [hp, hq, this]
    · have hm' : a ∈ r := by simpa [Ne.symm e] using hm
      have ih := filter_more r h2 hm' hp hq ho
      have hy := ho y e
      cases hpy : p y <;> simp [hy, hpy, ih]
theorem filter_same {p q : ByteArray → Bool} (S : List ByteArray) (ho : ∀ x, q x = p x) : (S.filter q).length = (S.filter p).length := by
  rw [List.filter_congr (fun x _ => ho x)]

/-- 'len(m)' is how many of the ids have an account -/
theorem size_acc (M : Nat → Lk) (S : List ByteArray) (hS : S.Nodup) : ∀ n, (∀ i, i < n → (M i).sid ∈ S) → Maps.size (accD M n) = (S.filter (fun x => (accV M n x).isSome)).length
  | 0, _ => by simp [accD, accV, Maps.size, List.filter_eq_nil_iff.2]
  | n + 1, h => by
    have ih := size_acc M S hS n (fun i hi => h i (by omega))
    by_cases hc : (M n).cn.toList.isEmpty = true
    · rw [accD, if_pos hc, size_put (accD_isMap M n), accD_has]
      cases hv : accV M n (M n).sid with
      | none =>
        simp only [Option.isSome_none, Bool.false_eq_true, if_false]
        rw [ih]
        refine (filter_more S hS (h n (by omega)) (a := (M n).sid) ?_ ?_ ?_).symm
        · simp [hv]
        · simp [accV, hc]
        · intro x hx
          rw [accV, if_neg (fun h => hx h.2.symm)]
      | some v =>
        simp only [Option.isSome_some, if_true]
        rw [ih]
        refine (filter_same S ?_).symm
        intro x
        by_cases e : (M n).sid = x
        · rw [accV, if_pos ⟨hc, e⟩, ← e, hv]; rfl
        · rw [accV, if_neg (fun h => e h.2)]
    · rw [accD, if_neg hc, ih]
      refine (filter_same S ?_).symm
      intro x
      rw [accV, if_neg (fun h => hc h.1)]

/-! ### the whole list: a prefix, one link, a suffix -/
def wholeL (L : Nat → Lk) (k : Nat) (l : Lk) (i : Nat) : Lk := if i < k then L i else if i = k then l else L (i - 1)
def sufL (L : Nat → Lk) (k i : Nat) : Lk := L (k + i)
theorem acc_pre (L : Nat → Lk) (k : Nat) (l : Lk) (x : ByteArray) : ∀ j, j ≤ k → accV (wholeL L k l) j x = accV L j x
  | 0, _ => rfl
  | j + 1, h => by
    have e : wholeL L k l j = L j := by simp [wholeL]; omega
    rw [accV, accV, e, acc_pre L k l x j (by omega)]
theorem acc_suf (L : Nat → Lk) (k : Nat) (l : Lk) (x : ByteArray) : ∀ j, accV (wholeL L k l) (k + 1 + j) x = (accV (sufL L k) j x).or (accV (wholeL L k l) (k + 1) x)
  | 0 => by simp [accV]
  | j + 1 => by
    have e : wholeL L k l (k + 1 + j) = sufL L k j := by
      unfold wholeL sufL
      rw [if_neg (by omega), if_neg (by omega)]
      congr 1
      omega
    rw [← Nat.add_assoc, accV, e, accV, acc_suf L k l x j]
    split <;> simp
theorem acc_whole (L : Nat → Lk) (k n : Nat) (hk : k ≤ n) (l : Lk) (x : ByteArray) : accV (wholeL L k l) (n + 1) x = (accV (sufL L k) (n - k) x).or (if l.cn.toList.isEmpty = true ∧ l.sid = x then some l.pw else accV L k x) := by
  have e : n + 1 = k + 1 + (n - k) := by omega
  have e' : wholeL L k l k = l := by simp [wholeL]
  rw [e, acc_suf, accV, e', acc_pre L k l x k (Nat.le_refl _)]

theorem whole_lt {L : Nat → Lk} {k i : Nat} {l : Lk} (h : i < k) : wholeL L k l i = L i := if_pos h
theorem whole_at {L : Nat → Lk} {k : Nat} {l : Lk} : wholeL L k l k = l := by simp [wholeL]
theorem whole_gt {L : Nat → Lk} {k i : Nat} {l : Lk} : wholeL L k l (k + 1 + i) = sufL L k i := by
  unfold wholeL sufL
  rw [if_neg (by omega), if_neg (by omega)]
  congr 1
  omega

/-! ### look-ups in a map of the call's own -/
section
variable {H : Type} {P : Program} (w : World) {ops : Array Oper} {rest : List Oper} {o : Oper} {a : Act} {Q : Exit → Act → World → Prop}
theorem plainElem_bool_inv {P : Program} {e : TypeId} (he : P.underlying e = some .bool) {v : Value} {z : DataW H × List MemPlace} (h : plainElem P e v = some z) : ∃ x, v = .bool x ∧ z = (.lit (.bool x), []) := by
  unfold plainElem at h
  rw [he] at h
  cases v <;> simp at h
  exact ⟨_, rfl, h.symm⟩
theorem wpList_lookup_own_bool (hg : o.guard = none) (m x : Operand) (t : TypeId) (hop : o.op = Op.lookup t m x false)
    (k e : TypeId) (K : Keyed P k) (ht : P.underlying t = some (.map k e)) (he : P.underlying e = some .bool) (hz : (zeroValue e).run P w = .ok (.bool false) w) (b n : Nat) (D : DataW H)
    (hm : a.eval m = .map (some b)) (hown : w.ownsMap P k (plainElem P e) b n D) (key : Value) (kl : Lit) (hx : a.eval x = key) (hkey : keyOf P k key = some kl)
    (r : Bool) (hr : D.atKey kl (.lit (.bool false)) = .lit (.bool r)) (hK : wpList P ops Q rest (a.put o.dst (.bool r)) w) :
    wpList P ops Q (o :: rest) a w := by
  refine wpList_plain hg fun K' hK' => ?_
  obtain ⟨v, ps, hrun, hv⟩ := hown.lookup K ht hz (plainElem_bool he false) hkey
  obtain ⟨c, rfl, hc⟩ := plainElem_bool_inv he hv
  simp only [Prod.mk.injEq] at hc
  have e1 := hr.symm.trans hc.1
  simp at e1
  subst e1
  unfold Oper.wp
  simp [execOp, hop, hm, hx, hrun, Result.andThen]
  exact hK' _ _ hK
theorem wpList_lookup_own_ok_string (hg : o.guard = none) (m x : Operand) (t : TypeId) (hop : o.op = Op.lookup t m x true)
    (k e : TypeId) (K : Keyed P k) (ht : P.underlying t = some (.map k e)) (he : P.underlying e = some .string) (hz : (zeroValue e).run P w = .ok (.string ⟨#[]⟩) w) (b n : Nat) (D : DataW H)
    (hm : a.eval m = .map (some b)) (hown : w.ownsMap P k (plainElem P e) b n D) (key : Value) (kl : Lit) (hx : a.eval x = key) (hkey : keyOf P k key = some kl)
    (ok : Bool) (s : ByteArray) (hok : Maps.has D kl = ok) (hs : D.atKey kl (.lit (.string [])) = .lit (.string s.data.toList))
    (hK : wpList P ops Q rest (a.put o.dst (.tuple #[.string s, .bool ok])) w) :
    wpList P ops Q (o :: rest) a w :=
  wpList_lookup_own_ok w hg m x t hop k e K ht (plainElem P e) hz (.lit (.string [])) [] (plainElem_string he (s := ⟨#[]⟩) (by simp [ByteArray.size])) b n D hm hown key kl hx hkey (fun v ps hv => by
    obtain ⟨c, rfl, hc, _⟩ := plainElem_string_inv he hv
    simp only [Prod.mk.injEq] at hc
    have e1 := hs.symm.trans hc.1
    simp only [DataW.lit.injEq, Lit.string.injEq] at e1
    have e2 := bytes_inj e1
    subst e2
    subst hok
    exact hK)
end
theorem ownsMap_below {w w' : World} {P : Program} {k b n B : Nat} {R : Value → Option (DataW Unit × List MemPlace)} {D : DataW Unit} (h : w.ownsMap P k R b n D) (hb : Below B w w') (hlt : b < B) : w'.ownsMap P k R b n D := by
  obtain ⟨es, clock, hh, r⟩ := h
  exact ⟨es, clock, (hb.block b hlt).trans hh, r⟩
end Go.Proofs.Qxb6619317aMods.Na
