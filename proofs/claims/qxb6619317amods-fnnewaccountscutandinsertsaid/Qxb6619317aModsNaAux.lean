/- FnNewAccountsCutAndInsert: small lemmas for the law's walk. -/
import Derived.Test.Qxb6619317aModsNaPlain
namespace Go.Proofs.Qxb6619317aMods.Na
open Go.ChangeShapes Go.WideShapes Go.ChangeAt Go.RowKit Go.Maps
set_option linter.unusedVariables false

/-- the link that was boxed -/
def Box (w : World) (b : Nat) (l : Lk) : Prop := w.cell? ⟨b, 0, none⟩ = some (.string l.sid) ∧ w.cell? ⟨b, 1, none⟩ = some (.string l.pw) ∧ w.cell? ⟨b, 2, none⟩ = some (.string l.st) ∧ w.cell? ⟨b, 3, none⟩ = some (.string l.cn)
theorem Box.below {w w' : World} {b B : Nat} {l : Lk} (h : Box w b l) (hb : Below B w w') (hlt : b < B) : Box w' b l :=
  ⟨(hb.cell (p := ⟨b, _, none⟩) hlt).trans h.1, (hb.cell (p := ⟨b, _, none⟩) hlt).trans h.2.1, (hb.cell (p := ⟨b, _, none⟩) hlt).trans h.2.2.1, (hb.cell (p := ⟨b, _, none⟩) hlt).trans h.2.2.2⟩
/-- what stands in every world behind the box -/
structure Inv (w wi : World) (l : Lk) : Prop where
  below : Below w.heap.size w wi
  size : w.heap.size < wi.heap.size
  box : Box wi w.heap.size l
theorem Inv.start (w : World) (l : Lk) (t : Nat) : Inv w (w.alloc (.cells #[.string l.sid, .string l.pw, .string l.st, .string l.cn] t)) l := by
  refine ⟨(Below.refl _ _).alloc (Nat.le_refl _) _, by simp, ?_⟩
  simp [Box]
theorem Inv.next {w wi wj : World} {l : Lk} (h : Inv w wi l) (hb : Below wi.heap.size wi wj) : Inv w wj l :=
  ⟨h.below.trans (hb.mono h.below.size), Nat.lt_of_lt_of_le h.size hb.size, h.box.below hb h.size⟩
theorem Inv.links {w wi : World} {l : Lk} {b o n : Nat} {L : Nat → Lk} (h : Inv w wi l) (hl : LinksAt w b o n L) (hb : b < w.heap.size) : LinksAt wi b o n L := hl.below h.below hb

theorem conf_ex (b o n c : Nat) (L : Nat → Lk) (w : World) (hn : n ≤ 1048576) (hb : b < w.heap.size) (hc : LinksAt w b o n L) :
    Calls Trym.prog 10 #[.slice (some ⟨b, o, none⟩) n c] w fun e w' => ∃ g, e = .returned (.slice (some ⟨g, 0, none⟩) n n) ∧ LinksAt w' g 0 n L ∧ Below w.heap.size w w' ∧ g < w'.heap.size :=
  (conf_some b o n c L w hn hb hc).mono fun e w' ⟨h1, h2, h3, h4⟩ => ⟨_, h1, h2, h3, h4⟩
theorem acc_ex (v : Value) (n : Nat) (L : Nat → Lk) (w : World) (hn : n ≤ 1048577) (hv : SliceOf w v n L) (hf : Fine n L) :
    Calls Trym.prog 12 #[v] w fun e w' => ∃ g, e = .returned (.map (some g)) ∧ w'.ownsMap Trym.prog 9 (plainElem Trym.prog 9) g n (accD L n) ∧ Below w.heap.size w w' ∧ g < w'.heap.size :=
  (zzacc_any v n L w hn hv hf).mono fun e w' ⟨h1, h2, h3⟩ => ⟨_, h1, h2, h3, h2.lt⟩

theorem suf_links {w : World} {b o o' n : Nat} {L : Nat → Lk} (h : LinksAt w b o n L) (kn : Nat) (ho : o' = o + kn * 4 ∨ n ≤ kn) : LinksAt w b o' (n - kn) (sufL L kn) := by
  intro i hi
  rcases ho with rfl | ho
  · have := h (kn + i) (by omega)
    simpa [sufL, Nat.add_mul, Nat.add_assoc] using this
  · omega

theorem owns_lt {w : World} {base e size g m n : Nat} {xs : List Value} (h : w.ownsRow base e size (.slice (some ⟨g, 0, none⟩) m n) m xs) : g < w.heap.size := by
  rcases h.2 with ⟨h', _⟩ | ⟨g', cap, cur, h', _, hgg, _⟩
  · simp at h'
  · simp only [Value.slice.injEq, Option.some.injEq, Addr.mk.injEq, and_true, true_and] at h'
    rw [h'.1]
    exact (Array.getElem?_eq_some_iff.1 hgg).1
theorem main_below {w wr w3 : World} {o : Obj} (h1 : Below w.heap.size w wr) (h3 : (wr.alloc o).grownBy w3 (some w.heap.size)) : Below w.heap.size w w3 := by
  have hs := h1.size
  exact (h1.alloc (by omega) o).grown h3 (by simp; omega) (fun k e => by cases e; exact Nat.le_refl _)

theorem fine_whole {L : Nat → Lk} {n m q : Nat} {s0 s1 s2 s3 : ByteArray} (h : Fine n L) (hm : m = n + 1) (hq : q ≤ n) (h0 : s0.size ≤ maxLen) (h1 : s1.size ≤ maxLen) : Fine m (wholeL L q ⟨s0, s1, s2, s3⟩) := by
  intro i hi
  unfold wholeL
  by_cases e : i < q
  · rw [if_pos e]; exact h i (by omega)
  · rw [if_neg e]
    by_cases e' : i = q
    · rw [if_pos e']; exact ⟨h0, h1⟩
    · rw [if_neg e']; exact h (i - 1) (by omega)
theorem fine_suf {L : Nat → Lk} {n : Nat} (h : Fine n L) (q : Nat) : Fine (n - q) (sufL L q) := fun i hi => h (q + i) (by omega)
theorem whole_eq {L : Nat → Lk} {n m q : Nat} {s0 s1 s2 s3 : ByteArray} (hm : m = n + 1) (hq : q ≤ n) (x : ByteArray) : accV (wholeL L q ⟨s0, s1, s2, s3⟩) m x = (accV (sufL L q) (n - q) x).or (if s3.toList.isEmpty = true ∧ s0 = x then some s1 else accV L q x) := by
  subst hm
  exact acc_whole L q n hq ⟨s0, s1, s2, s3⟩ x
theorem whole_mem {L : Nat → Lk} {n m q : Nat} {l : Lk} (hm : m = n + 1) (hq : q ≤ n) : (∀ i, i < q → (L i).sid ∈ seenL (wholeL L q l) m) ∧ (∀ i, i < n - q → (sufL L q i).sid ∈ seenL (wholeL L q l) m) := by
  refine ⟨fun i hi => ?_, fun i hi => ?_⟩
  · have := seenL_mem (wholeL L q l) i m (by omega)
    rwa [whole_lt hi] at this
  · have := seenL_mem (wholeL L q l) (q + 1 + i) m (by omega)
    rwa [whole_gt] at this
theorem hide' {p : Prop} (h : p) : Hid p := h
theorem zero4 (w : World) : (zeroValue 4).run Trym.prog w = .ok (.bool false) w := by kernel_rfl
theorem zero9 (w : World) : (zeroValue 9).run Trym.prog w = .ok (.string ⟨#[]⟩) w := by kernel_rfl
theorem int_succ {a a' : Nat} (h : a' = a + true.toNat) : Value.int .i64 ((a : Int) + 1) = .int .i64 (a' : Int) := by subst h; simp
theorem int_same {a a' : Nat} (h : a' = a + false.toNat) : Value.int .i64 (a : Int) = .int .i64 (a' : Int) := by subst h; simp
theorem map_below {w wr w3 : World} (h1 : Below w.heap.size w wr) (h3 : wr.grownBy w3 (some w.heap.size)) : Below w.heap.size w w3 :=
  h1.grown h3 h1.size (fun k e => by cases e; exact Nat.le_refl _)
theorem len_cnt (W M : Nat → Lk) (n m : Nat) (w : World) (b : Nat) (h : w.ownsMap Trym.prog 9 (plainElem Trym.prog 9) b n (accD M n)) (hm : ∀ i, i < n → (M i).sid ∈ seenL W m) (ty : TypeId) : (Builtin.len_ #[37] ty #[.map (some b)]).run Trym.prog w = .ok (.int .i64 (cnt W M n m)) w := by
  rw [h.len Trym.underlying37 ty, size_acc M (seenL W m) (seenL_nodup W m) n hm]
  rfl
theorem has_lit (M : Nat → Lk) (n : Nat) (x : ByteArray) : Maps.has (accD M n) (.string x.data.toList) = (accV M n x).isSome := accD_has M x n
theorem at_lit (M : Nat → Lk) (n : Nat) (x : ByteArray) : (accD M n).atKey (.string x.data.toList) (.lit (.string [])) = .lit (.string ((accV M n x).getD ⟨#[]⟩).data.toList) := accD_at M x n
theorem toList_beq (a b : ByteArray) : (a.toList == b.toList) = decide (a = b) := by
  rw [← beq_toListBytes]
  by_cases e : a = b
  · subst e; simp [beq_toListBytes]
  · have : (a == b) = false := by
      rw [beq_toListBytes, ByteArray.toList_eq, ByteArray.toList_eq]
      cases h : (a.data.toList == b.data.toList)
      · rfl
      · exact absurd (bytes_inj (eq_of_beq h)) e
    simp [this, e]
theorem ways {W L S : Nat → Lk} {m q ns d : Nat} {s0 s1 s3 x : ByteArray} (h : ∀ x, accV W m x = (accV S ns x).or (if s3.toList.isEmpty = true ∧ s0 = x then some s1 else accV L q x)) (hx : x = (W d).sid) (hin : inB (W d).sid (seenL W d) = false) :
    ∃ (okA okP okS c1 c2 : Bool) (av pv sv : ByteArray),
      Maps.has (accD W m) (.string x.data.toList) = okA ∧ (accD W m).atKey (.string x.data.toList) (.lit (.string [])) = .lit (.string av.data.toList) ∧
      Maps.has (accD L q) (.string x.data.toList) = okP ∧ (accD L q).atKey (.string x.data.toList) (.lit (.string [])) = .lit (.string pv.data.toList) ∧
      Maps.has (accD S ns) (.string x.data.toList) = okS ∧ (accD S ns).atKey (.string x.data.toList) (.lit (.string [])) = .lit (.string sv.data.toList) ∧
      s3.toList.isEmpty = c1 ∧ (s0.toList == x.toList) = c2 ∧ okA = (okS || (c1 && c2) || okP) ∧ av = (if okS = true then sv else if (c1 && c2) = true then s1 else pv) ∧
      cnt W W m (d + 1) = cnt W W m d + okA.toNat ∧ cnt W L q (d + 1) = cnt W L q d + okP.toNat ∧ cnt W S ns (d + 1) = cnt W S ns d + okS.toNat := by
  refine ⟨_, _, _, _, _, _, _, _, has_lit W m x, at_lit W m x, has_lit L q x, at_lit L q x, has_lit S ns x, at_lit S ns x, rfl, rfl, ?_, ?_, ?_, ?_, ?_⟩
  · rw [h x, toList_beq]
    by_cases h1 : s3.toList.isEmpty = true <;> by_cases h2 : s0 = x <;> cases accV S ns x <;> simp [h1, h2]
  · rw [h x, toList_beq]
    by_cases h1 : s3.toList.isEmpty = true <;> by_cases h2 : s0 = x <;> cases accV S ns x <;> simp [h1, h2]
  · rw [cnt_new hin, ← hx]; cases (accV W m x).isSome <;> rfl
  · rw [cnt_new hin, ← hx]; cases (accV L q x).isSome <;> rfl
  · rw [cnt_new hin, ← hx]; cases (accV S ns x).isSome <;> rfl

end Go.Proofs.Qxb6619317aMods.Na
