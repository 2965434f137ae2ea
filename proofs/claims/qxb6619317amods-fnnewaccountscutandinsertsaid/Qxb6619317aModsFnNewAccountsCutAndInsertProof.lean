/- FnNewAccountsCutAndInsert: the row's proof over the three walks. -/
import Derived.Test.Qxb6619317aModsNaSome
import Derived.Test.Qxb6619317aModsNaNil
import Derived.Test.Qxb6619317aModsNaEmpty
import Derived.WalkKit
import Derived.ProofKit
import Derived.OpenShut
import Derived.Lib.SmallJoins
import Derived.Deep.Slices
namespace Go.Proofs.Qxb6619317aMods.fnNewAccountsCutAndInsert
open Go.ChangeShapes Go.WideShapes Go.ChangeAt Go.RowKit
open Go.Proofs.Qxb6619317aMods.Na
set_option linter.unusedVariables false

theorem own : ownKnob Trym.prog.godebug = none := by kernel_rfl
theorem laidOut : laidOutB Trym.prog = true := by kernel_rfl
theorem cells29 : Trym.prog.cellsOf 29 = 4 := by kernel_rfl
theorem cells9 : Trym.prog.cellsOf 9 = 1 := by kernel_rfl

section
variable {H : Type} {enc : TypeId × Value → H} {w : World} {base : Nat} {spare : Nat → Bool} {held : Bool}
/-- four cells that read as a Link ARE four strings -/
theorem link_cells {n : Nat} {cs : List Value} {x : DataW H × List MemPlace} (h : DataW.trod enc Trym.prog w base spare held n 29 cs = some x) :
    ∃ l : Lk, cs = l.cells ∧ l.sid.size ≤ maxLen ∧ l.pw.size ≤ maxLen := by
  obtain ⟨y0, y1, y2, y3, m, _, hl, h0, h1, h2, h3⟩ := Joins.trod_struct4 Trym.underlying29 h
  rw [cells29] at hl
  match cs, hl with
  | [c0, c1, c2, c3], _ =>
    simp only [cells9, List.drop, List.take] at h0 h1 h2 h3
    obtain ⟨t0, e0, _, f0⟩ := DataW.trod_string Trym.underlying9 h0
    obtain ⟨t1, e1, _, f1⟩ := DataW.trod_string Trym.underlying9 h1
    obtain ⟨t2, e2, _, f2⟩ := DataW.trod_string Trym.underlying9 h2
    obtain ⟨t3, e3, _, f3⟩ := DataW.trod_string Trym.underlying9 h3
    simp at e0 e1 e2 e3
    subst e0 e1 e2 e3
    exact ⟨⟨t0, t1, t2, t3⟩, rfl, f0, f1⟩

/-- what the walk is told of the slice -/
def IsLinks (w : World) (a : Option Addr) (len cap : Nat) : Prop :=
  (a = none ∧ len = 0 ∧ cap = 0) ∨ (∃ x, a = some x ∧ len = 0 ∧ cap = 0) ∨
  ∃ b o L, a = some ⟨b, o, none⟩ ∧ len ≤ cap ∧ cap ≤ maxLen ∧ b < w.heap.size ∧ LinksAt w b o len L ∧ Fine len L

theorem cells_link {a : Addr} {b o k : Nat} {l : Lk} (ha : a = ⟨b, o, none⟩) (h : w.cells? base (a.add k) 4 = some l.cells) :
    w.cell? ⟨b, o + k, none⟩ = some (.string l.sid) ∧ w.cell? ⟨b, o + k + 1, none⟩ = some (.string l.pw) ∧ w.cell? ⟨b, o + k + 2, none⟩ = some (.string l.st) ∧ w.cell? ⟨b, o + k + 3, none⟩ = some (.string l.cn) := by
  subst ha
  obtain ⟨_, _, hc⟩ := World.cells?_some h
  have h0 := hc 0 (by omega)
  have h1 := hc 1 (by omega)
  have h2 := hc 2 (by omega)
  have h3 := hc 3 (by omega)
  rw [add_plain, add_plain] at h0 h1 h2 h3
  exact ⟨by simpa [Lk.cells] using h0, by simpa [Lk.cells] using h1, by simpa [Lk.cells] using h2, by simpa [Lk.cells] using h3⟩

theorem open_links {fuel : Nat} {a : Option Addr} {len cap : Nat} {x : DataW H × List MemPlace} (h : DataW.trod enc Trym.prog w base (fun _ => true) held fuel 27 [.slice a len cap] = some x) : IsLinks w a len cap := by
  rcases Deep.open_slice Trym.underlying27 h with ⟨hcs, _⟩ | ⟨ad, l, c, m, n, D, Pl, hcs, _, hl, hm, hmm, _, hx⟩
  · simp at hcs
    exact .inl hcs
  · simp at hcs
    obtain ⟨rfl, rfl, rfl⟩ := hcs
    simp only [if_true] at hmm
    subst hmm
    rw [cells29] at hx
    have inh : Inhabited Lk := ⟨⟨⟨#[]⟩, ⟨#[]⟩, ⟨#[]⟩, ⟨#[]⟩⟩⟩
    obtain ⟨L, hL⟩ := Deep.choose_lt (α := Lk) (n := m) (p := fun i l => w.cells? base (ad.add (i * 4)) 4 = some l.cells ∧ l.sid.size ≤ maxLen ∧ l.pw.size ≤ maxLen) (fun i hi => by
      obtain ⟨cs', h1, h2⟩ := hx i hi
      obtain ⟨l, rfl, f0, f1⟩ := link_cells h2
      exact ⟨l, h1, f0, f1⟩)
    by_cases hc0 : m = 0
    · exact .inr (.inl ⟨ad, rfl, by omega, hc0⟩)
    · obtain ⟨b, o, spot⟩ := ad
      have h0 := (World.cells?_some (hL 0 (by omega)).1).2.2 0 (by omega)
      simp [Lk.cells, Addr.add] at h0
      have hspot : spot = none := by simpa using World.cell?_spot h0
      subst hspot
      refine .inr (.inr ⟨b, o, L, rfl, hl, hm, World.block_lt_of_cell? w _ h0, fun i hi => ?_, fun i hi => (hL i (by omega)).2⟩)
      exact cells_link rfl (hL i (by omega)).1
end

theorem walk (a : Option Addr) (len cap : Nat) (k : Int) (s0 s1 s2 s3 : ByteArray) (w : World) (h : IsLinks w a len cap) (f0 : s0.size ≤ maxLen) (f1 : s1.size ≤ maxLen) :
    Calls Trym.prog 4 #[.slice a len cap, .int .i64 k, .agg #[.string s0, .string s1, .string s2, .string s3]] w fun e w' => e = .returned (.bool true) ∧ Below w.heap.size w w' := by
  rcases h with ⟨rfl, rfl, rfl⟩ | ⟨x, rfl, rfl, rfl⟩ | ⟨b, o, L, rfl, hl, hm, hb, hL, hf⟩
  · exact main_nil k (fun _ => ⟨s0, s1, s2, s3⟩) s0 s1 s2 s3 w f0 f1
  · exact main_empty x k (fun _ => ⟨s0, s1, s2, s3⟩) s0 s1 s2 s3 w f0 f1
  · exact main_some b o len cap k L s0 s1 s2 s3 w hl (by unfold maxLen at hm; omega) hb hL hf f0 f1

set_option maxRecDepth 100000 in
theorem lifted (os : Os) (started : os.Started) (H : Type) (enc : TypeId × Value → H) :
    ReturnsInHanded {} Trym.checked os 4 .any (Rows.fnNewAccountsCutAndInsertSpec.pre6 enc Trym.prog Trym.f4 Rows.fnNewAccountsCutAndInsertRow.domain false) (Rows.fnNewAccountsCutAndInsertSpec.post enc Trym.prog Trym.f4 false true false false) := by
  refine returnsInHanded_of_change (C := Trym.checked) own started (by kernel_rfl) Trym.func4
    (ChangeSpec.witness6 (enc := enc) (C := Trym.checked) false ⟨#[], #[.slice none 0 0, .int .i64 0, .agg #[.string ⟨#[]⟩, .string ⟨#[]⟩, .string ⟨#[]⟩, .string ⟨#[]⟩]], []⟩ 8 (by kernel_rfl) (by kernel_rfl) (by kernel_rfl) (by kernel_rfl)) ?_
  intro W base args ds gs before hval0 hW hcnd _
  have hval : ∀ (j : Nat) t v, Trym.f4.params[j]? = some t → args[j]? = some v → Value.okWide Trym.prog W .any base t v := hval0
  have hW' := hW
  obtain ⟨p, q, hA0, hV, rfl, hfz, hnd⟩ := hW
  have hA : DataW.TrodAll enc Trym.prog W 0 (fun _ => true) true Trym.f4.params.toList args.toList ds p := hA0
  rw [Trym.params4] at hA hval
  obtain ⟨v0, vs0, d0, ds0, p0, q0, hargs, rfl, rfl, h0, r0⟩ := trodAll_cons hA
  obtain ⟨v1, vs1, d1, ds1, p1, q1, rfl, rfl, rfl, h1, r1⟩ := trodAll_cons r0
  obtain ⟨v2, vs2, d2, ds2, p2, q2, rfl, rfl, rfl, h2, r2⟩ := trodAll_cons r1
  obtain ⟨rfl, rfl, rfl⟩ := trodAll_nil r2
  obtain rfl : args = #[v0, v1, v2] := by cases args; simp_all
  obtain ⟨rfl, rfl⟩ := trodVars_none hV
  obtain ⟨a0, len0, cap0, rfl⟩ := okWide_slice Trym.underlying27 (hval 0 27 v0 rfl rfl)
  have k0 := h0
  have lt0 : ∀ x ∈ p0, x.block < W.heap.size := by obtain ⟨m, hm⟩ := k0; exact DataW.trod_lt m _ _ _ hm
  have w0 : IsLinks W a0 len0 cap0 := by
    obtain ⟨fuel, hf⟩ := h0
    exact open_links (by simpa [Value.cells] using hf)
  obtain ⟨a1, rfl, rfl, rfl, w1⟩ := open_int Trym.underlying3 (hval 1 3 v1 rfl rfl) h1
  have k2 := h2
  have lt2 : ∀ x ∈ p2, x.block < W.heap.size := by obtain ⟨m, hm⟩ := k2; exact DataW.trod_lt m _ _ _ hm
  obtain ⟨s0, s1, s2, s3, hv2, f0, f1⟩ : ∃ s0 s1 s2 s3 : ByteArray, v2 = .agg #[.string s0, .string s1, .string s2, .string s3] ∧ s0.size ≤ maxLen ∧ s1.size ≤ maxLen := by
    obtain ⟨c0, c1, c2, c3, y0, y1, y2, y3, m, rfl, _, _, e0, e1, e2, e3⟩ := Joins.open_agg4 Trym.underlying29 (by kernel_rfl) cells29 (hval 2 29 v2 rfl rfl) h2
    obtain ⟨t0, g0, _, f0⟩ := DataW.trod_string Trym.underlying9 e0
    obtain ⟨t1, g1, _, f1⟩ := DataW.trod_string Trym.underlying9 e1
    obtain ⟨t2, g2, _, f2⟩ := DataW.trod_string Trym.underlying9 e2
    obtain ⟨t3, g3, _, f3⟩ := DataW.trod_string Trym.underlying9 e3
    simp at g0 g1 g2 g3
    subst g0 g1 g2 g3
    exact ⟨t0, t1, t2, t3, rfl, f0, f1⟩
  subst hv2
  clear hA0 hval0
  refine (walk a0 len0 cap0 a1 s0 s1 s2 s3 W w0 f0 f1).mono fun e W' ⟨he, bel⟩ => ?_
  subst he
  exact ⟨_, rfl, _, _, _, [], _, [], hW', trodAll_mk1 (shut_bool Trym.underlying4 _), (trodAll_cons_mk (Below.trod laidOut (by kernel_rfl) (of_decide_eq_true (by kernel_rfl)) k0 bel lt0) (trodAll_cons_mk (shut_int Trym.underlying3 w1) (trodAll_cons_mk (Below.trod laidOut (by kernel_rfl) (of_decide_eq_true (by kernel_rfl)) k2 bel lt2) trodAll_mk0))), rfl, bel.frame _, fun h => by cases h⟩

theorem over : Rows.fnNewAccountsCutAndInsertRow.holds Trym.pinned (OpenSpec.ofChange Rows.fnNewAccountsCutAndInsertSpec) :=
  OpenClaim.holds_of_wide 4 Trym.f4 rfl rfl rfl rfl rfl rfl rfl ⟨rfl, rfl, rfl, rfl, rfl⟩ rfl rfl rfl rfl rfl (by kernel_rfl) Trym.func4 (by kernel_rfl)
    (of_decide_eq_true (by kernel_rfl)) (by unfold Func.isWrapper; first | (rw [if_pos (by decide +kernel)]; kernel_rfl) | (rw [if_neg (by decide +kernel)]; exact ⟨rfl, rfl⟩))
    (fun os started H enc _ => lifted os started H enc)

/-- THE STATEMENT -/
theorem proved : Rows.FnNewAccountsCutAndInsertSaid := over
end Go.Proofs.Qxb6619317aMods.fnNewAccountsCutAndInsert
