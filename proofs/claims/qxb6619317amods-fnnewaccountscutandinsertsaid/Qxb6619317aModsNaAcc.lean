/- FnNewAccountsCutAndInsert: newAccounts: a new map, filled link by link. -/
import Derived.Test.Qxb6619317aModsNaConf
import Derived.Maps.OwnSet
namespace Go.Proofs.Qxb6619317aMods.Na
open Go.ChangeShapes Go.WideShapes Go.ChangeAt Go.RowKit Go.Maps Go.MapKept
set_option linter.unusedVariables false

theorem law : Keyed Trym.prog 9 := string_keyed Trym.underlying9

/-- a key, and an element, as data -/
def kL (s : ByteArray) : Lit := .string s.data.toList
def dL (s : ByteArray) : DataW Unit := .lit (.string s.data.toList)
/-- the accounts of the first k links -/
def accD (L : Nat → Lk) : Nat → DataW Unit
  | 0 => .map []
  | k + 1 => if (L k).cn.toList.isEmpty = true then (accD L k).put (kL (L k).sid) (dL (L k).pw) else accD L k

/-- the strings are strings that were read -/
def Fine (n : Nat) (L : Nat → Lk) : Prop := ∀ i, i < n → (L i).sid.size ≤ maxLen ∧ (L i).pw.size ≤ maxLen

theorem acc_below {w wr w3 : World} {o : Obj} (h1 : Below w.heap.size w wr) (h3 : (wr.alloc o).grownBy w3 (some w.heap.size)) : Below w.heap.size w w3 := by
  have hs := h1.size
  exact (h1.alloc (by omega) o).grown h3 (by simp; omega) (fun k e => by cases e; exact Nat.le_refl _)

set_option maxHeartbeats 1000000 in
theorem acc_some (b o n c : Nat) (L : Nat → Lk) (w : World) (hn : n ≤ 1048577) (hb : b < w.heap.size) (hc : LinksAt w b o n L) (hf : Fine n L) :
    Calls Trym.prog 16 #[.slice (some ⟨b, o, none⟩) n c] w fun e w' => e = .returned (.map (some w.heap.size)) ∧ w'.ownsMap Trym.prog 9 (plainElem Trym.prog 9) w.heap.size n (accD L n) ∧ Below w.heap.size w w' := by
  have HC : Hid (LinksAt w b o n L) := hc
  have HF : Hid (Fine n L) := hf
  clear hc hf
  have hmm := @run_makeMap Trym.prog
  go_enter Trym.func16, Trym.ntmps16
  go_wp2_with fail
  clear hmm
  go_loopw [9] (fun i wr => ∃ k : Nat, k ≤ n ∧ i = .int .i64 k ∧ wr.ownsMap Trym.prog 9 (plainElem Trym.prog 9) w.heap.size k (accD L k) ∧ Below w.heap.size w wr) (fun i _ => n - (intOf i).toNat)
  case atStart => exact ⟨0, Nat.zero_le _, rfl, World.ownsMap_made _ _ _ _, (Below.refl _ _).alloc (Nat.le_refl _) _⟩
  case round =>
    obtain ⟨k, hk, rfl, hown, hbk⟩ := hrel
    by_cases hlt : k < n
    · obtain ⟨h0, h1, h2, h3⟩ := (HC.out.below hbk hb) k hlt
      obtain ⟨f0, f1⟩ := HF.out k hlt
      by_cases hcn : (L k).cn.toList.isEmpty = true
      · go_wp2_with (first | (at_mapUpdate; refine wpList_mapUpdate_own _ rfl _ _ _ 46 rfl 9 9 law Trym.underlying46 _ w.heap.size k _ rfl (hown.alloc _) (by unfold maxLen; omega) _ _ _ rfl rfl (WideMaps.keyOf_string_mk Trym.underlying9 f0) _ [] (plainElem_string Trym.underlying9 f1) ?_; intro w1 hown1 hgrow1) | go_in)
        go_roundw
        case rel => exact ⟨k + 1, by omega, by go_num, by rw [accD, if_pos hcn]; exact hown1, acc_below hbk hgrow1⟩
        case measure => simp [intOf]; omega
      · go_wp2_with go_in
        go_roundw
        case rel => exact ⟨k + 1, by omega, by go_num, by rw [accD, if_neg hcn]; exact (hown.alloc _).mono (by omega), hbk.alloc hbk.size _⟩
        case measure => simp [intOf]; omega
    · go_wp2_with fail
      obtain rfl : k = n := by omega
      go_ret
      exact ⟨rfl, hown, hbk⟩

set_option maxHeartbeats 1000000 in
theorem acc_nil (L : Nat → Lk) (w : World) :
    Calls Trym.prog 16 #[.slice none 0 0] w fun e w' => e = .returned (.map (some w.heap.size)) ∧ w'.ownsMap Trym.prog 9 (plainElem Trym.prog 9) w.heap.size 0 (accD L 0) ∧ Below w.heap.size w w' := by
  have hmm := @run_makeMap Trym.prog
  go_enter Trym.func16, Trym.ntmps16
  go_wp2_with fail
  clear hmm
  go_loopw [9] (fun i wr => i = .int .i64 0 ∧ wr.ownsMap Trym.prog 9 (plainElem Trym.prog 9) w.heap.size 0 (accD L 0) ∧ Below w.heap.size w wr) (fun i _ => 0)
  case atStart => exact ⟨rfl, World.ownsMap_made _ _ _ _, (Below.refl _ _).alloc (Nat.le_refl _) _⟩
  case round =>
    obtain ⟨rfl, hown, hbk⟩ := hrel
    go_wp2_with fail
    go_ret
    exact ⟨rfl, hown, hbk⟩

/-- a slice of links: nil, or n links from ⟨b, o⟩ on -/
def SliceOf (w : World) (v : Value) (n : Nat) (L : Nat → Lk) : Prop :=
  (v = .slice none 0 0 ∧ n = 0) ∨ ∃ b o c, v = .slice (some ⟨b, o, none⟩) n c ∧ b < w.heap.size ∧ LinksAt w b o n L
theorem SliceOf.below {w w' : World} {v : Value} {n : Nat} {L : Nat → Lk} (h : SliceOf w v n L) (hb : Below w.heap.size w w') : SliceOf w' v n L := by
  rcases h with h | ⟨b, o, c, hv, hlt, hl⟩
  · exact .inl h
  · exact .inr ⟨b, o, c, hv, Nat.lt_of_lt_of_le hlt hb.size, hl.below hb hlt⟩

theorem zzacc_any (v : Value) (n : Nat) (L : Nat → Lk) (w : World) (hn : n ≤ 1048577) (hv : SliceOf w v n L) (hf : Fine n L) :
    Calls Trym.prog 12 #[v] w fun e w' => e = .returned (.map (some w.heap.size)) ∧ w'.ownsMap Trym.prog 9 (plainElem Trym.prog 9) w.heap.size n (accD L n) ∧ Below w.heap.size w w' := by
  rcases hv with ⟨rfl, rfl⟩ | ⟨b, o, c, rfl, hlt, hl⟩
  · go_enter Trym.func12, Trym.ntmps12
    go_wp2_with (go_at_call 16; refine (acc_nil L _).mono ?_; rintro e w' ⟨rfl, h1, h2⟩)
    go_ret
    exact ⟨rfl, h1, h2⟩
  · have HL : Hid (LinksAt w b o n L) := hl
    clear hl
    go_enter Trym.func12, Trym.ntmps12
    go_wp2_with (go_at_call 16; refine (acc_some b o n c L _ hn hlt HL.out hf).mono ?_; rintro e w' ⟨rfl, h1, h2⟩)
    go_ret
    exact ⟨rfl, h1, h2⟩
end Go.Proofs.Qxb6619317aMods.Na
