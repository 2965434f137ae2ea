/- FnNewAccountsCutAndInsert: the law's walk, the slice nil. -/
import Derived.Test.Qxb6619317aModsNaAux
namespace Go.Proofs.Qxb6619317aMods.Na
open Go.ChangeShapes Go.WideShapes Go.ChangeAt Go.RowKit Go.Maps
set_option linter.unusedVariables false

set_option maxHeartbeats 4000000 in
set_option maxRecDepth 10000 in
theorem main_nil (k : Int) (L : Nat → Lk) (s0 s1 s2 s3 : ByteArray) (w : World) (hf0 : s0.size ≤ maxLen) (hf1 : s1.size ≤ maxLen) :
    Calls Trym.prog 4 #[.slice none 0 0, .int .i64 k, .agg #[.string s0, .string s1, .string s2, .string s3]] w fun e w' => e = .returned (.bool true) ∧ Below w.heap.size w w' := by
  have HF : Hid (Fine 0 L) := fun i hi => absurd hi (by omega)
  have I0 : Hid (Inv w (w.alloc (.cells #[.string s0, .string s1, .string s2, .string s3] 29)) ⟨s0, s1, s2, s3⟩) := Inv.start w ⟨s0, s1, s2, s3⟩ 29
  go_enter Trym.func4, Trym.ntmps4
  go_wp2_with fail
  refine (bytes_nil k _ _ _ _ _).mono ?_
  rintro e w1 ⟨⟨r, rfl⟩, hb1⟩
  have I1 : Hid (Inv w w1 ⟨s0, s1, s2, s3⟩) := I0.out.next hb1
  clear hb1 I0
  obtain ⟨l0, l1, l2, l3⟩ := I1.out.box
  have hs1 := I1.out.size
  cases r with
  | false =>
    go_wp2_with fail
    go_ret
    exact ⟨rfl, I1.out.below⟩
  | true =>
    go_wp2_with (go_at_call 9; refine (addLink_any _ _ _ _ _ _).mono ?_; rintro e w2 ⟨t, rfl, hb2⟩)
    all_goals have I2 : Hid (Inv w w2 ⟨s0, s1, s2, s3⟩) := I1.out.next hb2
    all_goals clear hb2 I1 l0 l1 l2 l3 hs1
    · go_ret
      exact ⟨rfl, I2.out.below⟩
    · go_loopw [7, 8] (fun t' i wr => i = .int .i64 0 ∧ t' = .int .i64 t ∧ Inv w wr ⟨s0, s1, s2, s3⟩) (fun _ i _ => 0)
      case atStart => exact ⟨rfl, rfl, I2.out⟩
      case round =>
        clear I2
        obtain ⟨rfl, rfl, I3⟩ := hrel
        have I3 : Hid (Inv w wr ⟨s0, s1, s2, s3⟩) := I3
        by_cases hk0 : k < 0
        · go_wp2_with fail
          go_ret
          exact ⟨rfl, I3.out.below⟩
        · by_cases hkn : 0 < k
          · go_wp2_with fail
            go_ret
            exact ⟨rfl, I3.out.below⟩
          · obtain rfl : k = 0 := by omega
            go_wp2_with fail
            refine (conf_nil _).mono ?_
            rintro e w4 ⟨rfl, rfl⟩
            go_wp2_with fail
            refine (conf_nil _).mono ?_
            rintro e w5 ⟨rfl, rfl⟩
            have I5 : Hid (Inv w w5 ⟨s0, s1, s2, s3⟩) := I3.out
            clear I3
            obtain ⟨i0, hi, hz0, hz1, hz2⟩ := info_parts Trym.info35
            go_wp2_with (at_make; refine wpList_make_own _ rfl _ _ 32 rfl w5.heap.size 35 i0 _ 4 Trym.underlying32 hi hz0 hz1 _ _ _ 1 rfl rfl (by omega) (by rw [hz2]; omega) (by unfold maxLen; omega) (Nat.le_refl _) ?_; intro w6 hown hgrow)
            have hb6 : Below w5.heap.size w5 w6 := (Below.refl _ _).grown hgrow (Nat.le_refl _) (fun _ h => by cases h)
            have HO : Hid (w6.ownsRow w5.heap.size 35 4 (.slice (some ⟨w5.heap.size, 0, none⟩) 0 1) 0 []) := hown
            clear hgrow hown
            go_loopw [11, 12] (fun v i wq => i = .int .i64 0 ∧ v = .slice (some ⟨w5.heap.size, 0, none⟩) 0 1 ∧ wq.ownsRow w5.heap.size 35 4 (.slice (some ⟨w5.heap.size, 0, none⟩) 0 1) 0 (cellsTo (wholeL L 0 ⟨s0, s1, s2, s3⟩) 0) ∧ Below w5.heap.size w5 wq) (fun _ i _ => 0)
            case atStart => exact ⟨rfl, rfl, HO.out, hb6⟩
            case round =>
              clear HO hb6
              obtain ⟨rfl, rfl, hown, hbq⟩ := hrel
              have hsz := owns_lt hown
              have I6 : Hid (Inv w wr ⟨s0, s1, s2, s3⟩) := I5.out.next hbq
              obtain ⟨l0, l1, l2, l3⟩ := I6.out.box
              go_wp2_with (first | (go_at_call 11; refine (toLink_any _ _ _ _ _).mono ?_; rintro e w7 ⟨rfl, hb7⟩) | (at_builtin; refine wpList_append_fits _ rfl _ _ 32 rfl w5.heap.size 35 i0 4 Trym.underlying32 hi hz1 w5.heap.size 0 1 _ rfl ((ownsRow_below hown hb7 hsz).alloc _) ⟨w7.heap.size, 0, none⟩ 1 1 (Lk.cells ⟨s0, s1, s2, s3⟩) rfl rfl (cells_new w7 ⟨s0, s1, s2, s3⟩ _) (cells_one _) (by omega) ?_; intro w8 hown8 hgrow8))
              have hb8 : Hid (Below w5.heap.size w5 w8) := conf_below hbq hb7 hgrow8
              have HO : Hid (w8.ownsRow w5.heap.size 35 4 (.slice (some ⟨w5.heap.size, 0, none⟩) 1 1) 1 (cellsTo (wholeL L 0 ⟨s0, s1, s2, s3⟩) 1)) := by rw [cellsTo, whole_at]; exact hown8
              clear hown8 hgrow8 hown hbq hb7 I6 l0 l1 l2 l3 hsz
              go_loopw [11, 13] (fun v i wq => i = .int .i64 0 ∧ v = .slice (some ⟨w5.heap.size, 0, none⟩) 1 1 ∧ wq.ownsRow w5.heap.size 35 4 (.slice (some ⟨w5.heap.size, 0, none⟩) 1 1) 1 (cellsTo (wholeL L 0 ⟨s0, s1, s2, s3⟩) 1) ∧ Below w5.heap.size w5 wq) (fun _ i _ => 0)
              case atStart => exact ⟨rfl, rfl, HO.out, hb8.out⟩
              case round =>
                clear HO hb8
                obtain ⟨rfl, rfl, hown, hbq⟩ := hrel
                have hsz := owns_lt hown
                have hmm : Hid (1 = 0 + 1) := rfl
                have I6 : Hid (Inv w wr ⟨s0, s1, s2, s3⟩) := I5.out.next hbq
                obtain ⟨W, hW⟩ : ∃ W, W = wholeL L 0 ⟨s0, s1, s2, s3⟩ := ⟨_, rfl⟩
                rw [← hW] at hown
                have HFW : Hid (Fine 1 W) := by rw [hW]; exact fine_whole HF.out hmm.out (by omega) hf0 hf1
                have HE : Hid (∀ x, accV W 1 x = (accV (sufL L 0) 0 x).or (if s3.toList.isEmpty = true ∧ s0 = x then some s1 else accV L 0 x)) := by rw [hW]; exact whole_eq hmm.out (by omega)
                have HM : Hid ((∀ i, i < 0 → (L i).sid ∈ seenL W 1) ∧ (∀ i, i < 0 → (sufL L 0 i).sid ∈ seenL W 1)) := by rw [hW]; exact whole_mem hmm.out (by omega)
                have HW : Hid (LinksAt wr w5.heap.size 0 1 W) := linksAt_of_owns hown
                have hm1 : 1 ≤ 1048577 := by omega
                clear hW hown
                go_wp2_with fail
                refine (acc_ex _ 1 W _ hm1 (.inr ⟨_, _, _, rfl, hsz, HW.out⟩) HFW.out).mono ?_
                rintro e wA ⟨bA, rfl, hA, hbA, hzA⟩
                have I7 : Hid (Inv w wA ⟨s0, s1, s2, s3⟩) := I6.out.next hbA
                have HP10 : Hid (SliceOf wA (.slice none 0 0) 0 L) := SliceOf.below (w := wr) (.inl ⟨rfl, rfl⟩) hbA
                have HS10 : Hid (SliceOf wA (.slice none 0 0) 0 (sufL L 0)) := SliceOf.below (w := wr) (.inl ⟨rfl, rfl⟩) hbA
                have HW10 : Hid (LinksAt wA w5.heap.size 0 1 W) := HW.out.below hbA hsz
                have hsA : w5.heap.size < wA.heap.size := Nat.lt_of_lt_of_le hsz hbA.size
                have HA : Hid (wA.ownsMap Trym.prog 9 (plainElem Trym.prog 9) bA 1 (accD W 1)) := hA
                clear hbA hA I6 HW hsz
                go_wp2_with fail
                refine (acc_ex _ 0 L _ (by omega) HP10.out (fun i hi => HF.out i (by omega))).mono ?_
                rintro e wP ⟨bP, rfl, hP, hbP, hzP⟩
                have I8 : Hid (Inv w wP ⟨s0, s1, s2, s3⟩) := I7.out.next hbP
                have HS11 : Hid (SliceOf wP (.slice none 0 0) 0 (sufL L 0)) := HS10.out.below hbP
                have HW11 : Hid (LinksAt wP w5.heap.size 0 1 W) := HW10.out.below hbP hsA
                have hsP : w5.heap.size < wP.heap.size := Nat.lt_of_lt_of_le hsA hbP.size
                have HA11 : Hid (wP.ownsMap Trym.prog 9 (plainElem Trym.prog 9) bA 1 (accD W 1)) := ownsMap_below HA.out hbP hzA
                have hzA1 : bA < wP.heap.size := Nat.lt_of_lt_of_le hzA hbP.size
                have HPm : Hid (wP.ownsMap Trym.prog 9 (plainElem Trym.prog 9) bP (0) (accD L 0)) := hP
                clear hbP hP I7 HP10 HS10 HW10 hsA HA hzA
                have hmk := @run_makeMap Trym.prog
                go_wp2_with fail
                refine (acc_ex _ 0 (sufL L 0) _ (by omega) HS11.out (fine_suf HF.out 0)).mono ?_
                rintro e wS ⟨bS, rfl, hS, hbS, hzS⟩
                have I9 : Hid (Inv w wS ⟨s0, s1, s2, s3⟩) := I8.out.next hbS
                have HW12 : Hid (LinksAt wS w5.heap.size 0 1 W) := HW11.out.below hbS hsP
                have hsS : w5.heap.size < wS.heap.size := Nat.lt_of_lt_of_le hsP hbS.size
                have HA12 : Hid (wS.ownsMap Trym.prog 9 (plainElem Trym.prog 9) bA 1 (accD W 1)) := ownsMap_below HA11.out hbS hzA1
                have hzA2 : bA < wS.heap.size := Nat.lt_of_lt_of_le hzA1 hbS.size
                have HP12 : Hid (wS.ownsMap Trym.prog 9 (plainElem Trym.prog 9) bP (0) (accD L 0)) := ownsMap_below HPm.out hbS hzP
                have hzP2 : bP < wS.heap.size := Nat.lt_of_lt_of_le hzP hbS.size
                have HS12 : Hid (wS.ownsMap Trym.prog 9 (plainElem Trym.prog 9) bS 0 (accD (sufL L 0) 0)) := hS
                clear hbS hS I8 HS11 HW11 hsP HA11 hzA1 HPm hzP
                go_wp2_with fail
                clear hmk
                go_loopw [18, 19, 20, 21] (fun a p s i wq => ∃ j : Nat, j ≤ 1 ∧ i = .int .i64 j ∧ a = .int .i64 (cnt W W 1 j) ∧ p = .int .i64 (cnt W L 0 j) ∧ s = .int .i64 (cnt W (sufL L 0) 0 j) ∧ wq.ownsMap Trym.prog 9 (plainElem Trym.prog 4) wS.heap.size j (seenD W j) ∧ Below wS.heap.size wS wq) (fun _ _ _ i _ => 1 - (intOf i).toNat)
                case atStart => exact ⟨0, Nat.zero_le _, rfl, rfl, rfl, rfl, World.ownsMap_made _ _ _ _, (Below.refl _ _).alloc (Nat.le_refl _) _⟩
                case round =>
                  obtain ⟨d, hd, rfl, rfl, rfl, rfl, hown, hbd⟩ := hrel
                  by_cases hlt4 : d < 1
                  · obtain ⟨hx0, -, -, -⟩ := HW12.out.below hbd hsS d hlt4
                    rw [Nat.zero_add] at hx0
                    have hxs := (HFW.out d hlt4).1
                    have hcA := cnt_le W W 1 d
                    have hcP := cnt_le W L 0 d
                    have hcS := cnt_le W (sufL L 0) 0 d
                    obtain ⟨x, hx⟩ : ∃ x, x = (W d).sid := ⟨_, rfl⟩
                    have HX : Hid (x = (W d).sid) := hx
                    rw [← hx] at hx0 hxs
                    clear hx
                    have hsn := seenD_at W x d
                    cases hin : inB x (seenL W d) with
                    | true =>
                      rw [hin] at hsn
                      go_wp2_with (at_lookup; refine wpList_lookup_own_bool _ rfl _ _ 39 rfl 9 4 law Trym.underlying39 Trym.underlying4 (zero4 _) wS.heap.size d _ rfl hown _ _ rfl (WideMaps.keyOf_string_mk Trym.underlying9 hxs) true hsn ?_)
                      have hin' : inB (W d).sid (seenL W d) = true := by rw [← HX.out]; exact hin
                      go_roundw
                      case rel => exact ⟨d + 1, by omega, by go_num, by rw [cnt_seen hin'], by rw [cnt_seen hin'], by rw [cnt_seen hin'], by rw [seenD, if_pos hin']; exact hown.mono (by omega), hbd⟩
                      case measure => simp [intOf]; omega
                    | false =>
                      rw [hin] at hsn
                      have hin' : inB (W d).sid (seenL W d) = false := by rw [← HX.out]; exact hin
                      obtain ⟨okA, okP, okS, c1, c2, av, pv, sv, hokA, hvA, hokP, hvP, hokS, hvS, hc1, hc2, eA, eV, hkA, hkP, hkS⟩ := ways HE.out HX.out hin'
                      obtain rfl : okP = false := by rw [← hokP]; rfl
                      obtain rfl : okS = false := by rw [← hokS]; rfl
                      have HkA := hide' hkA
                      have HkP := hide' hkP
                      have HkS := hide' hkS
                      have HN : Hid (seenD W (d + 1) = (seenD W d).put (.string x.data.toList) (.lit (.bool true))) := by unfold Hid; rw [seenD, if_neg (by rw [hin']; exact Bool.false_ne_true), HX.out]; rfl
                      have HHA := hide' hokA
                      have HHP := hide' hokP
                      have HHS := hide' hokS
                      have HVA := hide' hvA
                      have HVP := hide' hvP
                      have HVS := hide' hvS
                      clear hkA hkP hkS hokA hokP hokS hvA hvP hvS hin
                      cases c1 <;> cases c2 <;> simp only [Bool.or_false, Bool.and_true, Bool.and_false, Bool.false_eq_true, if_true, if_false] at eA eV <;> subst eA <;> subst eV
                      all_goals
                        go_wp2_with (first | (at_lookup; refine wpList_lookup_own_bool _ rfl (.tmp 130) (.tmp 131) 39 rfl 9 4 law Trym.underlying39 Trym.underlying4 (zero4 _) wS.heap.size d _ rfl hown _ _ rfl (WideMaps.keyOf_string_mk Trym.underlying9 hxs) false hsn ?_) | (at_mapUpdate; refine wpList_mapUpdate_own _ rfl _ _ _ 39 rfl 9 4 law Trym.underlying39 _ wS.heap.size d _ rfl hown (by unfold maxLen; omega) _ _ _ rfl rfl (WideMaps.keyOf_string_mk Trym.underlying9 hxs) _ [] (plainElem_bool Trym.underlying4 true) ?_; intro w13 hown13 hgrow13; have hb13 := map_below hbd hgrow13; obtain ⟨l0, l1, l2, l3⟩ := (I9.out.next hb13).box; have hA13 := ownsMap_below HA12.out hb13 hzA2; have hP13 := ownsMap_below HP12.out hb13 hzP2; have hS13 := ownsMap_below HS12.out hb13 hzS) | (at_lookup; refine wpList_lookup_own_ok_string _ rfl (.tmp 136) (.tmp 137) 37 rfl 9 9 law Trym.underlying37 Trym.underlying9 (zero9 _) bA 1 _ rfl hA13 _ _ rfl (WideMaps.keyOf_string_mk Trym.underlying9 hxs) _ _ HHA.out HVA.out ?_) | (at_lookup; refine wpList_lookup_own_ok_string _ rfl (.tmp 142) (.tmp 143) 37 rfl 9 9 law Trym.underlying37 Trym.underlying9 (zero9 _) bP _ _ rfl hP13 _ _ rfl (WideMaps.keyOf_string_mk Trym.underlying9 hxs) _ _ HHP.out HVP.out ?_) | (at_lookup; refine wpList_lookup_own_ok_string _ rfl (.tmp 148) (.tmp 149) 37 rfl 9 9 law Trym.underlying37 Trym.underlying9 (zero9 _) bS _ _ rfl hS13 _ _ rfl (WideMaps.keyOf_string_mk Trym.underlying9 hxs) _ _ HHS.out HVS.out ?_))
                        go_roundw
                        case rel => exact ⟨d + 1, by omega, by go_num, by first | exact int_succ HkA.out | exact int_same HkA.out, by first | exact int_succ HkP.out | exact int_same HkP.out, by first | exact int_succ HkS.out | exact int_same HkS.out, by rw [HN.out]; exact hown13, hb13⟩
                        case measure => (simp [intOf] <;> omega)
                  · obtain rfl : d = 1 := by omega
                    have hlA := fun ty => len_cnt W W 1 1 wr bA (ownsMap_below HA12.out hbd hzA2) (fun i hi => seenL_mem W i 1 hi) ty
                    have hlP := fun ty => len_cnt W L 0 1 wr bP (ownsMap_below HP12.out hbd hzP2) HM.out.1 ty
                    have hlS := fun ty => len_cnt W (sufL L 0) 0 1 wr bS (ownsMap_below HS12.out hbd hzS) HM.out.2 ty
                    go_wp2_with fail
                    go_ret
                    exact ⟨rfl, (I9.out.next hbd).below⟩
end Go.Proofs.Qxb6619317aMods.Na
