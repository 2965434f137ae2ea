/- FnNewAccountsCutAndInsert: the law's walk, the slice not nil. -/
import Derived.Test.Qxb6619317aModsNaAux
namespace Go.Proofs.Qxb6619317aMods.Na
open Go.ChangeShapes Go.WideShapes Go.ChangeAt Go.RowKit Go.Maps
set_option linter.unusedVariables false

theorem slice_from (b o n c kn : Nat) (hk : kn ≤ n) : ∃ oS, (oS = o + kn * 4 ∨ c = kn) ∧ ∀ wx : World, (Instr.sliceAt 27 (.slice (some ⟨b, o, none⟩) n c) (some (.int .i64 (kn : Int))) none none).run Trym.prog wx = .ok (.slice (some ⟨b, oS, none⟩) (n - kn) (c - kn)) wx := by
  refine ⟨if c = kn then o else o + kn * 4, ?_, fun wx => ?_⟩
  · by_cases h : c = kn
    · exact .inr h
    · rw [if_neg h]; exact .inl rfl
  · have hu : Trym.prog.underlying 27 = some (.slice (Trym.prog.elem 27)) := by kernel_rfl
    have hs : (sizeOf (Trym.prog.elem 27)).run Trym.prog wx = .ok 4 wx := by kernel_rfl
    rw [run_sliceAt_slice (P := Trym.prog) wx 27 _ _ _ _ hu, run_slice_l (P := Trym.prog) wx 27 _ n c hu .i64 (kn : Int) (by omega) (by omega), hs]
    simp only [Result.andThen, sliced, Int.toNat_natCast]
    by_cases h : c = kn
    · simp [h]
    · simp [h, Addr.add_lit]

set_option maxHeartbeats 4000000 in
set_option maxRecDepth 10000 in
theorem main_some (b o n c : Nat) (k : Int) (L : Nat → Lk) (s0 s1 s2 s3 : ByteArray) (w : World) (hnc : n ≤ c) (hn : n ≤ 9223372036854775807) (hb : b < w.heap.size) (hc : LinksAt w b o n L) (hf : Fine n L) (hf0 : s0.size ≤ maxLen) (hf1 : s1.size ≤ maxLen) :
    Calls Trym.prog 4 #[.slice (some ⟨b, o, none⟩) n c, .int .i64 k, .agg #[.string s0, .string s1, .string s2, .string s3]] w fun e w' => e = .returned (.bool true) ∧ Below w.heap.size w w' := by
  have HC : Hid (LinksAt w b o n L) := hc
  have HF : Hid (Fine n L) := hf
  clear hc hf
  have I0 : Hid (Inv w (w.alloc (.cells #[.string s0, .string s1, .string s2, .string s3] 29)) ⟨s0, s1, s2, s3⟩) := Inv.start w ⟨s0, s1, s2, s3⟩ 29
  go_enter Trym.func4, Trym.ntmps4
  go_wp2_with fail
  refine (bytes_some b o n c k L _ _ _ _ _ hn (by simp; omega) (I0.out.links HC.out hb)).mono ?_
  rintro e w1 ⟨⟨r, rfl⟩, hb1⟩
  have I1 : Hid (Inv w w1 ⟨s0, s1, s2, s3⟩) := I0.out.next hb1
  clear hb1 I0
  obtain ⟨l0, l1, l2, l3⟩ := I1.out.box
  have hs1 := I1.out.size
  cases r with
  | false =>
    go_wp2_with fail
    go_ret
    exact ⟨rfl, I1.out.below⟩
  | true =>
    by_cases hbig : 16384 < n
    · go_wp2_with fail
      go_ret
      exact ⟨rfl, I1.out.below⟩
    · go_wp2_with (go_at_call 9; refine (addLink_any _ _ _ _ _ _).mono ?_; rintro e w2 ⟨t, rfl, hb2⟩)
      all_goals have I2 : Hid (Inv w w2 ⟨s0, s1, s2, s3⟩) := I1.out.next hb2
      all_goals clear hb2 I1 l0 l1 l2 l3 hs1
      · go_ret
        exact ⟨rfl, I2.out.below⟩
      · go_loopw [7, 8] (fun t i wr => ∃ (z : Int) (j : Nat), j ≤ n ∧ i = .int .i64 j ∧ t = .int .i64 z ∧ Inv w wr ⟨s0, s1, s2, s3⟩) (fun _ i _ => n - (intOf i).toNat)
        case atStart => exact ⟨_, 0, Nat.zero_le _, rfl, rfl, I2.out⟩
        case round =>
          clear I2
          obtain ⟨z, j, hj, rfl, rfl, I3⟩ := hrel
          have I3 : Hid (Inv w wr ⟨s0, s1, s2, s3⟩) := I3
          by_cases hlt : j < n
          · obtain ⟨h0, h1, h2, h3⟩ := I3.out.links HC.out hb j hlt
            go_wp2_with (go_at_call 9; refine (addLink_any _ _ _ _ _ _).mono ?_; rintro e w4 ⟨t, rfl, hb4⟩)
            · go_ret
              exact ⟨rfl, (I3.out.next hb4).below⟩
            · go_roundw
              case rel => exact ⟨_, j + 1, by omega, by go_num, rfl, I3.out.next hb4⟩
              case measure => simp [intOf]; omega
          · by_cases hk0 : k < 0
            · go_wp2_with fail
              go_ret
              exact ⟨rfl, I3.out.below⟩
            · by_cases hkn : (n : Int) < k
              · go_wp2_with fail
                go_ret
                exact ⟨rfl, I3.out.below⟩
              · obtain ⟨kn, rfl⟩ : ∃ kn : Nat, k = kn := ⟨k.toNat, by omega⟩
                have hs3 := I3.out.size
                go_wp2_with fail
                refine (conf_ex b o kn c L _ (by omega) (by omega) (fun i hi => I3.out.links HC.out hb i (by omega))).mono ?_
                rintro e w4 ⟨g4, rfl, hp4, hb4, hz4⟩
                have I4 : Hid (Inv w w4 ⟨s0, s1, s2, s3⟩) := I3.out.next hb4
                obtain ⟨oS, hoS, hsl⟩ := slice_from b o n c kn (by omega)
                go_wp2_with fail
                clear hsl
                refine (conf_ex b _ (n - kn) _ (sufL L kn) _ (by omega) (by have := hb4.size; omega) (suf_links (I4.out.links HC.out hb) kn (by omega))).mono ?_
                rintro e w5 ⟨g5, rfl, hp5, hb5, hz5⟩
                have I5 : Hid (Inv w w5 ⟨s0, s1, s2, s3⟩) := I4.out.next hb5
                have HP : Hid (LinksAt w5 g4 0 kn L) := hp4.below hb5 hz4
                have HS : Hid (LinksAt w5 g5 0 (n - kn) (sufL L kn)) := hp5
                have hg4 : g4 < w5.heap.size := Nat.lt_of_lt_of_le hz4 hb5.size
                have hg5 : g5 < w5.heap.size := hz5
                clear I3 I4 hb4 hp4 hb5 hp5 hs3 hz4 hz5 hoS
                obtain ⟨i0, hi, hz0, hz1, hz2⟩ := info_parts Trym.info35
                go_wp2_with (at_make; refine wpList_make_own _ rfl _ _ 32 rfl w5.heap.size 35 i0 _ 4 Trym.underlying32 hi hz0 hz1 _ _ _ (n + 1) rfl rfl (by omega) (by rw [hz2]; omega) (by unfold maxLen; omega) (Nat.le_refl _) ?_; intro w6 hown hgrow)
                have hb6 : Below w5.heap.size w5 w6 := (Below.refl _ _).grown hgrow (Nat.le_refl _) (fun _ h => by cases h)
                have HO : Hid (w6.ownsRow w5.heap.size 35 4 (.slice (some ⟨w5.heap.size, 0, none⟩) 0 (n + 1)) 0 []) := hown
                clear hgrow hown
                go_loopw [11, 12] (fun v i wq => ∃ j : Nat, j ≤ kn ∧ i = .int .i64 j ∧ v = .slice (some ⟨w5.heap.size, 0, none⟩) j (n + 1) ∧ wq.ownsRow w5.heap.size 35 4 (.slice (some ⟨w5.heap.size, 0, none⟩) j (n + 1)) j (cellsTo (wholeL L kn ⟨s0, s1, s2, s3⟩) j) ∧ Below w5.heap.size w5 wq) (fun _ i _ => kn - (intOf i).toNat)
                case atStart => exact ⟨0, Nat.zero_le _, rfl, rfl, HO.out, hb6⟩
                case round =>
                  clear HO hb6
                  obtain ⟨q, hq, rfl, rfl, hown, hbq⟩ := hrel
                  have hsz := owns_lt hown
                  by_cases hlt2 : q < kn
                  · obtain ⟨h0, h1, h2, h3⟩ := HP.out.below hbq hg4 q hlt2
                    rw [Nat.zero_add] at h0 h1 h2 h3
                    go_wp2_with (at_builtin; refine wpList_append_fits _ rfl _ _ 32 rfl w5.heap.size 35 i0 4 Trym.underlying32 hi hz1 w5.heap.size q (n + 1) _ rfl (hown.alloc _) ⟨wr.heap.size, 0, none⟩ 1 1 (L q).cells rfl rfl (cells_new wr (L q) _) (cells_one _) (by omega) ?_; intro w3 hown3 hgrow3)
                    go_roundw
                    case rel => exact ⟨q + 1, by omega, by go_num, rfl, by rw [cellsTo, whole_lt hlt2]; exact hown3, main_below hbq hgrow3⟩
                    case measure => simp [intOf]; omega
                  · obtain rfl : q = kn := by omega
                    have I6 : Hid (Inv w wr ⟨s0, s1, s2, s3⟩) := I5.out.next hbq
                    obtain ⟨l0, l1, l2, l3⟩ := I6.out.box
                    go_wp2_with (first | (go_at_call 11; refine (toLink_any _ _ _ _ _).mono ?_; rintro e w7 ⟨rfl, hb7⟩) | (at_builtin; refine wpList_append_fits _ rfl _ _ 32 rfl w5.heap.size 35 i0 4 Trym.underlying32 hi hz1 w5.heap.size q (n + 1) _ rfl ((ownsRow_below hown hb7 hsz).alloc _) ⟨w7.heap.size, 0, none⟩ 1 1 (Lk.cells ⟨s0, s1, s2, s3⟩) rfl rfl (cells_new w7 ⟨s0, s1, s2, s3⟩ _) (cells_one _) (by omega) ?_; intro w8 hown8 hgrow8))
                    have hb8 : Hid (Below w5.heap.size w5 w8) := conf_below hbq hb7 hgrow8
                    have HO : Hid (w8.ownsRow w5.heap.size 35 4 (.slice (some ⟨w5.heap.size, 0, none⟩) (q + 1) (n + 1)) (q + 1) (cellsTo (wholeL L q ⟨s0, s1, s2, s3⟩) (q + 1))) := by rw [cellsTo, whole_at]; exact hown8
                    clear hown8 hgrow8 hown hbq hb7 I6 l0 l1 l2 l3 hsz
                    go_loopw [11, 13] (fun v i wq => ∃ j m : Nat, j ≤ n - q ∧ i = .int .i64 j ∧ Hid (m = q + 1 + j) ∧ v = .slice (some ⟨w5.heap.size, 0, none⟩) m (n + 1) ∧ wq.ownsRow w5.heap.size 35 4 (.slice (some ⟨w5.heap.size, 0, none⟩) m (n + 1)) m (cellsTo (wholeL L q ⟨s0, s1, s2, s3⟩) m) ∧ Below w5.heap.size w5 wq) (fun _ i _ => n - q - (intOf i).toNat)
                    case atStart => exact ⟨0, q + 1, Nat.zero_le _, rfl, rfl, rfl, HO.out, hb8.out⟩
                    case round =>
                      clear HO hb8
                      obtain ⟨p, m, hp, rfl, hm, rfl, hown, hbq⟩ := hrel
                      have hsz := owns_lt hown
                      by_cases hlt3 : p < n - q
                      · obtain ⟨h0, h1, h2, h3⟩ := HS.out.below hbq hg5 p hlt3
                        rw [Nat.zero_add] at h0 h1 h2 h3
                        have hmn : m + 1 ≤ n + 1 := by have := hm.out; omega
                        go_wp2_with (at_builtin; refine wpList_append_fits _ rfl _ _ 32 rfl w5.heap.size 35 i0 4 Trym.underlying32 hi hz1 w5.heap.size m (n + 1) _ rfl (hown.alloc _) ⟨wr.heap.size, 0, none⟩ 1 1 (sufL L q p).cells rfl rfl (cells_new wr (sufL L q p) _) (cells_one _) hmn ?_; intro w3 hown3 hgrow3)
                        go_roundw
                        case rel => exact ⟨p + 1, m + 1, by omega, by go_num, by have := hm.out; unfold Hid; omega, rfl, by rw [cellsTo, hm.out, whole_gt, ← hm.out]; exact hown3, main_below hbq hgrow3⟩
                        case measure => simp [intOf]; omega
                      · have hmm : Hid (m = n + 1) := by have := hm.out; unfold Hid; omega
                        clear hm
                        have I6 : Hid (Inv w wr ⟨s0, s1, s2, s3⟩) := I5.out.next hbq
                        have HP9 : Hid (LinksAt wr g4 0 q L) := HP.out.below hbq hg4
                        have HS9 : Hid (LinksAt wr g5 0 (n - q) (sufL L q)) := HS.out.below hbq hg5
                        obtain ⟨W, hW⟩ : ∃ W, W = wholeL L q ⟨s0, s1, s2, s3⟩ := ⟨_, rfl⟩
                        rw [← hW] at hown
                        have HFW : Hid (Fine m W) := by rw [hW]; exact fine_whole HF.out hmm.out (by omega) hf0 hf1
                        have HE : Hid (∀ x, accV W m x = (accV (sufL L q) (n - q) x).or (if s3.toList.isEmpty = true ∧ s0 = x then some s1 else accV L q x)) := by rw [hW]; exact whole_eq hmm.out (by omega)
                        have HM : Hid ((∀ i, i < q → (L i).sid ∈ seenL W m) ∧ (∀ i, i < n - q → (sufL L q i).sid ∈ seenL W m)) := by rw [hW]; exact whole_mem hmm.out (by omega)
                        have HW : Hid (LinksAt wr w5.heap.size 0 m W) := linksAt_of_owns hown
                        have hm1 : m ≤ 1048577 := by have := hmm.out; omega
                        clear hW hown hmm
                        go_wp2_with fail
                        refine (acc_ex _ m W _ hm1 (.inr ⟨_, _, _, rfl, hsz, HW.out⟩) HFW.out).mono ?_
                        rintro e wA ⟨bA, rfl, hA, hbA, hzA⟩
                        have I7 : Hid (Inv w wA ⟨s0, s1, s2, s3⟩) := I6.out.next hbA
                        have HP10 : Hid (SliceOf wA (.slice (some ⟨g4, 0, none⟩) q q) q L) := SliceOf.below (w := wr) (.inr ⟨_, _, _, rfl, Nat.lt_of_lt_of_le hg4 hbq.size, HP9.out⟩) hbA
                        have HS10 : Hid (SliceOf wA (.slice (some ⟨g5, 0, none⟩) (n - q) (n - q)) (n - q) (sufL L q)) := SliceOf.below (w := wr) (.inr ⟨_, _, _, rfl, Nat.lt_of_lt_of_le hg5 hbq.size, HS9.out⟩) hbA
                        have HW10 : Hid (LinksAt wA w5.heap.size 0 m W) := HW.out.below hbA hsz
                        have hsA : w5.heap.size < wA.heap.size := Nat.lt_of_lt_of_le hsz hbA.size
                        have HA : Hid (wA.ownsMap Trym.prog 9 (plainElem Trym.prog 9) bA m (accD W m)) := hA
                        clear hbA hA I6 HW hsz
                        go_wp2_with fail
                        refine (acc_ex _ q L _ (by omega) HP10.out (fun i hi => HF.out i (by omega))).mono ?_
                        rintro e wP ⟨bP, rfl, hP, hbP, hzP⟩
                        have I8 : Hid (Inv w wP ⟨s0, s1, s2, s3⟩) := I7.out.next hbP
                        have HS11 : Hid (SliceOf wP (.slice (some ⟨g5, 0, none⟩) (n - q) (n - q)) (n - q) (sufL L q)) := HS10.out.below hbP
                        have HW11 : Hid (LinksAt wP w5.heap.size 0 m W) := HW10.out.below hbP hsA
                        have hsP : w5.heap.size < wP.heap.size := Nat.lt_of_lt_of_le hsA hbP.size
                        have HA11 : Hid (wP.ownsMap Trym.prog 9 (plainElem Trym.prog 9) bA m (accD W m)) := ownsMap_below HA.out hbP hzA
                        have hzA1 : bA < wP.heap.size := Nat.lt_of_lt_of_le hzA hbP.size
                        have HPm : Hid (wP.ownsMap Trym.prog 9 (plainElem Trym.prog 9) bP (q) (accD L q)) := hP
                        clear hbP hP I7 HP10 HS10 HW10 hsA HA hzA
                        have hmk := @run_makeMap Trym.prog
                        go_wp2_with fail
                        refine (acc_ex _ (n - q) (sufL L q) _ (by omega) HS11.out (fine_suf HF.out q)).mono ?_
                        rintro e wS ⟨bS, rfl, hS, hbS, hzS⟩
                        have I9 : Hid (Inv w wS ⟨s0, s1, s2, s3⟩) := I8.out.next hbS
                        have HW12 : Hid (LinksAt wS w5.heap.size 0 m W) := HW11.out.below hbS hsP
                        have hsS : w5.heap.size < wS.heap.size := Nat.lt_of_lt_of_le hsP hbS.size
                        have HA12 : Hid (wS.ownsMap Trym.prog 9 (plainElem Trym.prog 9) bA m (accD W m)) := ownsMap_below HA11.out hbS hzA1
                        have hzA2 : bA < wS.heap.size := Nat.lt_of_lt_of_le hzA1 hbS.size
                        have HP12 : Hid (wS.ownsMap Trym.prog 9 (plainElem Trym.prog 9) bP (q) (accD L q)) := ownsMap_below HPm.out hbS hzP
                        have hzP2 : bP < wS.heap.size := Nat.lt_of_lt_of_le hzP hbS.size
                        have HS12 : Hid (wS.ownsMap Trym.prog 9 (plainElem Trym.prog 9) bS (n - q) (accD (sufL L q) (n - q))) := hS
                        clear hbS hS I8 HS11 HW11 hsP HA11 hzA1 HPm hzP
                        go_wp2_with fail
                        clear hmk
                        go_loopw [18, 19, 20, 21] (fun a p s i wq => ∃ j : Nat, j ≤ m ∧ i = .int .i64 j ∧ a = .int .i64 (cnt W W m j) ∧ p = .int .i64 (cnt W L q j) ∧ s = .int .i64 (cnt W (sufL L q) (n - q) j) ∧ wq.ownsMap Trym.prog 9 (plainElem Trym.prog 4) wS.heap.size j (seenD W j) ∧ Below wS.heap.size wS wq) (fun _ _ _ i _ => m - (intOf i).toNat)
                        case atStart => exact ⟨0, Nat.zero_le _, rfl, rfl, rfl, rfl, World.ownsMap_made _ _ _ _, (Below.refl _ _).alloc (Nat.le_refl _) _⟩
                        case round =>
                          obtain ⟨d, hd, rfl, rfl, rfl, rfl, hown, hbd⟩ := hrel
                          by_cases hlt4 : d < m
                          · obtain ⟨hx0, -, -, -⟩ := HW12.out.below hbd hsS d hlt4
                            rw [Nat.zero_add] at hx0
                            have hxs := (HFW.out d hlt4).1
                            have hcA := cnt_le W W m d
                            have hcP := cnt_le W L q d
                            have hcS := cnt_le W (sufL L q) (n - q) d
                            obtain ⟨x, hx⟩ : ∃ x, x = (W d).sid := ⟨_, rfl⟩
                            have HX : Hid (x = (W d).sid) := hx
                            rw [← hx] at hx0 hxs
                            clear hx
                            have hsn := seenD_at W x d
                            cases hin : inB x (seenL W d) with
                            | true =>
                              rw [hin] at hsn
                              go_wp2_with (at_lookup; refine wpList_lookup_own_bool _ rfl _ _ 39 rfl 9 4 law Trym.underlying39 Trym.underlying4 (zero4 _) wS.heap.size d _ rfl hown _ _ rfl (WideMaps.keyOf_string_mk Trym.underlying9 hxs) true hsn ?_)
                              have hin' : inB (W d).sid (seenL W d) = true := by rw [← HX.out]; exact hin
                              go_roundw
                              case rel => exact ⟨d + 1, by omega, by go_num, by rw [cnt_seen hin'], by rw [cnt_seen hin'], by rw [cnt_seen hin'], by rw [seenD, if_pos hin']; exact hown.mono (by omega), hbd⟩
                              case measure => simp [intOf]; omega
                            | false =>
                              rw [hin] at hsn
                              have hin' : inB (W d).sid (seenL W d) = false := by rw [← HX.out]; exact hin
                              obtain ⟨okA, okP, okS, c1, c2, av, pv, sv, hokA, hvA, hokP, hvP, hokS, hvS, hc1, hc2, eA, eV, hkA, hkP, hkS⟩ := ways HE.out HX.out hin'
                              have HkA := hide' hkA
                              have HkP := hide' hkP
                              have HkS := hide' hkS
                              have HN : Hid (seenD W (d + 1) = (seenD W d).put (.string x.data.toList) (.lit (.bool true))) := by unfold Hid; rw [seenD, if_neg (by rw [hin']; exact Bool.false_ne_true), HX.out]; rfl
                              have HHA := hide' hokA
                              have HHP := hide' hokP
                              have HHS := hide' hokS
                              have HVA := hide' hvA
                              have HVP := hide' hvP
                              have HVS := hide' hvS
                              clear hkA hkP hkS hokA hokP hokS hvA hvP hvS hin
                              cases okS <;> cases okP <;> cases c1 <;> (try cases c2) <;> simp only [Bool.or_false, Bool.or_true, Bool.and_true, Bool.and_false, Bool.false_eq_true, if_true, if_false] at eA eV <;> subst eA <;> subst eV
                              all_goals
                                go_wp2_with (first | (at_lookup; refine wpList_lookup_own_bool _ rfl (.tmp 130) (.tmp 131) 39 rfl 9 4 law Trym.underlying39 Trym.underlying4 (zero4 _) wS.heap.size d _ rfl hown _ _ rfl (WideMaps.keyOf_string_mk Trym.underlying9 hxs) false hsn ?_) | (at_mapUpdate; refine wpList_mapUpdate_own _ rfl _ _ _ 39 rfl 9 4 law Trym.underlying39 _ wS.heap.size d _ rfl hown (by unfold maxLen; omega) _ _ _ rfl rfl (WideMaps.keyOf_string_mk Trym.underlying9 hxs) _ [] (plainElem_bool Trym.underlying4 true) ?_; intro w13 hown13 hgrow13; have hb13 := map_below hbd hgrow13; obtain ⟨l0, l1, l2, l3⟩ := (I9.out.next hb13).box; have hA13 := ownsMap_below HA12.out hb13 hzA2; have hP13 := ownsMap_below HP12.out hb13 hzP2; have hS13 := ownsMap_below HS12.out hb13 hzS) | (at_lookup; refine wpList_lookup_own_ok_string _ rfl (.tmp 136) (.tmp 137) 37 rfl 9 9 law Trym.underlying37 Trym.underlying9 (zero9 _) bA m _ rfl hA13 _ _ rfl (WideMaps.keyOf_string_mk Trym.underlying9 hxs) _ _ HHA.out HVA.out ?_) | (at_lookup; refine wpList_lookup_own_ok_string _ rfl (.tmp 142) (.tmp 143) 37 rfl 9 9 law Trym.underlying37 Trym.underlying9 (zero9 _) bP _ _ rfl hP13 _ _ rfl (WideMaps.keyOf_string_mk Trym.underlying9 hxs) _ _ HHP.out HVP.out ?_) | (at_lookup; refine wpList_lookup_own_ok_string _ rfl (.tmp 148) (.tmp 149) 37 rfl 9 9 law Trym.underlying37 Trym.underlying9 (zero9 _) bS _ _ rfl hS13 _ _ rfl (WideMaps.keyOf_string_mk Trym.underlying9 hxs) _ _ HHS.out HVS.out ?_))
                                go_roundw
                                case rel => exact ⟨d + 1, by omega, by go_num, by first | exact int_succ HkA.out | exact int_same HkA.out, by first | exact int_succ HkP.out | exact int_same HkP.out, by first | exact int_succ HkS.out | exact int_same HkS.out, by rw [HN.out]; exact hown13, hb13⟩
                                case measure => simp [intOf]; omega
                          · obtain rfl : d = m := by omega
                            have hlA := fun ty => len_cnt W W d d wr bA (ownsMap_below HA12.out hbd hzA2) (fun i hi => seenL_mem W i d hi) ty
                            have hlP := fun ty => len_cnt W L (q) d wr bP (ownsMap_below HP12.out hbd hzP2) HM.out.1 ty
                            have hlS := fun ty => len_cnt W (sufL L q) (n - q) d wr bS (ownsMap_below HS12.out hbd hzS) HM.out.2 ty
                            go_wp2_with fail
                            go_ret
                            exact ⟨rfl, (I9.out.next hbd).below⟩
end Go.Proofs.Qxb6619317aMods.Na
