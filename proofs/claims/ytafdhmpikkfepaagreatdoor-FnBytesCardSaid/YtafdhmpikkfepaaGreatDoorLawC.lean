import Derived.Test.YtafdhmpikkfepaaGreatDoorBy
namespace Go.Proofs.YtafdhmpikkfepaaGreatDoor
open Go.RowKit Go.Sort

theorem own_weaken {w : World} {base base' e size n : Nat} {v : Value} {xs : List Value} (h : w.ownsRow base' e size v n xs) (hb : base ≤ base') : w.ownsRow base e size v n xs := by
  obtain ⟨h0, h1⟩ := h
  refine ⟨h0, ?_⟩
  rcases h1 with h1 | ⟨g, cap, cur, h1, h2, h3⟩
  · exact .inl h1
  · exact .inr ⟨g, cap, cur, h1, Nat.le_trans hb h2, h3⟩

theorem textArgs1b (a : ByteArray) (o : Obj) (w : World) :
    Calls Tryz.prog 15 #[.slice (some ⟨w.heap.size, 0, none⟩) 1 1] ((w.alloc (.cells #[.string a] 9)).alloc o) fun e w' =>
      ∃ g cap, e = .returned (.slice (some ⟨g, 0, none⟩) 1 cap) ∧ w'.ownsRow (w.heap.size + 1) 26 4 (.slice (some ⟨g, 0, none⟩) 1 cap) 1 (rowOf ([a].map tArg)) ∧ Below w.heap.size w w' ∧ w'.heap[w.heap.size + 1]? = some o := by
  have hB : (w.alloc (.cells #[.string a] 9)).heap[w.heap.size]? = some (.cells #[.string a] 9) := heap_alloc_new w _
  have hO : ((w.alloc (.cells #[.string a] 9)).alloc o).heap[w.heap.size + 1]? = some o := by
    have := heap_alloc_new (w.alloc (.cells #[.string a] 9)) o
    rwa [hsz_alloc] at this
  refine (textArgs_any w.heap.size 1 [a] ((w.alloc (.cells #[.string a] 9)).alloc o) (by show 1 ≤ _; omega) (by simp; omega) ?_).mono ?_
  · intro k hk
    match k, hk with
    | 0, _ => exact cell_at (keep_al hB o) 0
    | k + 1, hk => exact absurd hk (by simp)
  · rintro e w1 ⟨v, he, hown, hb1⟩
    obtain ⟨g, cap, hv, -, -⟩ := hown.form (by show 0 < 1; omega)
    subst hv
    exact ⟨g, cap, he, own_weaken hown (by rw [hsz_alloc, hsz_alloc]; omega), btr (bal (bal (Below.refl _ _) _) _) hb1, keep_blk hb1 hO⟩

theorem textArgs1c (a : ByteArray) (o : Obj) (w : World) :
    Calls Tryz.prog 15 #[.slice (some ⟨w.heap.size + 1, 0, none⟩) 1 1] ((w.alloc o).alloc (.cells #[.string a] 9)) fun e w' =>
      ∃ g cap, e = .returned (.slice (some ⟨g, 0, none⟩) 1 cap) ∧ w'.ownsRow (w.heap.size + 1) 26 4 (.slice (some ⟨g, 0, none⟩) 1 cap) 1 (rowOf ([a].map tArg)) ∧ Below w.heap.size w w' ∧ w'.heap[w.heap.size]? = some o := by
  have hB : ((w.alloc o).alloc (.cells #[.string a] 9)).heap[w.heap.size + 1]? = some (.cells #[.string a] 9) := by
    have := heap_alloc_new (w.alloc o) (.cells #[.string a] 9)
    rwa [hsz_alloc] at this
  refine (textArgs_any (w.heap.size + 1) 1 [a] ((w.alloc o).alloc (.cells #[.string a] 9)) (by show 1 ≤ _; omega) (by simp) ?_).mono ?_
  · intro k hk
    match k, hk with
    | 0, _ => exact cell_at hB 0
    | k + 1, hk => exact absurd hk (by simp)
  · rintro e w1 ⟨v, he, hown, hb1⟩
    obtain ⟨g, cap, hv, -, -⟩ := hown.form (by show 0 < 1; omega)
    subst hv
    exact ⟨g, cap, he, own_weaken hown (by rw [hsz_alloc, hsz_alloc]; omega), btr (bal (bal (Below.refl _ _) _) _) hb1, keep_blk hb1 (keep_al (heap_alloc_new w o) _)⟩

section
attribute [local go_sem] run_store_flt

set_option maxRecDepth 100000 in
set_option maxHeartbeats 4000000 in
theorem law5_in (s : ByteArray) (f n : Nat) (w : World) (hs : s.size ≤ 500) (f0 : 1 ≤ f) (f1 : f ≤ 1000) (hn : n ≤ 1000) :
    Calls Tryz.prog 5 #[.string s, .int .i64 f, .int .i64 n] w fun e w' => e = .returned (.bool true) ∧ Below w.heap.size w w' := by
  go_enter Tryz.func5, Tryz.ntmps5
  go_wp2_with fail
  refine (ascii_any s _ (by omega)).mono ?_
  rintro e w1 ⟨⟨r, rfl, hr⟩, rfl⟩
  have HRr := Lib.hid hr
  clear hr
  cases r
  · go_wp2_with fail
    refine (lives_any _).mono ?_
    rintro e w2 ⟨rfl, hb2⟩
    go_wp2_with fail
    go_ret
    exact ⟨rfl, hb2⟩
  have HP : Hid (Plain s) := Lib.hid (fun i hi => by have := HRr.out rfl i hi; omega)
  clear HRr
  go_upto_if 45 with (fail)
  go_cut [7, 8] (fun l r wx => l = .string (leftOf s n) ∧ r = .string (rightOf s n) ∧ Below w.heap.size w wx)
  case first =>
    by_cases hlt : n < s.size
    · have x1 : IntKind.i64.wrap ((s.size : Int) - (n : Int)) = (s.size : Int) - (n : Int) := by rw [IntKind.wrap_i64]; omega
      have x2 : (0 : Int) ≤ (s.size : Int) - (n : Int) := by omega
      have x3 : (s.size : Int) - (n : Int) ≤ (s.size : Int) := by omega
      have x4 : ((s.size : Int) - (n : Int)).toNat = s.size - n := by omega
      have x5 : (n : Int) ≤ (s.size : Int) := by omega
      have x6 : (0 : Int) ≤ (n : Int) := by omega
      have y1 : leftOf s n = s.extract 0 n := by unfold leftOf; rw [if_pos hlt]
      have y2 : rightOf s n = s.extract (s.size - n) s.size := by unfold rightOf; rw [if_pos hlt]
      have Y := Lib.hid (And.intro y1 y2)
      clear y1 y2
      go_wp2_with fail
      go_quiet (fail)
      go_wp2_with fail
      go_meet
      exact ⟨congrArg Value.string Y.out.1.symm, congrArg Value.string Y.out.2.symm, bdrewN (Below.refl _ _) _⟩
    · have y1 : leftOf s n = s := by unfold leftOf; rw [if_neg hlt]
      have y2 : rightOf s n = s := by unfold rightOf; rw [if_neg hlt]
      have Y := Lib.hid (And.intro y1 y2)
      clear y1 y2
      go_wp2_with fail
      go_meet
      exact ⟨congrArg Value.string Y.out.1.symm, congrArg Value.string Y.out.2.symm, Below.refl _ _⟩
  case rest =>
    obtain ⟨rfl, rfl, hb1⟩ := hcut
    go_upto_if 58 with (fail)
    go_cut [9] (fun q wx => q = .string (s.extract (f - 1) (f - 1 + n)) ∧ Below w.heap.size w wx)
    case first =>
      by_cases hlt : f ≤ s.size
      · have x1 : IntKind.i64.wrap ((f : Int) - 1) = (f : Int) - 1 := by rw [IntKind.wrap_i64]; omega
        have x2 : ((f : Int) - 1).toNat = f - 1 := by omega
        have x3 : (0 : Int) ≤ (f : Int) - 1 := by omega
        have x4 : (f : Int) - 1 ≤ (s.size : Int) := by omega
        have hz : (s.extract (f - 1) s.size).size = s.size - (f - 1) := by rw [ByteArray.size_extract]; omega
        have hzi : (((s.extract (f - 1) s.size).size : Nat) : Int) = (s.size : Int) - (f : Int) + 1 := by omega
        by_cases h2 : n < s.size - (f - 1)
        · have Y := Lib.hid (ext_ext s (f - 1) n (by omega))
          go_wp2_with fail
          go_meet
          exact ⟨congrArg Value.string Y.out, hb1⟩
        · have Y := Lib.hid (ext_over s (f - 1) n (by omega))
          go_wp2_with fail
          go_meet
          exact ⟨congrArg Value.string Y.out, hb1⟩
      · have Y := Lib.hid (ext_past s (f - 1) n (by omega))
        go_wp2_with fail
        go_meet
        exact ⟨congrArg Value.string Y.out, hb1⟩
    case rest =>
      obtain ⟨rfl, hb2⟩ := hcut
      go_wp2_with fail
      refine (int_any (n : Int) _ (by omega) (by omega)).mono ?_
      rintro e w3 ⟨rfl, hb3⟩
      have B3 := btr hb2 hb3
      go_wp2_with fail
      refine (of_num n _ (by omega)).mono ?_
      rintro e w4 ⟨rfl, hb4⟩
      have B4 := btr B3 hb4
      go_wp2_with fail
      have h10 := heap_alloc_new w4 (vBox 1 (fl n) ⟨#[]⟩)
      have m0 := heap_lt h10
      have a0 := cell_at h10 0
      have a1 := cell_at h10 1
      have a2 := cell_at h10 2
      have a3 := cell_at h10 3
      have BV := bal B4 (vBox 1 (fl n) ⟨#[]⟩)
      obtain ⟨V, hV⟩ : ∃ V, w4.alloc (vBox 1 (fl n) ⟨#[]⟩) = V := ⟨_, rfl⟩
      rw [hV] at a0 a1 a2 a3 m0 BV ⊢
      clear h10 hV
      have S0 : Hid (C4 w4.heap.size (fl n) V) := ⟨a0, a1, a2, a3⟩
      clear a0 a1 a2 a3
      obtain ⟨i0, hi, hz0, hz1, hz2⟩ := info_parts Tryz.info26
      obtain ⟨T, hT⟩ : ∃ T, s.extract (f - 1) (f - 1 + n) = T := ⟨_, rfl⟩
      obtain ⟨L, hL⟩ : ∃ L, leftOf s n = L := ⟨_, rfl⟩
      obtain ⟨R, hR⟩ : ∃ R, rightOf s n = R := ⟨_, rfl⟩
      rw [hT, hL, hR]
      have HT := Lib.hid hT
      have HL := Lib.hid hL
      have HR := Lib.hid hR
      clear hT hL hR
      go_cut [11] (fun q wx => q = .bool true ∧ Below V.heap.size V wx)
      case first =>
        have x1 : IntKind.i64.wrap ((f : Int) + (n : Int)) = (f : Int) + (n : Int) := by rw [IntKind.wrap_i64]; omega
        have x2 : IntKind.i64.wrap ((f : Int) + (n : Int) - 2) = (f : Int) + (n : Int) - 2 := by rw [IntKind.wrap_i64]; omega
        by_cases hfe : (f : Int) + (n : Int) - 2 = (s.size : Int)
        · have hq : (((f : Int) + (n : Int) - 2) == (s.size : Int)) = true := by rw [hfe]; exact beq_self_eq_true _
          clear hfe
          go_quiet (fail)
          clear x1 x2 hq
          go_wp2_with fail
          go_meet
          exact ⟨rfl, bdrewN (Below.refl _ _) _⟩
        · have hq : (((f : Int) + (n : Int) - 2) == (s.size : Int)) = false := beq_eq_false_iff_ne.2 hfe
          clear hfe
          go_region_held3 (fun W => W.cell? ⟨w4.heap.size, 0, none⟩ = some (.int .i64 1) ∧ W.cell? ⟨w4.heap.size, 1, none⟩ = some (.float .f64 (fl n)) ∧ W.cell? ⟨w4.heap.size, 2, none⟩ = some (.string ⟨#[]⟩) ∧ W.cell? ⟨w4.heap.size, 3, none⟩ = some (.slice none 0 0))
            (first
              | exact S0.out
              | exact SA.out
              | exact SB.out
              | exact SC.out
              | exact SD.out
              | exact SE.out
              | exact SF.out
              | exact SG.out
              | exact keep4 (bal (Below.refl _ wC) _) mC SC.out
              | exact keep4 (bal (Below.refl _ V).drew _) m0 S0.out)
            (first
              | (go_at_call 15; refine (textArgs1 s V.drew).mono ?_; rintro e wA ⟨g1, cap1, rfl, hown1, hbA'⟩
                 have hbA : Below V.heap.size V wA := below_ofdrew hbA'
                 have HO1 := Lib.hid hown1
                 clear hown1
                 have SA := Lib.hid (keep4 hbA m0 S0.out)
                 have mA := Nat.lt_of_lt_of_le m0 hbA.size)
              | (go_at_call 16; refine (int_any (f : Int) _ (by omega) (by omega)).mono ?_; rintro e wB ⟨rfl, hbB⟩
                 have SB := Lib.hid (keep4 hbB mA SA.out)
                 have mB := Nat.lt_of_lt_of_le mA hbB.size)
              | (go_at_call 18; refine (of_num_z f _ _ (by omega) rfl).mono ?_; rintro e wC ⟨rfl, hbC⟩
                 have BC : Below V.drew.heap.size V.drew wC := btr (btr hbA' hbB) hbC
                 have HO2 := Lib.hid (own_below (own_below HO1.out hbB) hbC)
                 have SC := Lib.hid (keep4 hbC mB SB.out)
                 have mC := Nat.lt_of_lt_of_le mB hbC.size)
              | (refine step_append_g (by rfl) _ _ 28 (by rfl) (V.drew.heap.size + 1) 26 i0 _ 4 56 Tryz.underlying28 hi hz0 hz1 hz2 rfl (by omega) _ 1 _ (by rfl) (HO2.out.alloc _)
                   ⟨wC.heap.size, 0, none⟩ 2 2 (vCells (1, fl f, ⟨#[]⟩) ++ vCells (1, fl n, ⟨#[]⟩)) (by rfl) (by rfl) (World.news_of_block (heap_alloc_new wC _)) (one_v2 _ _) (by omega) (by decide) (by decide) (by rw [hsz_alloc]; have := BC.size; omega) _ rfl ?_
                 intro g2 cap2 wD hownwD hgwD _ _
                 have HOwD := Lib.hid hownwD
                 have hbwD : Below V.drew.heap.size V.drew wD := grown_below (bal BC _) (HO2.out.alloc _) hgwD (Nat.le_succ _)
                 clear hownwD hgwD
                 have SD := Lib.hid (keep4 hbwD m0 S0.out)
                 have mD := Nat.lt_of_lt_of_le m0 hbwD.size)
              | (go_at_call 20; refine (midbOf_any g2 cap2 _ f n s _ f0 f1 hn (by omega) HP.out HOwD.out).mono ?_; rintro e wE ⟨rfl, hbE⟩
                 have SE := Lib.hid (keep4 hbE mD SD.out)
                 have mE := Nat.lt_of_lt_of_le mD hbE.size)
              | (go_at_call 9; refine (str_any T _).mono ?_; rintro e wF ⟨rfl, hbF⟩
                 have SF := Lib.hid (keep4 hbF mE SE.out)
                 have mF := Nat.lt_of_lt_of_le mE hbF.size)
              | (go_at_call 6; (try rw [HT.out]); refine (same_str T _).mono ?_; rintro e wG ⟨rfl, hbG⟩
                 have SG := Lib.hid (keep4 hbG mF SF.out)))
          clear x1 x2 hq
          go_wp2_with fail
          go_meet
          exact ⟨rfl, btr (btr (btr (below_ofdrew hbwD) hbE) hbF) hbG⟩
      case rest =>
        obtain ⟨rfl, hbV⟩ := hcut
        have S1 : Hid (C4 w4.heap.size (fl n) wc) := Lib.hid (keep4 hbV m0 S0.out)
        have m1 := Nat.lt_of_lt_of_le m0 hbV.size
        have BW := btr BV hbV
        clear S0 m0 BV hbV
        have S0 := S1
        have m0 := m1
        clear S1 m1
        obtain ⟨V, hV⟩ : ∃ V, wc = V := ⟨_, rfl⟩
        rw [hV] at S0 m0 BW ⊢
        clear hV
        go_wp2_with fail
        go_region_held3 (fun W => W.cell? ⟨w4.heap.size, 0, none⟩ = some (.int .i64 1) ∧ W.cell? ⟨w4.heap.size, 1, none⟩ = some (.float .f64 (fl n)) ∧ W.cell? ⟨w4.heap.size, 2, none⟩ = some (.string ⟨#[]⟩) ∧ W.cell? ⟨w4.heap.size, 3, none⟩ = some (.slice none 0 0))
          (first
            | exact S0.out
            | exact SA.out
            | exact SB.out
            | exact SC.out
            | exact SD.out
            | exact SE.out
            | exact SF.out
            | exact SG.out
            | exact SH.out
            | exact SI.out
            | exact SJ.out
            | exact SK.out
            | exact SL.out
            | exact SM.out
            | exact SN.out
            | exact SO.out
            | exact keep4 (bal (Below.refl _ wD) _) mD SD.out
            | exact keep4 (bal (Below.refl _ wE) _) mE SE.out
            | exact keep4 (bal (Below.refl _ wI) _) mI SI.out
            | exact keep4 (bal (Below.refl _ wJ) _) mJ SJ.out
            | exact keep4 (bal (bal (Below.refl _ wD) _) _) mD SD.out
            | exact keep4 (bal (bal (Below.refl _ wI) _) _) mI SI.out
            | exact keep4 (bal (Below.refl _ V).drew _) m0 S0.out)
          (first
            | (go_at_call 13; refine (lives_any _).mono ?_; rintro e wO ⟨rfl, hbO⟩
               have SO := Lib.hid (keep4 hbO mN SN.out))
            | (go_at_call 6; have _ := SM; refine (same_str R _).mono ?_; rintro e wN ⟨rfl, hbN⟩
               have SN := Lib.hid (keep4 hbN mM SM.out)
               have mN := Nat.lt_of_lt_of_le mM hbN.size)
            | (go_at_call 9; have _ := SL; refine (str_any R _).mono ?_; rintro e wM ⟨rfl, hbM⟩
               have SM := Lib.hid (keep4 hbM mL SL.out)
               have mM := Nat.lt_of_lt_of_le mL hbM.size)
            | (go_at_call 23; refine (rightbOf_any g5 cap5 _ n s _ hn (by omega) HP.out HOwK.out).mono ?_; rintro e wL ⟨rfl, hbL⟩
               rw [HR.out]
               have SL := Lib.hid (keep4 hbL mK SK.out)
               have mL := Nat.lt_of_lt_of_le mK hbL.size)
            | (have _ := HKbJ; refine step_append_g (by rfl) _ _ 28 (by rfl) (wI.heap.size + 1) 26 i0 _ 4 56 Tryz.underlying28 hi hz0 hz1 hz2 rfl (by omega) _ 1 _ (by rfl) HO4.out
                 ⟨wI.heap.size + 1, 0, none⟩ 1 1 (vCells (1, fl n, ⟨#[]⟩)) (by rfl) (by rfl) (World.news_of_block HKbJ.out) (one_v1 _) (by omega) (by decide) (by decide) (by have := heap_lt HKbJ.out; omega) _ rfl ?_
               intro g5 cap5 wK hownwK hgwK _ _
               have HOwK := Lib.hid hownwK
               have hbwK : Below wI.heap.size wI wK := grown_below hbJ HO4.out hgwK (Nat.le_succ _)
               clear hownwK hgwK
               have SK := Lib.hid (keep4 hbwK mI SI.out)
               have mK := Nat.lt_of_lt_of_le mI hbwK.size)
            | (have _ := HKcJ; refine step_append_g (by rfl) _ _ 28 (by rfl) (wI.heap.size + 1) 26 i0 _ 4 56 Tryz.underlying28 hi hz0 hz1 hz2 rfl (by omega) _ 1 _ (by rfl) HO4.out
                 ⟨wI.heap.size, 0, none⟩ 1 1 (vCells (1, fl n, ⟨#[]⟩)) (by rfl) (by rfl) (World.news_of_block HKcJ.out) (one_v1 _) (by omega) (by decide) (by decide) (by have := heap_lt HKcJ.out; omega) _ rfl ?_
               intro g5 cap5 wK hownwK hgwK _ _
               have HOwK := Lib.hid hownwK
               have hbwK : Below wI.heap.size wI wK := grown_below hbJ HO4.out hgwK (Nat.le_succ _)
               clear hownwK hgwK
               have SK := Lib.hid (keep4 hbwK mI SI.out)
               have mK := Nat.lt_of_lt_of_le mI hbwK.size)
            | (refine step_append_g (by rfl) _ _ 28 (by rfl) (wI.heap.size + 1) 26 i0 _ 4 56 Tryz.underlying28 hi hz0 hz1 hz2 rfl (by omega) _ 1 _ (by rfl) (HO4.out.alloc _)
                 ⟨wJ.heap.size, 0, none⟩ 1 1 (vCells (1, fl n, ⟨#[]⟩)) (by rfl) (by rfl) (World.news_of_block (heap_alloc_new wJ _)) (one_v1 _) (by omega) (by decide) (by decide) (by rw [hsz_alloc]; have := hbJ.size; omega) _ rfl ?_
               intro g5 cap5 wK hownwK hgwK _ _
               have HOwK := Lib.hid hownwK
               have hbwK : Below wI.heap.size wI wK := grown_below (bal hbJ _) (HO4.out.alloc _) hgwK (Nat.le_succ _)
               clear hownwK hgwK
               have SK := Lib.hid (keep4 hbwK mI SI.out)
               have mK := Nat.lt_of_lt_of_le mI hbwK.size)
            | (go_at_call 15; have _ := SI; with_reducible refine (textArgs1 s wI).mono ?_; rintro e wJ ⟨g4, cap4, rfl, hown4, hbJ⟩
               have HO4 := Lib.hid hown4
               clear hown4
               have SJ := Lib.hid (keep4 hbJ mI SI.out)
               have mJ := Nat.lt_of_lt_of_le mI hbJ.size)
            | (go_at_call 15; have _ := SI; with_reducible refine (textArgs1b s _ wI).mono ?_; rintro e wJ ⟨g4, cap4, rfl, hown4, hbJ, hkbJ⟩
               have HO4 := Lib.hid hown4
               have HKbJ := Lib.hid hkbJ
               clear hown4 hkbJ
               have SJ := Lib.hid (keep4 hbJ mI SI.out)
               have mJ := Nat.lt_of_lt_of_le mI hbJ.size)
            | (go_at_call 15; have _ := SI; with_reducible refine (textArgs1c s _ wI).mono ?_; rintro e wJ ⟨g4, cap4, rfl, hown4, hbJ, hkcJ⟩
               have HO4 := Lib.hid hown4
               have HKcJ := Lib.hid hkcJ
               clear hown4 hkcJ
               have SJ := Lib.hid (keep4 hbJ mI SI.out)
               have mJ := Nat.lt_of_lt_of_le mI hbJ.size)
            | (go_at_call 6; have _ := SH; refine (same_str L _).mono ?_; rintro e wI ⟨rfl, hbI⟩
               have SI := Lib.hid (keep4 hbI mH SH.out)
               have mI := Nat.lt_of_lt_of_le mH hbI.size)
            | (go_at_call 9; have _ := SG; refine (str_any L _).mono ?_; rintro e wH ⟨rfl, hbH⟩
               have SH := Lib.hid (keep4 hbH mG SG.out)
               have mH := Nat.lt_of_lt_of_le mG hbH.size)
            | (go_at_call 22; refine (leftbOf_any g3 cap3 _ n s _ hn (by omega) HP.out HOwF.out).mono ?_; rintro e wG ⟨rfl, hbG⟩
               rw [HL.out]
               have SG := Lib.hid (keep4 hbG mF SF.out)
               have mG := Nat.lt_of_lt_of_le mF hbG.size)
            | (have _ := HKbE; refine step_append_g (by rfl) _ _ 28 (by rfl) (wD.heap.size + 1) 26 i0 _ 4 56 Tryz.underlying28 hi hz0 hz1 hz2 rfl (by omega) _ 1 _ (by rfl) HO2.out
                 ⟨wD.heap.size + 1, 0, none⟩ 1 1 (vCells (1, fl n, ⟨#[]⟩)) (by rfl) (by rfl) (World.news_of_block HKbE.out) (one_v1 _) (by omega) (by decide) (by decide) (by have := heap_lt HKbE.out; omega) _ rfl ?_
               intro g3 cap3 wF hownwF hgwF _ _
               have HOwF := Lib.hid hownwF
               have hbwF : Below wD.heap.size wD wF := grown_below hbE HO2.out hgwF (Nat.le_succ _)
               clear hownwF hgwF
               have SF := Lib.hid (keep4 hbwF mD SD.out)
               have mF := Nat.lt_of_lt_of_le mD hbwF.size)
            | (have _ := HKcE; refine step_append_g (by rfl) _ _ 28 (by rfl) (wD.heap.size + 1) 26 i0 _ 4 56 Tryz.underlying28 hi hz0 hz1 hz2 rfl (by omega) _ 1 _ (by rfl) HO2.out
                 ⟨wD.heap.size, 0, none⟩ 1 1 (vCells (1, fl n, ⟨#[]⟩)) (by rfl) (by rfl) (World.news_of_block HKcE.out) (one_v1 _) (by omega) (by decide) (by decide) (by have := heap_lt HKcE.out; omega) _ rfl ?_
               intro g3 cap3 wF hownwF hgwF _ _
               have HOwF := Lib.hid hownwF
               have hbwF : Below wD.heap.size wD wF := grown_below hbE HO2.out hgwF (Nat.le_succ _)
               clear hownwF hgwF
               have SF := Lib.hid (keep4 hbwF mD SD.out)
               have mF := Nat.lt_of_lt_of_le mD hbwF.size)
            | (refine step_append_g (by rfl) _ _ 28 (by rfl) (wD.heap.size + 1) 26 i0 _ 4 56 Tryz.underlying28 hi hz0 hz1 hz2 rfl (by omega) _ 1 _ (by rfl) (HO2.out.alloc _)
                 ⟨wE.heap.size, 0, none⟩ 1 1 (vCells (1, fl n, ⟨#[]⟩)) (by rfl) (by rfl) (World.news_of_block (heap_alloc_new wE _)) (one_v1 _) (by omega) (by decide) (by decide) (by rw [hsz_alloc]; have := hbE.size; omega) _ rfl ?_
               intro g3 cap3 wF hownwF hgwF _ _
               have HOwF := Lib.hid hownwF
               have hbwF : Below wD.heap.size wD wF := grown_below (bal hbE _) (HO2.out.alloc _) hgwF (Nat.le_succ _)
               clear hownwF hgwF
               have SF := Lib.hid (keep4 hbwF mD SD.out)
               have mF := Nat.lt_of_lt_of_le mD hbwF.size)
            | (go_at_call 15; have _ := SD; with_reducible refine (textArgs1 s wD).mono ?_; rintro e wE ⟨g2, cap2, rfl, hown2, hbE⟩
               have HO2 := Lib.hid hown2
               clear hown2
               have SE := Lib.hid (keep4 hbE mD SD.out)
               have mE := Nat.lt_of_lt_of_le mD hbE.size)
            | (go_at_call 15; have _ := SD; with_reducible refine (textArgs1b s _ wD).mono ?_; rintro e wE ⟨g2, cap2, rfl, hown2, hbE, hkbE⟩
               have HO2 := Lib.hid hown2
               have HKbE := Lib.hid hkbE
               clear hown2 hkbE
               have SE := Lib.hid (keep4 hbE mD SD.out)
               have mE := Nat.lt_of_lt_of_le mD hbE.size)
            | (go_at_call 15; have _ := SD; with_reducible refine (textArgs1c s _ wD).mono ?_; rintro e wE ⟨g2, cap2, rfl, hown2, hbE, hkcE⟩
               have HO2 := Lib.hid hown2
               have HKcE := Lib.hid hkcE
               clear hown2 hkcE
               have SE := Lib.hid (keep4 hbE mD SD.out)
               have mE := Nat.lt_of_lt_of_le mD hbE.size)
            | (go_at_call 6; have _ := SC; refine (same_num s.size _ (by omega)).mono ?_; rintro e wD ⟨rfl, hbD⟩
               have SD := Lib.hid (keep4 hbD mC SC.out)
               have mD := Nat.lt_of_lt_of_le mC hbD.size)
            | (go_at_call 16; refine (int_any (s.size : Int) _ (by omega) (by omega)).mono ?_; rintro e wC ⟨rfl, hbC⟩
               have SC := Lib.hid (keep4 hbC mB SB.out)
               have mC := Nat.lt_of_lt_of_le mB hbC.size)
            | (go_at_call 21; refine (lenbOf_any g1 cap1 _ s _ (by omega) HP.out HO1.out).mono ?_; rintro e wB ⟨rfl, hbB⟩
               have SB := Lib.hid (keep4 hbB mA SA.out)
               have mB := Nat.lt_of_lt_of_le mA hbB.size)
            | (go_at_call 15; refine (textArgs1 s V.drew).mono ?_; rintro e wA ⟨g1, cap1, rfl, hown1, hbA'⟩
               have hbA : Below V.heap.size V wA := below_ofdrew hbA'
               have HO1 := Lib.hid hown1
               clear hown1
               have SA := Lib.hid (keep4 hbA m0 S0.out)
               have mA := Nat.lt_of_lt_of_le m0 hbA.size))
        all_goals
          go_wp2_with fail
          go_ret
          exact ⟨rfl, btr (btr (btr (btr (btr (btr (btr (btr (btr (btr (btr (btr (btr BW hbA) hbB) hbC) hbD) hbwF) hbG) hbH) hbI) hbwK) hbL) hbM) hbN) hbO⟩

theorem law5_any (s : ByteArray) (a b : Int) (w : World) :
    Calls Tryz.prog 5 #[.string s, .int .i64 a, .int .i64 b] w fun e w' => e = .returned (.bool true) ∧ Below w.heap.size w w' := by
  by_cases h0 : 2147483647 < s.size
  · exact law5_big s a b w h0
  · by_cases h : 500 < s.size ∨ a < 1 ∨ 1000 < a ∨ b < 0 ∨ 1000 < b
    · exact law5_out s a b w (by omega) h
    · obtain ⟨f, rfl⟩ := Int.eq_ofNat_of_zero_le (show 0 ≤ a by omega)
      obtain ⟨n, rfl⟩ := Int.eq_ofNat_of_zero_le (show 0 ≤ b by omega)
      exact law5_in s f n w (by omega) (by omega) (by omega) (by omega)
end

end Go.Proofs.YtafdhmpikkfepaaGreatDoor
