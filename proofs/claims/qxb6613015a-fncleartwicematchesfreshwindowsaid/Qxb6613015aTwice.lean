/-
  Seat b6613015a: the walk of FnClearTwiceMatchesFreshWindow.
-/
import Derived.Test.Qxb6613015aBkOpen
namespace Go.Proofs.Qxb6613015a
open Go.RowKit

theorem rdy_y : rdy 70866960384 = true := by decide +kernel
theorem rdy_n : rdy 68719476736 = false := by decide +kernel

set_option maxRecDepth 100000 in
set_option maxHeartbeats 1000000 in
theorem twice_walk (a : Option Addr) (len cap : Nat) (Z : Nat → Int) (m wd : Int) (w : World) (hA : IsBk w a len Z) :
    Calls Try.prog 6 #[.slice a len cap, .int .i64 m, .int .i64 wd] w fun e w' => e = .returned (.bool true) ∧ Below w.heap.size w w' := by
  by_cases hl1 : 1048576 < len
  · go_enter Try.func6, Try.ntmps6
    go_wp2_with fail
    refine (zzBytes6_no a len cap m wd w hl1).mono ?_
    rintro e w' ⟨rfl, rfl⟩
    go_wp2
    go_ret
    exact ⟨rfl, Below.refl _ _⟩
  by_cases hl2 : 4096 < len
  · go_enter Try.func6, Try.ntmps6
    go_wp2_with fail
    refine (zzBytes6_yes a len cap m wd w (by omega)).mono ?_
    rintro e w' ⟨rfl, rfl⟩
    go_wp2
    go_ret
    exact ⟨rfl, Below.refl _ _⟩
  go_enter Try.func6, Try.ntmps6
  go_wp2_with fail
  refine (zzBytes6_yes a len cap m wd w (by omega)).mono ?_
  rintro e w ⟨rfl, rfl⟩
  go_wp2_with fail
  go_loopw [7] (fun i wr => ∃ k : Nat, k ≤ len ∧ i = .int .i64 k ∧ Below w.heap.size w wr) (fun i _ => len - (intOf i).toNat)
  case atStart => exact ⟨0, by omega, rfl, Below.refl _ _⟩
  case round =>
    obtain ⟨k, hk, rfl, hbel⟩ := hrel
    by_cases hlt : k < len
    · obtain ⟨ab, ao, ha, hab, hc⟩ := hA (by omega)
      have c0 := (hbel.cell (p := ⟨ab, ao + k * 3, none⟩) hab).trans (hc (k * 3) (by omega))
      have c1 := (hbel.cell (p := ⟨ab, ao + k * 3 + 1, none⟩) hab).trans (hc (k * 3 + 1) (by omega))
      have c2 := (hbel.cell (p := ⟨ab, ao + k * 3 + 2, none⟩) hab).trans (hc (k * 3 + 2) (by omega))
      subst ha
      clear hc hA
      go_wp2_with fail
      refine (bucketOK_any _ _ _ _).mono ?_
      rintro e w2 ⟨⟨r, rfl⟩, hb2⟩
      have hbel2 := hbel.trans (hb2.mono hbel.size)
      clear c0 c1 c2 hbel hb2
      cases r
      · go_wp2
        go_ret
        exact ⟨rfl, hbel2⟩
      · go_wp2
        go_roundw
        case rel => exact ⟨k + 1, by omega, by go_num, hbel2⟩
        case measure => simp [intOf]; omega
    · obtain rfl : k = len := by omega
      go_wp2_with fail
      refine (zznew_any k m wd wr (by omega)).mono ?_
      rintro e w3 ⟨b, g, rfl, hw3, hb, hg, hb3⟩
      have hbB : w.heap.size ≤ b := Nat.le_trans hbel.size hb
      have hgB : w.heap.size ≤ g := Nat.le_trans hbel.size hg
      have hbel3 := hbel.trans (hb3.mono hbel.size)
      clear hbel hb3 hb hg
      have hpos : nx 0 (flg m 0) = nx 0 (flg m 0) := rfl
      clear hpos
      go_wp2_with fail
      go_loopw [9, 10, 11, 12] (fun c f s i wr => ∃ j : Nat, j ≤ k ∧ i = .int .i64 j ∧ (∃ x, c = .int .i64 x) ∧ (∃ x, f = .int .i64 x) ∧ (∃ x, s = .int .i64 x) ∧
          (∃ B, Win wr b g k 0 0 0 m (nx 0 (flg m 0)) wd (fun _ => 0) B) ∧ Below w.heap.size w wr) (fun _ _ _ i _ => k - (intOf i).toNat)
      case atStart => exact ⟨0, by omega, rfl, ⟨_, rfl⟩, ⟨_, rfl⟩, ⟨_, rfl⟩, ⟨_, hw3⟩, hbel3⟩
      case round =>
        obtain ⟨j, hj, rfl, ⟨xc, rfl⟩, ⟨xf, rfl⟩, ⟨xs, rfl⟩, ⟨B, hw⟩, hbel⟩ := hrel
        clear hw3 hbel3
        by_cases hlt2 : j < k
        · obtain ⟨ab, ao, ha, hab, hc⟩ := hA (by omega)
          have c0 := (hbel.cell (p := ⟨ab, ao + j * 3, none⟩) hab).trans (hc (j * 3) (by omega))
          have c1 := (hbel.cell (p := ⟨ab, ao + j * 3 + 1, none⟩) hab).trans (hc (j * 3 + 1) (by omega))
          have c2 := (hbel.cell (p := ⟨ab, ao + j * 3 + 2, none⟩) hab).trans (hc (j * 3 + 2) (by omega))
          subst ha
          clear hc hA
          generalize Z (j * 3) = z0 at c0
          generalize Z (j * 3 + 1) = z1 at c1
          generalize Z (j * 3 + 2) = z2 at c2
          have hba := (Below.refl wr.heap.size wr).alloc (Nat.le_refl _) (.cells #[.int .i64 z0, .int .i64 z1, .int .i64 z2] 37)
          have hwa := hw.below hba hw.lb hw.lg
          have nb : ¬ wr.heap.size = b := by have := hw.lb; omega
          have ng : ¬ wr.heap.size = g := by have := hw.lg; omega
          clear hw
          go_wp2_with fail
          refine (setBucket_any b g k j 0 0 0 m (nx 0 (flg m 0)) wd z0 z1 z2 (fun _ => 0) B _ hwa hlt2 (by omega)).mono ?_
          rintro e w4 ⟨rfl, hw4, C4⟩
          have d0 := (C4.oth wr.heap.size 0 nb ng).trans (World.cell?_alloc_at _ _ _ _ rfl)
          have d1 := (C4.oth wr.heap.size 1 nb ng).trans (World.cell?_alloc_at _ _ _ _ rfl)
          have d2 := (C4.oth wr.heap.size 2 nb ng).trans (World.cell?_alloc_at _ _ _ _ rfl)
          simp at d0 d1 d2
          have hbel4 := (hbel.trans (hba.mono hbel.size)).trans (C4.bel _ hbB hgB)
          clear C4 hwa hba hbel c0 c1 c2
          go_wp2
          go_roundw
          case rel => exact ⟨j + 1, by omega, by go_num, ⟨_, rfl⟩, ⟨_, rfl⟩, ⟨_, rfl⟩, ⟨_, hw4⟩, hbel4⟩
          case measure => simp [intOf]; omega
        · obtain rfl : j = k := by omega
          clear hA
          go_wp2_with fail
          refine (setTally_any b g j 0 0 0 m _ wd xc xf xs _ B _ hw).mono ?_
          rintro e w5 ⟨rfl, hw5, C5⟩
          go_wp2_with fail
          refine (endC_any b g j xc xf xs m _ wd _ B _ hw5).mono ?_
          rintro e w6 ⟨rfl, hw6, C6⟩
          go_wp2_with fail
          refine (posn_any b _ _ hw6.c4).mono ?_
          rintro e w6 ⟨rfl, rfl⟩
          go_wp2_with fail
          refine (zzclear_any b g j xc xf xs m _ wd _ B _ hw6 (by omega)).mono ?_
          rintro e w7 ⟨rfl, hw7, C7⟩
          change Win w7 b g j 0 0 0 m (aft m xc) wd (fun _ => nx (bef m xc) 0) (fun _ => 0) at hw7
          go_wp2_with fail
          refine (posn_any b _ _ hw7.c4).mono ?_
          rintro e w7 ⟨rfl, rfl⟩
          go_wp2_with fail
          refine (zzclear_any b g j 0 0 0 m _ wd _ _ _ hw7 (by omega)).mono ?_
          rintro e w8 ⟨rfl, hw8, C8⟩
          have hbel8 := (((hbel.trans (C5.bel _ hbB hgB)).trans (C6.bel _ hbB hgB)).trans (C7.bel _ hbB hgB)).trans (C8.bel _ hbB hgB)
          clear hw hw5 hw6 C5 C6 C7 C8 hbel
          change Win w8 b g j 0 0 0 m (aft2 m xc) wd (fun _ => nx (aft m xc) 0) (fun _ => 0) at hw8
          go_wp2_with fail
          refine (posn_any b _ _ hw8.c4).mono ?_
          rintro e w8 ⟨rfl, rfl⟩
          have hbd := bef_div m xc
          unfold bef at hbd
          generalize nx (nx 0 (flg m 0)) (flg m xc) = Bf at hbd ⊢
          by_cases hm : m ≤ 0
          · rw [aft_yes m xc hm] at hw7 ⊢
            rw [aft2_yes m xc hm] at hw8 ⊢
            go_wp2_with fail
            refine (zznew_any j m wd _ (by omega)).mono ?_
            rintro e w9 ⟨b2, g2, rfl, hf9, hb2, hg2, hb9⟩
            rw [fresh_yes m hm] at hf9
            have hw9 := hw8.below hb9 hw8.lb hw8.lg
            have hbel9 := hbel8.trans (hb9.mono hbel8.size)
            clear hw7 hw8 hb9 hbel8 hb2 hg2
            go_wp2_with fail
            refine (posn_any b2 _ _ hf9.c4).mono ?_
            rintro e w9 ⟨rfl, rfl⟩
            go_wp2_with fail
            refine (len_any b _ j _ hw9.c5).mono ?_
            rintro e w9 ⟨rfl, rfl⟩
            go_wp2_with fail
            refine (len_any b2 _ j _ hf9.c5).mono ?_
            rintro e w9 ⟨rfl, rfl⟩
            go_wp2_with fail
            go_loopw [19] (fun i wr => ∃ t : Nat, t ≤ j ∧ i = .int .i64 t ∧ (∃ S, Win wr b g j 0 0 0 m 70866960384 wd S (fun _ => 0)) ∧ Win wr b2 g2 j 0 0 0 m 19327352832 wd (fun _ => 0) (fun _ => 0) ∧ Below w.heap.size w wr) (fun i _ => j - (intOf i).toNat)
            case atStart => exact ⟨0, by omega, rfl, ⟨_, hw9⟩, hf9, hbel9⟩
            case round =>
              obtain ⟨t, ht, rfl, ⟨S, hwa⟩, hfa, hbela⟩ := hrel
              clear hw9 hf9 hbel9
              by_cases hlt3 : t < j
              · go_wp2_with fail
                refine (bucket_any b g j t 0 0 0 _ hlt3 (by omega) hwa.c5 (hwa.bk _ (by omega)) (hwa.bk _ (by omega)) (hwa.bk _ (by omega))).mono ?_
                rintro e wc ⟨rfl, hbc⟩
                have hwc := hwa.below hbc hwa.lb hwa.lg
                have hfc := hfa.below hbc hfa.lb hfa.lg
                have hbelc := hbela.trans (hbc.mono hbela.size)
                clear hwa hfa hbc hbela
                go_wp2_with fail
                refine (bucket_any b2 g2 j t 0 0 0 _ hlt3 (by omega) hfc.c5 (hfc.bk _ (by omega)) (hfc.bk _ (by omega)) (hfc.bk _ (by omega))).mono ?_
                rintro e wd2 ⟨rfl, hbd2⟩
                have hwd := hwc.below hbd2 hwc.lb hwc.lg
                have hfd := hfc.below hbd2 hfc.lb hfc.lg
                have hbeld := hbelc.trans (hbd2.mono hbelc.size)
                clear hwc hfc hbd2 hbelc
                go_wp2
                go_roundw
                case rel => exact ⟨t + 1, by omega, by go_num, ⟨_, hwd⟩, hfd, hbeld⟩
                case measure => simp [intOf]; omega
              · obtain rfl : t = j := by omega
                go_wp2_with fail
                refine (tally_any b 0 0 0 _ hwa.c0 hwa.c1 hwa.c2).mono ?_
                rintro e wc ⟨rfl, q, rfl⟩
                have hfc := hfa.drewN q
                have hbelc := below_drewN hbela q
                generalize wr.drewN q = wc at hfc hbelc ⊢
                clear hwa hfa hbela
                go_wp2_with fail
                refine (tally_any b2 0 0 0 _ hfc.c0 hfc.c1 hfc.c2).mono ?_
                rintro e wd2 ⟨rfl, q2, rfl⟩
                have hbeld := below_drewN hbelc q2
                generalize wc.drewN q2 = wd2 at hbeld ⊢
                clear hfc hbelc
                have o1 : bits BinOp.and IntKind.u64 70866960384 17179869183 = 2147483648 := by decide +kernel
                have o2 : bits BinOp.and IntKind.u64 19327352832 17179869183 = 2147483648 := by decide +kernel
                go_wp2_with fail
                refine (zzready_any _ _).mono ?_
                rintro e wd2 ⟨rfl, rfl⟩
                rw [rdy_y]
                go_wp2
                go_ret
                exact ⟨rfl, hbeld⟩
          · have hd : decide (m ≤ 0) = false := by simpa using hm
            rw [aft_no m xc (by omega)] at hw7 ⊢
            rw [aft2_no m xc (by omega)] at hw8 ⊢
            go_wp2_with fail
            refine (zznew_any j m wd _ (by omega)).mono ?_
            rintro e w9 ⟨b2, g2, rfl, hf9, hb2, hg2, hb9⟩
            rw [fresh_no m (by omega)] at hf9
            have hw9 := hw8.below hb9 hw8.lb hw8.lg
            have hbel9 := hbel8.trans (hb9.mono hbel8.size)
            clear hw7 hw8 hb9 hbel8 hb2 hg2
            go_wp2_with fail
            refine (posn_any b2 _ _ hf9.c4).mono ?_
            rintro e w9 ⟨rfl, rfl⟩
            go_wp2_with fail
            refine (len_any b _ j _ hw9.c5).mono ?_
            rintro e w9 ⟨rfl, rfl⟩
            go_wp2_with fail
            refine (len_any b2 _ j _ hf9.c5).mono ?_
            rintro e w9 ⟨rfl, rfl⟩
            go_wp2_with fail
            go_loopw [19] (fun i wr => ∃ t : Nat, t ≤ j ∧ i = .int .i64 t ∧ (∃ S, Win wr b g j 0 0 0 m 68719476736 wd S (fun _ => 0)) ∧ Win wr b2 g2 j 0 0 0 m 17179869184 wd (fun _ => 0) (fun _ => 0) ∧ Below w.heap.size w wr) (fun i _ => j - (intOf i).toNat)
            case atStart => exact ⟨0, by omega, rfl, ⟨_, hw9⟩, hf9, hbel9⟩
            case round =>
              obtain ⟨t, ht, rfl, ⟨S, hwa⟩, hfa, hbela⟩ := hrel
              clear hw9 hf9 hbel9
              by_cases hlt3 : t < j
              · go_wp2_with fail
                refine (bucket_any b g j t 0 0 0 _ hlt3 (by omega) hwa.c5 (hwa.bk _ (by omega)) (hwa.bk _ (by omega)) (hwa.bk _ (by omega))).mono ?_
                rintro e wc ⟨rfl, hbc⟩
                have hwc := hwa.below hbc hwa.lb hwa.lg
                have hfc := hfa.below hbc hfa.lb hfa.lg
                have hbelc := hbela.trans (hbc.mono hbela.size)
                clear hwa hfa hbc hbela
                go_wp2_with fail
                refine (bucket_any b2 g2 j t 0 0 0 _ hlt3 (by omega) hfc.c5 (hfc.bk _ (by omega)) (hfc.bk _ (by omega)) (hfc.bk _ (by omega))).mono ?_
                rintro e wd2 ⟨rfl, hbd2⟩
                have hwd := hwc.below hbd2 hwc.lb hwc.lg
                have hfd := hfc.below hbd2 hfc.lb hfc.lg
                have hbeld := hbelc.trans (hbd2.mono hbelc.size)
                clear hwc hfc hbd2 hbelc
                go_wp2
                go_roundw
                case rel => exact ⟨t + 1, by omega, by go_num, ⟨_, hwd⟩, hfd, hbeld⟩
                case measure => simp [intOf]; omega
              · obtain rfl : t = j := by omega
                go_wp2_with fail
                refine (tally_any b 0 0 0 _ hwa.c0 hwa.c1 hwa.c2).mono ?_
                rintro e wc ⟨rfl, q, rfl⟩
                have hfc := hfa.drewN q
                have hbelc := below_drewN hbela q
                generalize wr.drewN q = wc at hfc hbelc ⊢
                clear hwa hfa hbela
                go_wp2_with fail
                refine (tally_any b2 0 0 0 _ hfc.c0 hfc.c1 hfc.c2).mono ?_
                rintro e wd2 ⟨rfl, q2, rfl⟩
                have hbeld := below_drewN hbelc q2
                generalize wc.drewN q2 = wd2 at hbeld ⊢
                clear hfc hbelc
                have o1 : bits BinOp.and IntKind.u64 68719476736 17179869183 = 0 := by decide +kernel
                have o2 : bits BinOp.and IntKind.u64 17179869184 17179869183 = 0 := by decide +kernel
                go_wp2_with fail
                refine (zzready_any _ _).mono ?_
                rintro e wd2 ⟨rfl, rfl⟩
                rw [rdy_n]
                go_wp2
                go_ret
                exact ⟨rfl, hbeld⟩
end Go.Proofs.Qxb6613015a
