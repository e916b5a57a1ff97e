/-
  Seat b6613043aD: the walk of FnRegisterScriptMatchesFirstComeSortedModel.
-/
import Derived.Test.Qxb6613043aDoorKept
import Derived.Test.Qxb6613043aDoorOrder
namespace Go.Proofs.Qxb6613043aDoor
open Go.RowKit

theorem Reg.of_heap {w w' : World} {B rb : Nat} {st : Int} {v : Value} {Q : Nat → Nat} {L : List Ent} (h : Reg w B rb st v Q L) (e : w'.heap = w.heap) : Reg w' B rb st v Q L :=
  h.kept (fun k _ => by rw [e]) (by rw [e]; exact Nat.le_refl _)
theorem Two.of_heap {w w' : World} {B g1 g2 cap : Nat} {M : List Ent} (h : Two w B g1 g2 cap M) (e : w'.heap = w.heap) : Two w' B g1 g2 cap M :=
  h.kept (fun k c _ hk => by rw [e]; exact hk)

set_option maxRecDepth 100000 in
set_option maxHeartbeats 8000000 in
theorem script_walk (a a2 : Option Addr) (len cap len2 cap2 : Nat) (nm hm : Nat → ByteArray) (w : World) (hA : IsStr w a len nm) (hA2 : IsStr w a2 len2 hm)
    (t0 t1 : TypeId) (u0 u1 : Value) (g0 : w.cell? ⟨0, 0, none⟩ = some (.iface t0 u0)) (g1 : w.cell? ⟨1, 0, none⟩ = some (.iface t1 u1)) :
    Calls Tryd.prog 3 #[.slice a len cap, .slice a2 len2 cap2] w fun e w' => e = .returned (.bool true) ∧ Below w.heap.size w w' := by
  obtain ⟨i0, hi, hz0, hz1, hz2⟩ := info_parts Tryd.info9
  go_enter Tryd.func3, Tryd.ntmps3
  go_wp2_with fail
  refine (bytes5_any a a2 len cap len2 cap2 nm hm w hA hA2).mono ?_
  rintro e w ⟨⟨r, rfl, hr⟩, rfl⟩
  have HA : Hid (IsStr w a len nm) := hA
  have HA2 : Hid (IsStr w a2 len2 hm) := hA2
  have HG0 : Hid (w.cell? ⟨0, 0, none⟩ = some (.iface t0 u0)) := g0
  have HG1 : Hid (w.cell? ⟨1, 0, none⟩ = some (.iface t1 u1)) := g1
  clear hA hA2 g0 g1
  cases r
  · clear hr
    go_wp2
    go_ret
    exact ⟨rfl, Below.refl _ _⟩
  have hl2 : len2 ≤ 1048576 := hr rfl
  clear hr
  by_cases hl : 1024 < len
  · go_wp2
    go_ret
    exact ⟨rfl, Below.refl _ _⟩
  go_wp2_with fail
  go_loop [5, 6] (fun z i => ∃ k : Nat, k ≤ len ∧ i = .int .i64 k ∧ ∃ x, z = .int .i64 x) (fun _ i => len - (intOf i).toNat)
  case atStart => exact ⟨0, by omega, rfl, _, rfl⟩
  case round =>
    obtain ⟨k, hk, rfl, x, rfl⟩ := hrel
    by_cases hlt : k < len
    · obtain ⟨ab, ao, ha, hab, hc⟩ := HA.out (by omega)
      obtain ⟨c0, hs⟩ := hc k hlt
      subst ha
      clear hc
      generalize nm k = s at c0 hs
      go_wp2
      all_goals first
        | (go_ret; exact ⟨rfl, Below.refl _ _⟩)
        | skip
      all_goals
        go_round
        case rel => exact ⟨k + 1, by omega, by go_num, _, rfl⟩
        case measure => simp [intOf]; omega
    · go_wp2_with fail
      go_loop [5, 7] (fun z i => ∃ k : Nat, k ≤ len2 ∧ i = .int .i64 k ∧ ∃ x, z = .int .i64 x) (fun _ i => len2 - (intOf i).toNat)
      case atStart => exact ⟨0, by omega, rfl, _, rfl⟩
      case round =>
        obtain ⟨k2, hk2, rfl, x2, rfl⟩ := hrel
        by_cases hlt2 : k2 < len2
        · obtain ⟨ab, ao, ha, hab, hc⟩ := HA2.out (by omega)
          obtain ⟨c0, hs⟩ := hc k2 hlt2
          subst ha
          clear hc
          generalize hm k2 = s at c0 hs
          go_wp2
          all_goals first
            | (go_ret; exact ⟨rfl, Below.refl _ _⟩)
            | skip
          all_goals
            go_round
            case rel => exact ⟨k2 + 1, by omega, by go_num, _, rfl⟩
            case measure => simp [intOf]; omega
        · -- the registry, the two rows
          go_wp2_with fail
          refine (newReg_any w).mono ?_
          rintro e W1 ⟨rfl, hR1, hb1⟩
          have hlen2 : 2 ≤ w.heap.size := by
            have h3 : 1 < w.heap.size := World.block_lt_of_cell? w _ HG1.out
            omega
          generalize hrb : w.heap.size = rb at hR1 hb1 hlen2 ⊢
          have HRB : Hid (w.heap.size = rb) := hrb
          have HR1 : Hid (Reg W1 rb rb 0 (.slice none 0 0) (fun _ => 0) []) := hR1
          clear hR1 hrb
          go_wp2_with (at_make; refine wpList_make_own _ rfl _ _ 22 rfl rb 9 i0 (.string ⟨#[]⟩) 1 Tryd.underlying22 hi hz0 hz1 _ _ _ len rfl rfl rfl ?b2 ?b3 ?b4 ?_)
          case b2 => rw [hz2]; omega
          case b3 => unfold maxLen; omega
          case b4 => exact HR1.out.cov
          intro W2 hown1 hgr1
          have hb2 := hb1.grown hgr1 HR1.out.cov (fun k hk => by cases hk)
          have HR2 : Hid (Reg W2 rb rb 0 (.slice none 0 0) (fun _ => 0) []) := HR1.out.kept (fun k hk => hgr1.block k hk (by simp)) hgr1.size
          generalize W1.heap.size = gr1 at hown1 ⊢
          have HO1 : Hid (W2.ownsRow rb 9 1 (.slice (some ⟨gr1, 0, none⟩) 0 len) 0 []) := hown1
          clear HR1 hown1 hgr1 hb1
          go_wp2_with (at_make; refine wpList_make_own _ rfl _ _ 22 rfl rb 9 i0 (.string ⟨#[]⟩) 1 Tryd.underlying22 hi hz0 hz1 _ _ _ len rfl rfl rfl ?c2 ?c3 ?c4 ?_)
          case c2 => rw [hz2]; omega
          case c3 => unfold maxLen; omega
          case c4 => exact HR2.out.cov
          intro W3 hown2 hgr2
          have hb3 := hb2.grown hgr2 HR2.out.cov (fun k hk => by cases hk)
          have HR3 : Hid (Reg W3 rb rb 0 (.slice none 0 0) (fun _ => 0) []) := HR2.out.kept (fun k hk => hgr2.block k hk (by simp)) hgr2.size
          have hgne : gr1 ≠ W2.heap.size := by have := (HO1.out.lt gr1 rfl).2; omega
          generalize W2.heap.size = gr2 at hown2 hgne ⊢
          have HT3 : Hid (Two W3 rb gr1 gr2 len []) := ⟨HO1.out.kept hgr2 (.inr (by simp [Value.ownBlock])), hown2, hgne⟩
          clear HR2 hown2 hgr2 hb2 HO1
          go_wp2_with fail
          go_loopw [9, 10, 11] (fun s1 s2 i wr => ∃ (k n : Nat) (v : Value) (Q : Nat → Nat) (L K : List Ent), k ≤ len ∧ i = .int .i64 k ∧ s1 = .slice (some ⟨gr1, 0, none⟩) n len ∧ s2 = .slice (some ⟨gr2, 0, none⟩) n len ∧ K.length = n ∧ n ≤ k ∧ Reg wr rb rb 0 v Q L ∧ Two wr rb gr1 gr2 len K ∧ Asc L ∧ Same K L ∧ Below rb w wr) (fun _ _ i _ => len - (intOf i).toNat)
          case atStart => exact ⟨0, 0, _, _, [], [], by omega, rfl, rfl, rfl, rfl, Nat.le_refl _, HR3.out, HT3.out, asc_nil, same_nil, hb3⟩
          case round =>
            obtain ⟨k3, n, v, Q, L, K, hk3, rfl, rfl, rfl, hKn, hn, hR, hT, hAsc, hSame, hbel⟩ := hrel
            have HK : Hid (K.length = n) := hKn
            have HREG : Hid (Reg wr rb rb 0 v Q L) := hR
            have HT : Hid (Two wr rb gr1 gr2 len K) := hT
            have HASC : Hid (Asc L) := hAsc
            have HSAME : Hid (Same K L) := hSame
            clear hKn hR hT hAsc hSame HR3 HT3 hb3
            by_cases hlt3 : k3 < len
            · obtain ⟨ab, ao, ha, hab, hc⟩ := HA.out (by omega)
              subst ha
              obtain ⟨c0w, hs⟩ := hc k3 hlt3
              have c0 := (hbel.cell (p := ⟨ab, ao + k3, none⟩) (by rw [← HRB.out]; exact hab)).trans c0w
              have G0 := (hbel.cell (p := ⟨0, 0, none⟩) (show 0 < rb by omega)).trans HG0.out
              have G1 := (hbel.cell (p := ⟨1, 0, none⟩) (show 1 < rb by omega)).trans HG1.out
              clear c0w hc
              by_cases hlt4 : k3 < len2
              case' pos =>
                obtain ⟨ab2, ao2, ha2, hab2, hc2⟩ := HA2.out (by omega)
                subst ha2
                obtain ⟨d0w, hs2⟩ := hc2 k3 hlt4
                have d0 := (hbel.cell (p := ⟨ab2, ao2 + k3, none⟩) (by rw [← HRB.out]; exact hab2)).trans d0w
                clear d0w hc2
                go_wp2_with fail
                clear d0 hs2
                generalize hm k3 = hx
              case' neg =>
                go_wp2_with fail
                generalize (⟨#[]⟩ : ByteArray) = hx
              all_goals
                refine (gauge_any2 rb rb v Q L (nm k3) hx wr HREG.out HASC.out (by have h1 := HK.out; have h2 := HSAME.out.len; omega) hs t0 t1 u0 u1 G0 G1 hlen2).mono ?_
                rintro e W4 ⟨hoth, hb4, hcase⟩
                have HT4 : Hid (Two W4 rb gr1 gr2 len K) := HT.out.oth HREG.out hoth
                have hbel4 := hbel.trans hb4
                clear hoth hb4 hbel G0 G1 c0 HT HREG
                rcases hcase with ⟨rfl, hok, i4, v2, Q2, hat, hR2⟩ | ⟨t, u, rfl, hno, v2, Q2, hR2⟩
                · have HOK : Hid (validB (nm k3) = true ∧ ¬ has L (nm k3)) := hok
                  have HAT : Hid (At L (nm k3) i4) := hat
                  have HR2 : Hid (Reg W4 rb rb 0 v2 Q2 (insE L i4 (nm k3, hx))) := hR2
                  clear hok hat hR2
                  go_wp2_with fail
                  refine (nameOK_any (nm k3) W4 hs).mono ?_
                  rintro e W4 ⟨rfl, rfl⟩
                  rw [HOK.out.1]
                  go_wp2_with fail
                  have h9 := contains_any rb gr1 gr2 len K (nm k3) W4 HT4.out (by have := HK.out; omega)
                  rw [HK.out] at h9
                  refine h9.mono ?_
                  rintro e W4 ⟨⟨b, rfl, hb⟩, rfl⟩
                  obtain rfl : b = false := by cases b; rfl; exact absurd ((HSAME.out.has _).1 (hb.1 rfl)) HOK.out.2
                  clear hb h9
                  have r1 : W4.ownsRow rb 9 1 (.slice (some ⟨gr1, 0, none⟩) n len) n (K.map fun e => .string e.1) := by have := HT4.out.r1; rw [HK.out] at this; exact this
                  have r2 : W4.ownsRow rb 9 1 (.slice (some ⟨gr2, 0, none⟩) n len) n (K.map fun e => .string e.2) := by have := HT4.out.r2; rw [HK.out] at this; exact this
                  go_wp2_with (at_builtin; refine wpList_append_fits _ rfl (.tmp 102) (.tmp 104) 22 rfl rb 9 i0 1 Tryd.underlying22 hi hz1 gr1 n len (K.map fun e => .string e.1) rfl (r1.alloc _) ⟨W4.heap.size, 0, none⟩ 1 1 [.string (nm k3)] rfl rfl (cells_lit _ _) (one_lit _) (by omega) ?_)
                  intro w5 hown5 hgr5
                  have r5 := (r2.alloc (.cells #[.string (nm k3)] 9)).kept hgr5 (.inr (by simp [Value.ownBlock]; exact fun e => hgne e.symm))
                  have HO5 : Hid (w5.ownsRow rb 9 1 (.slice (some ⟨gr1, 0, none⟩) (n + 1) len) (n + 1) ((K.map fun e => .string e.1) ++ [.string (nm k3)])) := hown5
                  have HG5 : Hid ((W4.alloc (.cells #[.string (nm k3)] 9)).grownBy w5 (some gr1)) := hgr5
                  clear r1 r2 hown5 hgr5
                  go_wp2_with (at_builtin; refine wpList_append_fits _ rfl (.tmp 106) (.tmp 108) 22 rfl rb 9 i0 1 Tryd.underlying22 hi hz1 gr2 n len (K.map fun e => .string e.2) rfl (r5.alloc _) ⟨w5.heap.size, 0, none⟩ 1 1 [.string hx] rfl rfl (cells_lit _ _) (one_lit _) (by omega) ?_)
                  intro w6 hown6 hgr6
                  have HX : Hid (Reg w6 rb rb 0 v2 Q2 (insE L i4 (nm k3, hx)) ∧ Two w6 rb gr1 gr2 len (K ++ [(nm k3, hx)]) ∧ Below rb w w6) := appended HK.out HR2.out HT4.out hbel4 HO5.out HG5.out hown6 hgr6
                  have HY : Hid (Asc (insE L i4 (nm k3, hx)) ∧ Same (K ++ [(nm k3, hx)]) (insE L i4 (nm k3, hx)) ∧ (K ++ [(nm k3, hx)]).length = n + 1) := ⟨insE_asc HASC.out HAT.out HOK.out.2, HSAME.out.take HAT.out.le HOK.out.2, by rw [List.length_append, HK.out]; rfl⟩
                  clear hown6 hgr6 HO5 HG5 r5
                  go_wp2
                  go_roundw
                  case rel => exact ⟨k3 + 1, n + 1, _, _, _, _, by omega, by go_num, rfl, rfl, HY.out.2.2, by omega, HX.out.1, HX.out.2.1, HY.out.1, HY.out.2.1, HX.out.2.2⟩
                  case measure => simp [intOf]; omega
                · have HNO : Hid (¬ (validB (nm k3) = true ∧ ¬ has L (nm k3))) := hno
                  have HR2 : Hid (Reg W4 rb rb 0 v2 Q2 L) := hR2
                  clear hno hR2
                  go_wp2_with fail
                  refine (nameOK_any (nm k3) W4 hs).mono ?_
                  rintro e W4 ⟨rfl, rfl⟩
                  cases hv : validB (nm k3) with
                  | false =>
                    clear hv
                    go_wp2
                    go_roundw
                    case rel => exact ⟨k3 + 1, n, _, _, _, _, by omega, by go_num, rfl, rfl, HK.out, by omega, HR2.out, HT4.out, HASC.out, HSAME.out, hbel4⟩
                    case measure => simp [intOf]; omega
                  | true =>
                    have HH : Hid (has L (nm k3)) := Classical.byContradiction fun hn => HNO.out ⟨hv, hn⟩
                    clear hv
                    go_wp2_with fail
                    have h9 := contains_any rb gr1 gr2 len K (nm k3) W4 HT4.out (by have := HK.out; omega)
                    rw [HK.out] at h9
                    refine h9.mono ?_
                    rintro e W4 ⟨⟨b, rfl, hb⟩, rfl⟩
                    obtain rfl : b = true := hb.2 ((HSAME.out.has _).2 HH.out)
                    clear hb h9
                    go_wp2
                    go_roundw
                    case rel => exact ⟨k3 + 1, n, _, _, _, _, by omega, by go_num, rfl, rfl, HK.out, by omega, HR2.out, HT4.out, HASC.out, HSAME.out, hbel4⟩
                    case measure => simp [intOf]; omega
            · have HLN : Hid (L.length = n) := HSAME.out.len.symm.trans HK.out
              have hn1 : n ≤ 1024 := by omega
              go_wp2_with fail
              go_loopw [16] (fun i wr => ∃ (k : Nat) (M : List Ent), 1 ≤ k ∧ k ≤ n + 1 ∧ i = .int .i64 k ∧ SoTo M k ∧ Same M L ∧ Two wr rb gr1 gr2 len M ∧ Reg wr rb rb 0 v Q L ∧ Below rb w wr) (fun i _ => n + 1 - (intOf i).toNat)
              case atStart => exact ⟨1, K, by omega, by omega, rfl, soTo_one K, HSAME.out, HT.out, HREG.out, hbel⟩
              case round =>
                clear HSAME HT HREG hbel HK
                obtain ⟨k5, M, hk5, hk5n, rfl, hso, hsame, hT, hR, hbel5⟩ := hrel
                have HSO : Hid (SoTo M k5) := hso
                have HSAME : Hid (Same M L) := hsame
                have HT : Hid (Two wr rb gr1 gr2 len M) := hT
                have HREG : Hid (Reg wr rb rb 0 v Q L) := hR
                clear hso hsame hT hR
                by_cases hlt5 : k5 < n
                · go_wp2_with fail
                  go_loopw [17] (fun jv wr => ∃ (j : Nat) (M : List Ent), j ≤ k5 ∧ jv = .int .i64 j ∧ Part M k5 j ∧ Same M L ∧ Two wr rb gr1 gr2 len M ∧ Reg wr rb rb 0 v Q L ∧ Below rb w wr) (fun j _ => (intOf j).toNat)
                  case atStart => exact ⟨k5, M, Nat.le_refl _, rfl, HSO.out.part, HSAME.out, HT.out, HREG.out, hbel5⟩
                  case round =>
                    clear HSO HSAME HT HREG hbel5
                    obtain ⟨j, M2, hj, rfl, hpart, hsame, hT, hR, hbel6⟩ := hrel
                    have HP : Hid (Part M2 k5 j) := hpart
                    have HSAME : Hid (Same M2 L) := hsame
                    have HT : Hid (Two wr rb gr1 gr2 len M2) := hT
                    have HREG : Hid (Reg wr rb rb 0 v Q L) := hR
                    clear hpart hsame hT hR
                    rcases Nat.eq_zero_or_pos j with hz | hp
                    · subst hz
                      have HSO : Hid (SoTo M2 (k5 + 1)) := HP.out.zero
                      go_wp2
                      go_quiet (fail)
                      go_wp2
                      go_roundw
                      case rel => exact ⟨k5 + 1, M2, by omega, by omega, by go_num, HSO.out, HSAME.out, HT.out.of_heap rfl, HREG.out.of_heap rfl, below_drewN hbel6 _⟩
                      case measure => simp [intOf]; omega
                    · obtain ⟨j2, rfl⟩ : ∃ j2, j = j2 + 1 := ⟨j - 1, by omega⟩
                      have hlM : M2.length = n := HSAME.out.len.trans HLN.out
                      obtain ⟨d0, hd0⟩ : ∃ d0, M2[j2]? = some d0 := ⟨_, List.getElem?_eq_getElem (by omega)⟩
                      obtain ⟨d1, hd1⟩ : ∃ d1, M2[j2 + 1]? = some d1 := ⟨_, List.getElem?_eq_getElem (by omega)⟩
                      have HD0 : Hid (M2[j2]? = some d0) := hd0
                      have HD1 : Hid (M2[j2 + 1]? = some d1) := hd1
                      have c0 := HT.out.name j2 d0 hd0
                      have c1 := HT.out.name (j2 + 1) d1 hd1
                      clear hd0 hd1 hlM
                      cases hless : Op.bytesLess d1.1.toList d0.1.toList with
                      | false =>
                        have HSO : Hid (SoTo M2 (k5 + 1)) := by
                          refine HP.out.stop HD0.out HD1.out ?_
                          rcases Lt.total d0.1 d1.1 with h | h | h
                          · exact h
                          · exact absurd h (HSAME.out.dist j2 (j2 + 1) d0 d1 (by omega) HD0.out HD1.out)
                          · have := less_of h; rw [hless] at this; cases this
                        go_wp2
                        go_quiet (fail)
                        go_wp2
                        go_roundw
                        case rel => exact ⟨k5 + 1, M2, by omega, by omega, by go_num, HSO.out, HSAME.out, HT.out.of_heap rfl, HREG.out.of_heap rfl, below_drewN hbel6 _⟩
                        case measure => simp [intOf]; omega
                      | true =>
                        have HP2 : Hid (Part (sw M2 j2 d0 d1) k5 j2 ∧ Same (sw M2 j2 d0 d1) L) := ⟨HP.out.sw HD0.out HD1.out (lt_less hless), HSAME.out.sw HD0.out HD1.out⟩
                        go_wp2
                        go_quiet (fail)
                        have HT5 : Hid (Two (wr.drewN nq) rb gr1 gr2 len M2) := HT.out.of_heap rfl
                        have HREG5 : Hid (Reg (wr.drewN nq) rb rb 0 v Q L) := HREG.out.of_heap rfl
                        have hbel7 : Below rb w (wr.drewN nq) := below_drewN hbel6 nq
                        generalize wr.drewN nq = W5 at HT5 HREG5 hbel7 ⊢
                        clear c0 c1 HT HREG hbel6 hless HP
                        have c0 := HT5.out.name j2 d0 HD0.out
                        have c1 := HT5.out.name (j2 + 1) d1 HD1.out
                        have e0 := HT5.out.help j2 d0 HD0.out
                        have e1 := HT5.out.help (j2 + 1) d1 HD1.out
                        have f1 : ∀ o, W5.frozen? ⟨gr1, o, none⟩ = false := fun o => HT5.out.r1.frozenAt o
                        have f2 : ∀ o, W5.frozen? ⟨gr2, o, none⟩ = false := fun o => HT5.out.r2.frozenAt o
                        have s1a := (World.cell?_setCell_other W5 ⟨gr1, j2 + 1, none⟩ ⟨gr2, j2, none⟩ (.string d0.1) (fun e => hgne (congrArg Addr.block e))).trans e0
                        have s1b := (World.cell?_setCell_other W5 ⟨gr1, j2 + 1, none⟩ ⟨gr2, j2 + 1, none⟩ (.string d0.1) (fun e => hgne (congrArg Addr.block e))).trans e1
                        have s1c := (World.cell?_setCell_other W5 ⟨gr1, j2 + 1, none⟩ ⟨gr1, j2, none⟩ (.string d0.1) (fun e => by have h : j2 + 1 = j2 := congrArg Addr.off e; omega)).trans c0
                        have s2a := (World.cell?_setCell_other (W5.setCell ⟨gr1, j2 + 1, none⟩ (.string d0.1)) ⟨gr2, j2 + 1, none⟩ ⟨gr1, j2, none⟩ (.string d0.2) (fun e => hgne (congrArg Addr.block e).symm)).trans s1c
                        have s2b := (World.cell?_setCell_other (W5.setCell ⟨gr1, j2 + 1, none⟩ (.string d0.1)) ⟨gr2, j2 + 1, none⟩ ⟨gr2, j2, none⟩ (.string d0.2) (fun e => by have h : j2 + 1 = j2 := congrArg Addr.off e; omega)).trans s1a
                        have s3a := (World.cell?_setCell_other ((W5.setCell ⟨gr1, j2 + 1, none⟩ (.string d0.1)).setCell ⟨gr2, j2 + 1, none⟩ (.string d0.2)) ⟨gr1, j2, none⟩ ⟨gr2, j2, none⟩ (.string d1.1) (fun e => hgne (congrArg Addr.block e))).trans s2b
                        have HT6 := HT5.out.sw (j := j2) (d0 := d0) (d1 := d1)
                        have HREG6 := HREG5.out.sw HT5.out j2 (.string d0.1) (.string d0.2) (.string d1.1) (.string d1.2)
                        have l1 := (HT5.out.r1.lt gr1 rfl).1
                        have l2 := (HT5.out.r2.lt gr2 rfl).1
                        have hbel8 := (((hbel7.setCell (p := ⟨gr1, j2 + 1, none⟩) l1 (.string d0.1)).setCell (p := ⟨gr2, j2 + 1, none⟩) l2 (.string d0.2)).setCell (p := ⟨gr1, j2, none⟩) l1 (.string d1.1)).setCell (p := ⟨gr2, j2, none⟩) l2 (.string d1.2)
                        have HX : Hid (Two ((((W5.setCell ⟨gr1, j2 + 1, none⟩ (.string d0.1)).setCell ⟨gr2, j2 + 1, none⟩ (.string d0.2)).setCell ⟨gr1, j2, none⟩ (.string d1.1)).setCell ⟨gr2, j2, none⟩ (.string d1.2)) rb gr1 gr2 len (sw M2 j2 d0 d1) ∧
                          Reg ((((W5.setCell ⟨gr1, j2 + 1, none⟩ (.string d0.1)).setCell ⟨gr2, j2 + 1, none⟩ (.string d0.2)).setCell ⟨gr1, j2, none⟩ (.string d1.1)).setCell ⟨gr2, j2, none⟩ (.string d1.2)) rb rb 0 v Q L ∧
                          Below rb w ((((W5.setCell ⟨gr1, j2 + 1, none⟩ (.string d0.1)).setCell ⟨gr2, j2 + 1, none⟩ (.string d0.2)).setCell ⟨gr1, j2, none⟩ (.string d1.1)).setCell ⟨gr2, j2, none⟩ (.string d1.2))) := ⟨HT6, HREG6, hbel8⟩
                        clear HT6 HREG6 hbel8 hbel7 HT5 HREG5 l1 l2 s1c
                        go_wp2
                        go_roundw
                        case rel => exact ⟨j2, _, by omega, by go_num, HP2.out.1, HP2.out.2, HX.out.1, HX.out.2.1, HX.out.2.2⟩
                        case measure => simp [intOf]
                · -- the rows are the registry's
                  obtain rfl : M = L := HSAME.out.eq (HSO.out.asc (by have h1 := HSAME.out.len; have h2 := HLN.out; omega)) HASC.out
                  clear HSO HSAME
                  go_wp2_with fail
                  refine (count_any rb rb 0 v Q M wr HREG.out).mono ?_
                  rintro e wr ⟨rfl, rfl⟩
                  rw [HLN.out]
                  go_wp2_with fail
                  go_loopw [20] (fun i wr => ∃ k : Nat, k ≤ n ∧ i = .int .i64 k ∧ Reg wr rb rb 0 v Q M ∧ Two wr rb gr1 gr2 len M ∧ Below rb w wr) (fun i _ => n - (intOf i).toNat)
                  case atStart => exact ⟨0, by omega, rfl, HREG.out, HT.out, hbel5⟩
                  case round =>
                    clear HREG HT hbel5
                    obtain ⟨k9, hk9, rfl, hR, hT, hbel9⟩ := hrel
                    have HR9 : Hid (Reg wr rb rb 0 v Q M) := hR
                    have HT9 : Hid (Two wr rb gr1 gr2 len M) := hT
                    clear hR hT
                    by_cases hlt9 : k9 < n
                    · obtain ⟨d, hd⟩ : ∃ d, M[k9]? = some d := ⟨_, List.getElem?_eq_getElem (by have := HLN.out; omega)⟩
                      have HD : Hid (M[k9]? = some d) := hd
                      have hMl : M.length ≤ 100000 := by have := HLN.out; omega
                      have c0 := HT9.out.name k9 d hd
                      clear hd
                      go_wp2
                      go_quiet (first | (go_at_call 11; refine Calls.quiet_of_same (entryName_any rb rb 0 v Q M k9 d _ ?_ HD.out hMl); exact HR9.out.of_heap rfl))
                      have HT10 : Hid (Two (wr.drewN nq) rb gr1 gr2 len M) := HT9.out.of_heap rfl
                      have HR10 : Hid (Reg (wr.drewN nq) rb rb 0 v Q M) := HR9.out.of_heap rfl
                      have hbel10 : Below rb w (wr.drewN nq) := below_drewN hbel9 nq
                      generalize wr.drewN nq = W10 at HT10 HR10 hbel10 ⊢
                      clear c0 HT9 HR9 hbel9
                      have e0 := HT10.out.help k9 d HD.out
                      go_wp2
                      go_quiet (first | (go_at_call 12; refine Calls.quiet_of_same (entryHelp_any rb rb 0 v Q M k9 d _ ?_ HD.out hMl); exact HR10.out.of_heap rfl))
                      have HT11 : Hid (Two (W10.drewN nq) rb gr1 gr2 len M) := HT10.out.of_heap rfl
                      have HR11 : Hid (Reg (W10.drewN nq) rb rb 0 v Q M) := HR10.out.of_heap rfl
                      have hbel11 : Below rb w (W10.drewN nq) := below_drewN hbel10 nq
                      generalize W10.drewN nq = W11 at HT11 HR11 hbel11 ⊢
                      clear e0 HT10 HR10 hbel10
                      go_wp2
                      go_roundw
                      case rel => exact ⟨k9 + 1, by omega, by go_num, HR11.out, HT11.out, hbel11⟩
                      case measure => simp [intOf]; omega
                    · go_wp2
                      go_ret
                      exact ⟨rfl, by rw [HRB.out]; exact hbel9⟩
end Go.Proofs.Qxb6613043aDoor
