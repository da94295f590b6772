import Derived.Test.Qxb6605374aParts7
import Derived.Laws.Cover1
namespace Go.Proofs.Qxb6605374a
open Go.ChangeShapes Go.WideShapes Go.ChangeAt Go.RowKit

theorem want_take (E S : List Tg) (k : Nat) (h : k < E.length) : want (E.take (k + 1)) S = want (E.take k) S ++ (if namB S (tg E k).1 = true then [] else [tg E k]) := by
  have e : E.take (k + 1) = E.take k ++ [tg E k] := by
    rw [List.take_succ_eq_append_getElem h]
    simp [tg, h]
  rw [e]
  simp only [want, List.filter_append, List.filter_cons, List.filter_nil]
  cases namB S (tg E k).1 <;> simp

theorem want_le (E S : List Tg) (k : Nat) : (want (E.take k) S).length ≤ k :=
  Nat.le_trans (List.length_filter_le _ _) (List.length_take_le _ _)

/-- What the loop over the stamp finds: the first tag that is not carried, or -1. -/
def IsBad (E S : List Tg) (x : Int) : Prop :=
  (x = -1 ∧ ∀ s ∈ S, carB E s.1 s.2 = true) ∨ ∃ j : Nat, x = j ∧ j < S.length ∧ (∀ i, i < j → carB E (tg S i).1 (tg S i).2 = true) ∧ carB E (tg S j).1 (tg S j).2 = false

theorem take_mem {S : List Tg} {j : Nat} {u : Tg} (h : u ∈ S.take j) : ∃ i, i < j ∧ i < S.length ∧ tg S i = u := by
  obtain ⟨i, hi, rfl⟩ := List.mem_iff_getElem.1 h
  have h1 : i < j ∧ i < S.length := by simp at hi; omega
  exact ⟨i, h1.1, h1.2, by simp [tg, h1.2]⟩

theorem split_at {S : List Tg} {j : Nat} (h : j < S.length) : S = S.take j ++ tg S j :: S.drop (j + 1) := by
  rw [← drop_tg h, List.take_append_drop]

set_option maxRecDepth 100000 in
set_option maxHeartbeats 4000000 in
theorem match_core (a : Option Addr) (n c : Nat) (r st : ByteArray) (w : World) (HN : Hid (n = r.size)) (hv : Hid (BRow w (.slice a n c) r)) (h0 : Hid (a = none → c = 0)) (hl : n ≤ maxLen) (hst : st.size ≤ maxLen) :
    Calls Try.prog 4 #[.slice a n c, .string st] w fun e w' => e = .returned (.bool true) ∧ Below w.heap.size w w' := by
  have hl' := hl
  have hst' := hst
  unfold maxLen at hl hst
  by_cases h1 : n ≤ 65536
  · by_cases h2 : st.size ≤ 65536
    · go_enter Try.func4, Try.ntmps4
      go_wp2_with fail
      refine (bytes7 _ _ _ _ _ hl' hst').mono ?_
      rintro e w' ⟨⟨b, rfl⟩, rfl⟩
      clear hl' hst'
      cases b
      · go_wp2_with fail
        go_ret
        exact ⟨rfl, Below.refl _ _⟩
      have hconv := hv.out.conv
      go_wp2_with fail
      refine (parse_any r _ (by rw [← HN.out]; exact h1)).mono ?_
      rintro e w1 hp1
      clear hconv
      rcases hp1 with ⟨rfl, hb1'⟩ | ⟨E, a1, c1, a2, c2, rfl, hE', hn1', hg1', hb1'⟩
      · have HB1 := hidden hb1'
        clear hb1'
        go_wp2_with fail
        refine (parse_any st _ h2).mono ?_
        rintro e w2 hp2
        rcases hp2 with ⟨rfl, hb2'⟩ | ⟨S, a3, c3, a4, c4, rfl, _, _, _, hb2'⟩
        · have HB2 := hidden (HB1.out.trans (hb2'.mono HB1.out.size))
          clear hb2'
          go_wp2_with fail
          go_ret
          exact ⟨rfl, HB2.out⟩
        · have HB2 := hidden (HB1.out.trans (hb2'.mono HB1.out.size))
          clear hb2'
          go_wp2_with fail
          go_ret
          exact ⟨rfl, HB2.out⟩
      have hE := hidden hE'
      have hn1 := hidden hn1'
      have hg1 := hidden hg1'
      have HB1 := hidden hb1'
      have hEl := hE'.length_le
      rw [← HN.out] at hEl
      clear hE' hn1' hg1' hb1'
      obtain ⟨ne, HNE⟩ : ∃ ne, Hid (ne = E.length) := ⟨_, rfl⟩
      rw [← HNE.out] at hEl
      rw [← HNE.out]
      rw [← HNE.out] at hn1 hg1
      go_wp2_with fail
      refine (parse_any st _ h2).mono ?_
      rintro e w2 hp2
      rcases hp2 with ⟨rfl, hb2'⟩ | ⟨S, a3, c3, a4, c4, rfl, hS', hn2', hg2', hb2'⟩
      · have HB2 := hidden (HB1.out.trans (hb2'.mono HB1.out.size))
        clear hb2'
        go_wp2_with fail
        go_ret
        exact ⟨rfl, HB2.out⟩
      have hS := hidden hS'
      have hn2 := hidden hn2'
      have hg2 := hidden hg2'
      have hn1b := hidden (hn1.out.below hb2')
      have hg1b := hidden (hg1.out.below hb2')
      have HB2 := hidden (HB1.out.trans (hb2'.mono HB1.out.size))
      have hSl := hS'.length_le
      obtain ⟨ns, HNS⟩ : ∃ ns, Hid (ns = S.length) := ⟨_, rfl⟩
      rw [← HNS.out] at hSl hn2 hg2
      rw [← HNS.out]
      clear hS' hn2' hg2' hb2' hn1 hg1 HB1
      -- both sections ascend
      go_wp2_with fail
      refine (asc_any _ _ _ E _ HNE.out (by omega) hn1b.out).mono ?_
      rintro e w3 ⟨⟨ra, rfl, hasc'⟩, hb3'⟩
      have HA1 := hidden hasc'
      have hn1c := hidden (hn1b.out.below hb3')
      have hg1c := hidden (hg1b.out.below hb3')
      have hn2c := hidden (hn2.out.below hb3')
      have hg2c := hidden (hg2.out.below hb3')
      have HB3 := hidden (HB2.out.trans (hb3'.mono HB2.out.size))
      clear hasc' hb3' hn1b hg1b hn2 hg2 HB2
      cases ra
      · go_wp2_with fail
        go_ret
        exact ⟨rfl, HB3.out⟩
      go_wp2_with fail
      refine (asc_any _ _ _ S _ HNS.out (by omega) hn2c.out).mono ?_
      rintro e w4 ⟨⟨rb, rfl, hasc'⟩, hb4'⟩
      have HA2 := hidden hasc'
      have hn1d := hidden (hn1c.out.below hb4')
      have hg1d := hidden (hg1c.out.below hb4')
      have hn2d := hidden (hn2c.out.below hb4')
      have hg2d := hidden (hg2c.out.below hb4')
      have HB4 := hidden (HB3.out.trans (hb4'.mono HB3.out.size))
      clear hasc' hb4' hn1c hg1c hn2c hg2c HB3
      cases rb
      · go_wp2_with fail
        go_ret
        exact ⟨rfl, HB4.out⟩
      have hv4 := hidden (hv.out.below HB4.out)
      go_wp2_with fail
      refine (copy_any _ _ _ r _ HN.out hv4.out h0.out h1).mono ?_
      rintro e w5 ⟨a5, rfl, hv5', hb5'⟩
      have hv5 := hidden hv5'
      have hn1e := hidden (hn1d.out.below hb5')
      have hg1e := hidden (hg1d.out.below hb5')
      have hn2e := hidden (hn2d.out.below hb5')
      have hg2e := hidden (hg2d.out.below hb5')
      have HB5 := hidden (HB4.out.trans (hb5'.mono HB4.out.size))
      clear hv5' hb5' hn1d hg1d hn2d hg2d HB4 hv4
      go_wp2_with fail
      refine (zzjudge _ _ _ r st E S _ HN.out hv5.out (by rw [← HN.out]; exact h1) h2 hE.out hS.out).mono ?_
      rintro e w6 ⟨a8, c8, o, ok, rfl, ht6', hb6', hjd⟩
      have HJ := hidden hjd
      have ht6 := hidden ht6'
      have hn1f := hidden (hn1e.out.below hb6')
      have hg1f := hidden (hg1e.out.below hb6')
      have hn2f := hidden (hn2e.out.below hb6')
      have hg2f := hidden (hg2e.out.below hb6')
      have HB6 := hidden (HB5.out.trans (hb6'.mono HB5.out.size))
      clear hjd ht6' hb6' hn1e hg1e hn2e hg2e HB5 hv5 hv h0 hE hS
      obtain ⟨no, HNO⟩ : ∃ no, Hid (no = o.length) := ⟨_, rfl⟩
      rw [← HNO.out] at ht6
      rw [← HNO.out]
      obtain ⟨i9, hi9, hz90, hz91, hz92⟩ := info_parts Try.info9
      obtain ⟨i35, hi35, hz350, hz351, hz352⟩ := info_parts Try.info35
      go_upto_block 0 with fail
      go_cut [13, 14] (fun t13 t14 wx => ∃ (a13 : Option Addr) (nw c13 : Nat) (a14 : Option Addr) (c14 : Nat), t13 = .slice a13 nw c13 ∧ t14 = .slice a14 nw c14 ∧ Hid (nw = (want E S).length) ∧ Hid (NamesOf wx (.slice a13 nw c13) (want E S)) ∧ Hid (GensOf wx (.slice a14 nw c14) (want E S)) ∧ Hid (Below w6.heap.size w6 wx))
      case first =>
        go_wp2_with fail
        go_loopw [13, 14, 15] (fun t13 t14 i wr => ∃ k : Nat, k ≤ ne ∧ i = .int .i64 k ∧ Hid (wr.ownsRow w6.heap.size 9 1 t13 (want (E.take k) S).length (nameCells (want (E.take k) S))) ∧ Hid (wr.ownsRow w6.heap.size 35 1 t14 (want (E.take k) S).length (genCells (want (E.take k) S))) ∧ Hid (Below w6.heap.size w6 wr)) (fun _ _ i _ => ne - (intOf i).toNat)
        case atStart => exact ⟨0, by omega, rfl, World.ownsRow_nil _ _ _ _, World.ownsRow_nil _ _ _ _, Below.refl _ _⟩
        case round =>
          obtain ⟨k, hk, rfl, HO1, HO2, HBr⟩ := hrel
          by_cases hlt : k < ne
          · obtain ⟨b1, o1, rfl, hc1⟩ := hn1f.out.at HNE.out (by omega)
            obtain ⟨b2, o2, rfl, hc2⟩ := hg1f.out.at HNE.out (by omega)
            have hcn := (HBr.out.cell (World.block_lt_of_cell? _ _ (hc1 k hlt))).trans (hc1 k hlt)
            have HC2 := hidden (hc2 k hlt)
            have HNm := hidden (named_any a3 ns c3 S (tg E k).1 wr HNS.out (by omega) (hn2f.out.below HBr.out))
            have HW := hidden (want_take E S k (by rw [← HNE.out]; exact hlt))
            have hwl := want_le E S k
            obtain ⟨W, hWW⟩ : ∃ W, want (E.take k) S = W := ⟨_, rfl⟩
            rw [hWW] at HO1 HO2 HW hwl
            clear hc1 hc2 hWW
            cases hnb : namB S (tg E k).1
            · have HW2 : Hid (want (E.take (k + 1)) S = W ++ [tg E k]) := by show _ = _; rw [HW.out, hnb]; rfl
              have HNm2 := HNm
              rw [hnb] at HNm2
              clear HNm hnb HW
              go_wp2_with fail
              refine HNm2.out.mono ?_
              rintro e w' ⟨rfl, rfl⟩
              go_upto_region 20 with (at_builtin; refine wpList_append_own _ rfl _ _ 25 rfl w6.heap.size 9 i9 (.string ByteArray.empty) 1 16 Try.underlying25 hi9 hz90 hz91 hz92 rfl (by decide) _ W.length _ rfl (HO1.out.alloc _) ⟨wr.heap.size, 0, none⟩ 1 1 [.string (tg E k).1] rfl rfl (cell_one_new _ _ _) (fun u hu => by simp at hu; subst hu; rfl) (by unfold maxLen; omega) (by omega) (by have := HBr.out.size; simp; omega) ?_; intro v5 w7 hown5 hgrow5 hnl5)
              have HB7 := hidden (one_pushed HO1.out HBr.out.size HBr.out hown5 hgrow5)
              have HG7 := hidden ((HO2.out.alloc _).kept hgrow5 (own_ne HO2.out HO1.out (by decide)))
              have HN7 := hidden hown5
              have hcg := (HB7.out.cell (World.block_lt_of_cell? _ _ HC2.out)).trans HC2.out
              clear hown5 hgrow5 hnl5 HO1 HO2 HBr hcn HNm2
              go_wp2_with (at_builtin; refine wpList_append_own _ rfl _ _ 26 rfl w6.heap.size 35 i35 (.int .u64 0) 1 8 Try.underlying26 hi35 hz350 hz351 hz352 rfl (by decide) _ W.length _ rfl (HG7.out.alloc _) ⟨w7.heap.size, 0, none⟩ 1 1 [.int .u64 (tg E k).2] rfl rfl (cell_one_new _ _ _) (fun u hu => by simp at hu; subst hu; rfl) (by unfold maxLen; omega) (by omega) (by have := HB7.out.size; simp; omega) ?_; intro v6 w8 hown6 hgrow6 hnl6)
              have HB8 := hidden (one_pushed HG7.out HB7.out.size HB7.out hown6 hgrow6)
              have HN8 := hidden ((HN7.out.alloc _).kept hgrow6 (own_ne HN7.out HG7.out (by decide)))
              have HG8 := hidden hown6
              clear hown6 hgrow6 hnl6
              go_roundw
              case rel => exact ⟨k + 1, by omega, by go_num, by rw [HW2.out, nameCells_snoc, List.length_append]; exact HN8, by rw [HW2.out, genCells_snoc, List.length_append]; exact HG8, HB8⟩
              case measure => simp [intOf]; omega
            · have HW2 : Hid (want (E.take (k + 1)) S = W) := by show _ = _; rw [HW.out, hnb]; simp
              have HNm2 := HNm
              rw [hnb] at HNm2
              clear HNm hnb HW
              go_wp2_with fail
              refine HNm2.out.mono ?_
              rintro e w' ⟨rfl, rfl⟩
              go_wp2_with fail
              go_roundw
              case rel => exact ⟨k + 1, by omega, by go_num, by rw [HW2.out]; exact HO1, by rw [HW2.out]; exact HO2, HBr⟩
              case measure => simp [intOf]; omega
          · have hkE : want (E.take k) S = want E S := by rw [List.take_of_length_le (by rw [← HNE.out]; omega)]
            rw [hkE] at HO1 HO2
            obtain ⟨a13, c13, e13, hN13⟩ := NamesOf.of_own HO1.out
            obtain ⟨a14, c14, e14, hG14⟩ := GensOf.of_own HO2.out
            subst e13 e14
            have HN13 := hidden hN13
            have HG14 := hidden hG14
            clear hN13 hG14 hkE HO1 HO2
            go_wp2_with fail
            go_meet
            exact ⟨a13, _, c13, a14, c14, rfl, rfl, rfl, HN13, HG14, HBr⟩
      case rest =>
        obtain ⟨a13, nw, c13, a14, c14, rfl, rfl, HNW, hnw, hgw, HBc⟩ := hcut
        clear hi9 hz90 hz91 hz92 hi35 hz350 hz351 hz352
        go_upto_block 2 with fail
        go_cut [16] (fun t wx => (∃ x, t = .int .i64 x ∧ Hid (IsBad E S x)) ∧ Hid (NamesOf wx (.slice a13 nw c13) (want E S)) ∧ Hid (GensOf wx (.slice a14 nw c14) (want E S)) ∧ Hid (Below w6.heap.size w6 wx))
        case first =>
          go_wp2_with fail
          go_loopw [16, 17] (fun t i wr => ∃ k : Nat, k ≤ ns ∧ i = .int .i64 k ∧ t = .int .i64 (-1) ∧ Hid (∀ i, i < k → carB E (tg S i).1 (tg S i).2 = true) ∧ Hid (Below wc.heap.size wc wr)) (fun _ i _ => ns - (intOf i).toNat)
          case atStart => exact ⟨0, by omega, rfl, rfl, fun i hi => by omega, Below.refl _ _⟩
          case round =>
            obtain ⟨k, hk, rfl, rfl, HK, HBr⟩ := hrel
            have HBw := hidden (HBc.out.trans (HBr.out.mono HBc.out.size))
            by_cases hlt : k < ns
            · obtain ⟨b3, o3, rfl, hc3⟩ := hn2f.out.at HNS.out (by omega)
              obtain ⟨b4, o4, rfl, hc4⟩ := hg2f.out.at HNS.out (by omega)
              have hcn := (HBw.out.cell (World.block_lt_of_cell? _ _ (hc3 k hlt))).trans (hc3 k hlt)
              have hcg := (HBw.out.cell (World.block_lt_of_cell? _ _ (hc4 k hlt))).trans (hc4 k hlt)
              have hcq : ∀ N, Calls Try.prog 13 #[.slice a1 ne c1, .slice a2 ne c2, .string (tg S k).1, .int .u64 (tg S k).2] (wr.drewN N) fun e w' => e = .returned (.bool (carB E (tg S k).1 (tg S k).2)) ∧ w' = wr.drewN N := fun N => by
                have hbN := drewN_below HBw.out N
                exact carries_q a1 a2 ne c1 c2 E _ _ _ HNE.out (by omega) (hn1f.out.below hbN) (hg1f.out.below hbN)
              have HCQ := hidden hcq
              have hk0 : (0 : Int) ≤ (k : Int) := by omega
              have hk1 : (k : Int) < (ns : Int) := by omega
              clear hc3 hc4 hcq
              cases hcb : carB E (tg S k).1 (tg S k).2
              · rw [hcb] at HCQ
                have HBad : Hid (IsBad E S k) := .inr ⟨k, rfl, by rw [← HNS.out]; exact hlt, HK.out, hcb⟩
                clear hcb
                go_wp2_with fail
                go_quiet ((go_at_call 13; exact Calls.quiet_of_same (HCQ.out _)))
                go_wp2_with fail
                go_meet
                have hbN := drewN_below HBr.out nq
                exact ⟨⟨_, rfl, HBad⟩, hnw.out.below hbN, hgw.out.below hbN, drewN_below HBw.out _⟩
              · rw [hcb] at HCQ
                have HK2 : Hid (∀ i, i < k + 1 → carB E (tg S i).1 (tg S i).2 = true) := fun i hi => by
                  rcases Nat.lt_succ_iff_lt_or_eq.1 hi with h | h
                  · exact HK.out i h
                  · rw [h]; exact hcb
                clear hcb
                go_wp2_with fail
                go_quiet ((go_at_call 13; exact Calls.quiet_of_same (HCQ.out _)))
                go_wp2_with fail
                go_roundw
                case rel => exact ⟨k + 1, by omega, by go_num, rfl, HK2, drewN_below HBr.out _⟩
                case measure => simp [intOf]; omega
            · have HBad : Hid (IsBad E S (-1)) := .inl ⟨rfl, fun u hu => by
                obtain ⟨i, hi, rfl⟩ := mem_tg hu
                exact HK.out i (by rw [← HNS.out] at hi; omega)⟩
              go_wp2_with fail
              go_meet
              exact ⟨⟨_, rfl, HBad⟩, hnw.out.below HBr.out, hgw.out.below HBr.out, HBw⟩
        case rest =>
          clear hnw hgw HBc
          obtain ⟨⟨x, rfl, HX⟩, hnw, hgw, HBc⟩ := hcut
          rcases HX.out with ⟨rfl, hall⟩ | ⟨j, rfl, hj, hcar, hnc⟩
          · have hjd := jd_all E S (HA1.out (by trivial)) (HA2.out (by trivial)) hall
            obtain ⟨rfl, rfl⟩ : ok = true ∧ o = want E S := by
              rcases HJ.out with ⟨h, _⟩ | ⟨S', h, h'⟩
              · rw [h] at hjd; cases hjd
              · rw [h] at hjd
                simp only [Option.some.injEq, Prod.mk.injEq] at hjd
                exact ⟨by rw [h', hjd.2]; rfl, hjd.1⟩
            obtain rfl : no = nw := by rw [HNO.out, HNW.out]
            have ht7 := hidden (ht6.out.below HBc.out)
            have hwl := want_le E S E.length
            rw [List.take_length, ← HNE.out, ← HNW.out] at hwl
            clear hall hjd
            go_wp2_with fail
            refine (others_any _ _ _ _ _ _ _ (want E S) _ HNW.out (by omega) ht7.out hnw.out hgw.out).mono ?_
            rintro e w9 ⟨rfl, hb9⟩
            go_wp2_with fail
            go_ret
            exact ⟨rfl, (HB6.out.trans (HBc.out.mono HB6.out.size)).trans (hb9.mono (Nat.le_trans HB6.out.size HBc.out.size))⟩
          · have hsp := split_at hj
            have hA2 := HA2.out (by trivial)
            rw [hsp] at hA2
            have hcar2 : ∀ u ∈ S.take j, carB E u.1 u.2 = true := fun u hu => by
              obtain ⟨i, hi, _, rfl⟩ := take_mem hu
              exact hcar i hi
            have hjn : j < ns := by rw [HNS.out]; exact hj
            by_cases hx : ∃ e ∈ E, lessB e.1 (tg S j).1 = false
            · have hjd : jd E S = none := by
                have := jd_bad E (S.take j) (tg S j) (S.drop (j + 1)) (HA1.out (by trivial)) hA2 hcar2 hnc hx
                rw [← hsp] at this
                exact this
              obtain ⟨rfl, rfl⟩ : ok = false ∧ o = [] := by
                rcases HJ.out with ⟨_, h, h'⟩ | ⟨S', h, _⟩
                · exact ⟨h', h⟩
                · rw [h] at hjd; cases hjd
              obtain rfl : no = 0 := HNO.out
              have HXe := hidden hx
              clear hjd hx hcar hcar2 hnc hA2 hsp hj HX
              obtain ⟨b3, o3, rfl, hc3⟩ := hn2f.out.at HNS.out (by omega)
              have HC3 := hidden (hc3 j hjn)
              clear hc3
              go_wp2_with fail
              go_loopw [18] (fun i wr => ∃ k : Nat, k ≤ ne ∧ i = .int .i64 k ∧ Hid (∀ i, i < k → lt (tg E i) (tg S j)) ∧ Hid (Below w6.heap.size w6 wr)) (fun i _ => ne - (intOf i).toNat)
              case atStart => exact ⟨0, by omega, rfl, fun i hi => by omega, HBc⟩
              case round =>
                clear hnw hgw HBc
                obtain ⟨k, hk, rfl, HK, HBr⟩ := hrel
                have hkn : k < ne := by
                  rcases Nat.lt_or_eq_of_le hk with h | h
                  · exact h
                  · obtain ⟨e, he, hle⟩ := HXe.out
                    obtain ⟨i, hi, rfl⟩ := mem_tg he
                    have := HK.out i (by rw [h, HNE.out]; exact hi)
                    rw [lt, hle] at this
                    cases this
                obtain ⟨b1, o1, rfl, hc1⟩ := hn1f.out.at HNE.out (by omega)
                have hcn := (HBr.out.cell (World.block_lt_of_cell? _ _ (hc1 k hkn))).trans (hc1 k hkn)
                have hcs := (HBr.out.cell (World.block_lt_of_cell? _ _ HC3.out)).trans HC3.out
                have hk0 : (0 : Int) ≤ (k : Int) := by omega
                have hk1 : (k : Int) < (ne : Int) := by omega
                have hj0 : (0 : Int) ≤ (j : Int) := by omega
                have hj1 : (j : Int) < (ns : Int) := by omega
                clear hc1
                cases hls : Op.bytesLess (tg E k).1.toList (tg S j).1.toList
                · go_wp2_with fail
                  go_quiet (fail)
                  go_wp2_with fail
                  go_ret
                  exact ⟨rfl, HB6.out.trans ((drewN_below HBr.out _).mono HB6.out.size)⟩
                · have HK2 : Hid (∀ i, i < k + 1 → lt (tg E i) (tg S j)) := fun i hi => by
                    rcases Nat.lt_succ_iff_lt_or_eq.1 hi with h | h
                    · exact HK.out i h
                    · rw [h]; exact hls
                  go_wp2_with fail
                  go_quiet (fail)
                  go_wp2_with fail
                  go_roundw
                  case rel => exact ⟨k + 1, by omega, by go_num, HK2, drewN_below HBr.out _⟩
                  case measure => simp [intOf]; omega
            · have hall : ∀ e ∈ E, lt e (tg S j) := fun e he => by
                cases h : lessB e.1 (tg S j).1
                · exact absurd ⟨e, he, h⟩ hx
                · exact h
              have hjd : jd E S = some (want E S, tg S j :: S.drop (j + 1)) := by
                have := jd_end E (S.take j) (tg S j) (S.drop (j + 1)) (HA1.out (by trivial)) hA2 hcar2 hall
                rw [← hsp] at this
                exact this
              obtain ⟨rfl, rfl⟩ : ok = false ∧ o = want E S := by
                rcases HJ.out with ⟨h, _⟩ | ⟨S', h, h'⟩
                · rw [h] at hjd; cases hjd
                · rw [h] at hjd
                  simp only [Option.some.injEq, Prod.mk.injEq] at hjd
                  exact ⟨by rw [h', hjd.2]; rfl, hjd.1⟩
              obtain rfl : no = nw := by rw [HNO.out, HNW.out]
              have hwl := want_le E S E.length
              rw [List.take_length, ← HNE.out, ← HNW.out] at hwl
              have HAll := hidden hall
              clear hjd hx hcar hcar2 hnc hA2 hsp hj hall HX
              obtain ⟨b3, o3, rfl, hc3⟩ := hn2f.out.at HNS.out (by omega)
              have HC3 := hidden (hc3 j hjn)
              clear hc3
              go_wp2_with fail
              go_loopw [18] (fun i wr => ∃ k : Nat, k ≤ ne ∧ i = .int .i64 k ∧ Hid (NamesOf wr (.slice a13 no c13) (want E S)) ∧ Hid (GensOf wr (.slice a14 no c14) (want E S)) ∧ Hid (Below w6.heap.size w6 wr)) (fun i _ => ne - (intOf i).toNat)
              case atStart => exact ⟨0, by omega, rfl, hnw, hgw, HBc⟩
              case round =>
                clear hnw hgw HBc
                obtain ⟨k, hk, rfl, hnw, hgw, HBr⟩ := hrel
                by_cases hkn : k < ne
                · have hls : Op.bytesLess (tg E k).1.toList (tg S j).1.toList = true := HAll.out (tg E k) (tg_mem (by rw [← HNE.out]; exact hkn))
                  obtain ⟨b1, o1, rfl, hc1⟩ := hn1f.out.at HNE.out (by omega)
                  have hcn := (HBr.out.cell (World.block_lt_of_cell? _ _ (hc1 k hkn))).trans (hc1 k hkn)
                  have hcs := (HBr.out.cell (World.block_lt_of_cell? _ _ HC3.out)).trans HC3.out
                  have hk0 : (0 : Int) ≤ (k : Int) := by omega
                  have hk1 : (k : Int) < (ne : Int) := by omega
                  have hj0 : (0 : Int) ≤ (j : Int) := by omega
                  have hj1 : (j : Int) < (ns : Int) := by omega
                  clear hc1
                  go_wp2_with fail
                  go_quiet (fail)
                  go_wp2_with fail
                  go_roundw
                  case rel => exact ⟨k + 1, by omega, by go_num, hnw.out.below (drewN_below (Below.refl _ _) _), hgw.out.below (drewN_below (Below.refl _ _) _), drewN_below HBr.out _⟩
                  case measure => simp [intOf]; omega
                · have ht7 := hidden (ht6.out.below HBr.out)
                  go_wp2_with fail
                  refine (others_any _ _ _ _ _ _ _ (want E S) _ HNW.out (by omega) ht7.out hnw.out hgw.out).mono ?_
                  rintro e w9 ⟨rfl, hb9⟩
                  go_wp2_with fail
                  go_ret
                  exact ⟨rfl, (HB6.out.trans (HBr.out.mono HB6.out.size)).trans (hb9.mono (Nat.le_trans HB6.out.size HBr.out.size))⟩
    · go_enter Try.func4, Try.ntmps4
      go_wp2_with fail
      refine (bytes7 _ _ _ _ _ hl' hst').mono ?_
      rintro e w' ⟨⟨b, rfl⟩, rfl⟩
      cases b <;>
      · go_wp2_with fail
        go_ret
        exact ⟨rfl, Below.refl _ _⟩
  · go_enter Try.func4, Try.ntmps4
    go_wp2_with fail
    refine (bytes7 _ _ _ _ _ hl' hst').mono ?_
    rintro e w' ⟨⟨b, rfl⟩, rfl⟩
    cases b <;>
    · go_wp2_with fail
      go_ret
      exact ⟨rfl, Below.refl _ _⟩
end Go.Proofs.Qxb6605374a
