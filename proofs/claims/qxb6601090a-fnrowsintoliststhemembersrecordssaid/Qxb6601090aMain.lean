import Derived.Test.Qxb6601090aInto
import Derived.Lib.Builder
namespace Go.Proofs.Qxb6601090a
open Go.ChangeShapes Go.WideShapes Go.ChangeAt Go.RowKit Go.Maps Go.ChangeMaps

/-- WHAT THE LAST LOOP MEETS: J k rows belong to the first k records. -/
def Fin' (w : World) (g len bt n : Nat) (ss : List ByteArray) (s : ByteArray) (J : Nat → Nat) : Prop :=
  J 0 = 0 ∧ J n = len ∧ ∀ k, k < n → (at' ss k = s → J k < len ∧ J (k + 1) = J k + 1 ∧ w.cell? ⟨g, J k * 2, none⟩ = some (.pointer (some ⟨bt, 0, none⟩)) ∧ w.cell? ⟨g, J k * 2 + 1, none⟩ = some (.int .i64 k)) ∧ (at' ss k ≠ s → J (k + 1) = J k)

theorem Given.fin {w : World} {g len bt n M : Nat} {ss ids : List ByteArray} {s : ByteArray} {f r : Nat → Nat} (h : Given w g len bt s n M ids f r) (hG : Grp ss n ids f) (hM : M = ids.length) (hr : ∀ j, j < n → r (pos f n j) = j) :
    ∃ J, Fin' w g len bt n ss s J := by
  rcases h with ⟨i, hi, he, rfl, hc⟩ | ⟨hn, rfl⟩
  · refine ⟨fun k => cnt f k i, rfl, rfl, fun k hk => ⟨fun e => ?_, fun e => ?_⟩⟩
    · have hfk : f k = i := at_inj hG.nodup (hG.lt k hk) (by rw [← hM]; exact hi) (by rw [hG.eq k hk, e, he])
      have hlt : cnt f k i < cnt f n i := by have := cnt_lt f hk; rw [hfk] at this; exact this
      have h1 := hc _ hlt
      have h2 := hr k hk
      unfold pos at h2
      rw [hfk] at h2
      rw [h2] at h1
      exact ⟨hlt, by show cnt f k i + _ = _; rw [if_pos hfk], h1.1, h1.2⟩
    · have hfk : f k ≠ i := fun h => e (by rw [← hG.eq k hk, h, he])
      show cnt f k i + _ = _
      rw [if_neg hfk]
      rfl
  · refine ⟨fun _ => 0, rfl, rfl, fun k hk => ⟨fun e => ?_, fun _ => rfl⟩⟩
    exact absurd (by rw [← e, ← hG.eq k hk]; exact at_mem (hG.lt k hk)) hn

theorem Fin'.le {w : World} {g len bt n : Nat} {ss : List ByteArray} {s : ByteArray} {J : Nat → Nat} (h : Fin' w g len bt n ss s J) : ∀ k, k ≤ n → J k ≤ k
  | 0, _ => by rw [h.1]; exact Nat.le_refl _
  | k + 1, hk => by
    have h1 := Fin'.le h k (by omega)
    have h2 := h.2.2 k (by omega)
    by_cases e : at' ss k = s
    · have := (h2.1 e).2.1; omega
    · have := h2.2 e; omega

theorem RD.wide {w : World} {H H' n M gi bm gr gf : Nat} {ids : List ByteArray} {f r : Nat → Nat} (h : RD w H n M gi bm gr gf ids f r) (hH : H ≤ H') : RD w H' n M gi bm gr gf ids f r :=
  ⟨h.idc, h.recs, h.first, h.map, Nat.lt_of_lt_of_le h.li hH, Nat.lt_of_lt_of_le h.lr hH, Nat.lt_of_lt_of_le h.lf hH, Nat.lt_of_lt_of_le h.lm hH⟩

theorem below_none {w w' : World} (hg : w.grownBy w' none) : Below w.heap.size w w' := ⟨hg.os, hg.tape, hg.output, hg.size, fun k hk => hg.block k hk (by simp)⟩

theorem info54 : ∃ j, Try.prog.info? 54 = some j := by
  have h : (Try.prog.info? 54).isSome = true := by kernel_rfl
  exact Option.isSome_iff_exists.1 h

theorem ptr_same (bt : Nat) (w : World) : (binOp .neq 32 (.pointer (some ⟨bt, 0, none⟩)) (.pointer (some ⟨bt, 0, none⟩))).run Try.prog w = .ok (.bool false) w := by
  obtain ⟨j, hj⟩ := info54
  exact Lib.run_neq_ptr_same w _ Try.underlying32 hj

theorem copy_parts {w1 : World} {a1 : Option Addr} {n : Nat} {ss : List ByteArray} (hn : n = ss.length) (hv : Strs w1 (.slice a1 n n) ss) (ha : a1 = none ∨ ∃ b, a1 = some ⟨b, 0, none⟩) :
    ∃ b1, (0 < n → a1 = some ⟨b1, 0, none⟩) ∧ (0 < n → b1 < w1.heap.size) ∧ ∀ i, i < n → w1.cell? ⟨b1, 0 + i, none⟩ = some (.string (at' ss i)) := by
  subst hn
  obtain ⟨a2, c2, hv2, hv3⟩ := hv
  cases hv2
  by_cases h0 : 0 < ss.length
  · obtain ⟨b, o, rfl, hc⟩ := hv3 h0
    rcases ha with h | ⟨b', h⟩
    · cases h
    · cases h
      exact ⟨b, fun _ => rfl, fun _ => World.block_lt_of_cell? _ _ (hc 0 h0), hc⟩
  · exact ⟨0, fun h => absurd h h0, fun h => absurd h h0, fun i hi => by omega⟩

set_option maxRecDepth 100000 in
set_option maxHeartbeats 4000000 in
theorem main4 (a : Option Addr) (n c : Nat) (s : ByteArray) (pl rl : Int) (ss : List ByteArray) (w : World) (HV : Hid (Strs w (.slice a n c) ss)) (HN : Hid (n = ss.length)) (H0 : Hid (a = none → c = 0)) (hl : n ≤ maxLen) (hsz : Hid (∀ i, (at' ss i).size ≤ maxLen)) (hs : s.size ≤ maxLen) :
    Calls Try.prog 4 #[.slice a n c, .string s, .int .i64 pl, .int .i64 rl] w fun e w' => e = .returned (.bool true) ∧ Below w.heap.size w w' := by
  have hl' := hidden hl
  have hsz2 := hsz
  have hs' := hidden hs
  unfold maxLen at hl hs
  obtain ⟨i38, hi38, hz0, hz1, hz2⟩ := info_parts Try.info38
  by_cases h1 : n ≤ 65536
  · by_cases h2 : s.size ≤ 1048576
    · go_enter Try.func4, Try.ntmps4
      go_wp2_with fail
      refine (bytes7_any _ _ _ _ _ _ HV.out (by rw [← HN.out]; exact hl'.out) hsz.out hs'.out).mono ?_
      rintro e w' ⟨⟨b, rfl, hb⟩, rfl⟩
      cases b
      · clear hb
        go_wp2_with fail
        go_ret
        exact ⟨rfl, Below.refl _ _⟩
      have HSZ : Hid (∀ i, i < n → (at' ss i).size ≤ 1048576) := hidden (fun i hi => hb rfl i (by rw [← HN.out]; exact hi))
      clear hb
      go_wp2_with fail
      go_loop [9, 10] (fun t9 t10 => ∃ k m : Nat, k ≤ n ∧ t10 = .int .i64 k ∧ t9 = .int .i64 m ∧ m ≤ 1048576) (fun _ t10 => n - (intOf t10).toNat)
      case atStart => exact ⟨0, s.size, Nat.zero_le _, rfl, rfl, h2⟩
      case round =>
        obtain ⟨k, m, hk, rfl, rfl, hm⟩ := hrel
        by_cases hlt : k < n
        · obtain ⟨a1, c1, hv1, hv2⟩ := HV.out
          have hv0 := HN.out
          obtain ⟨b, o, rfl, hc⟩ := hv2 (by omega)
          cases hv1
          have hcell := hc k (by omega)
          have hsk := HSZ.out k hlt
          clear hc hv2 hv0
          by_cases h3 : m + (16 + (at' ss k).size) ≤ 1048576
          · go_wp2_with fail
            go_round
            case rel => exact ⟨k + 1, m + (16 + (at' ss k).size), by omega, by go_num, by go_num, h3⟩
            case measure => simp [intOf]; omega
          · go_wp2_with fail
            go_ret
            exact ⟨rfl, Below.refl _ _⟩
        · by_cases h4 : rl < 0
          · go_wp2_with fail
            go_ret
            exact ⟨rfl, Below.refl _ _⟩
          obtain ⟨R, rfl⟩ : ∃ R : Nat, rl = (R : Int) := ⟨rl.toNat, by omega⟩
          by_cases h5 : R ≤ 65536
          · clear hsz hl' hl HSZ
            go_wp2_with fail
            clear hm hlt hk h2
            refine (copy_n a n c ss w HV.out HN.out H0.out h1).mono ?_
            rintro e w1 ⟨a1, rfl, hv1', ha1', hb1'⟩
            obtain ⟨b1, hab', hbl', hcc'⟩ := copy_parts HN.out hv1' ha1'
            have HAB := hidden hab'
            have HBL := hidden hbl'
            have HCC := hidden hcc'
            have HB1 := hidden hb1'
            clear hab' hbl' hcc' hb1' hv1' ha1' HV H0
            go_wp2_with fail
            refine (group a1 b1 0 n n ss w1 h1 hsz2.out HAB.out HBL.out HCC.out).mono ?_
            rintro e w2 ⟨M, gi, ci, bm, gr, gf, ids, f, rfl, hM, hG'⟩
            obtain ⟨r, hR', hr'⟩ := hG'.read
            have HG := hidden hG'.grp
            have HL := hidden hG'.len
            have HB2 := hidden hG'.below
            have HR := hidden hR'
            have Hr := hidden hr'
            clear hG' hR' hr'
            go_wp2_with fail
            refine (make_mr _ _ _ _ _ _ _ _ _ _ w2).mono ?_
            rintro e w3 ⟨bs, bt, rfl, hm3', hbs', hb3'⟩
            have HF := hidden (show fst' f n M ≤ n from HG.out.fst_le (by rw [HL.out]; exact Nat.le_refl _))
            have HM := hidden hm3'
            have HBS := hidden hbs'
            have HR3 := hidden ((HR.out.below hb3').wide hb3'.size)
            have HB3 := hidden (HB1.out.trans ((HB2.out.mono HB1.out.size).trans (hb3'.mono (Nat.le_trans HB1.out.size HB2.out.size))))
            have HS3 := hidden (Nat.le_trans HB2.out.size hb3'.size)
            have HC3 : Hid (∀ i, i < n → w3.cell? ⟨b1, 0 + i, none⟩ = some (.string (at' ss i))) := hidden (fun i hi =>
              (((HB2.out.trans (hb3'.mono HB2.out.size)).cell (HBL.out (by omega)))).trans (HCC.out i hi))
            clear hm3' hbs' hb3' HR HB2 HCC
            go_wp2_with fail
            refine (member_file bs bt _ _ _ _ w3 HM.out).mono ?_
            rintro e w' ⟨rfl, rfl⟩
            go_upto_region 19 with (at_make; refine wpList_make_full _ rfl _ _ 34 rfl w3.heap.size 38 i38 (.agg #[.pointer none, .int .i64 0]) 2 Try.underlying34 hi38 hz0 hz1 _ _ _ _ R rfl rfl rfl rfl (by rw [hz2]; omega) (by unfold maxLen; omega) (Nat.le_refl _) ?_; intro w4 hown4' hg4')
            have HO4 := hidden hown4'
            have hb4' := below_none hg4'
            have HR4 := hidden (HR3.out.below hb4')
            have HM4 := hidden (HM.out.below HBS.out hb4')
            have HS4 := hidden hb4'.size
            have HB4 := hidden (HB3.out.trans (hb4'.mono HB3.out.size))
            have HC4 : Hid (∀ i, i < n → w4.cell? ⟨b1, 0 + i, none⟩ = some (.string (at' ss i))) := hidden (fun i hi =>
              (hb4'.cell (Nat.lt_of_lt_of_le (HBL.out (by omega)) HS3.out)).trans (HC3.out i hi))
            clear hown4' hg4' hb4' HR3 HM HC3
            go_wp2_with fail
            refine (into12 bs bt gi ci n M bm gr gf w3.heap.size R w3.heap.size s pl ids f r _ w4 h1 hM h5 hs'.out HL HF HR4 HM4 HBS HS4 HO4).mono ?_
            rintro e w5 ⟨g, len, c', rfl, hle, hg', hb5'⟩
            obtain ⟨J, hJ'⟩ := hg'.fin HG.out HL.out Hr.out
            have HJ := hidden hJ'
            have HB5 := hidden (HB4.out.trans (hb5'.mono HB3.out.size))
            have HC5 : Hid (∀ i, i < n → w5.cell? ⟨b1, 0 + i, none⟩ = some (.string (at' ss i))) := hidden (fun i hi =>
              (hb5'.cell (Nat.lt_of_lt_of_le (HBL.out (by omega)) HS3.out)).trans (HC4.out i hi))
            clear hg' hJ' hb5' HG HL HF Hr HR4 HM4 HBS HS4 HO4 HB3 HS3 HB4 HC4 HB1 HBL
            have hpt := ptr_same bt
            go_wp2_with fail
            go_loopw [19, 20] (fun t19 t20 wr => ∃ k j : Nat, k ≤ n ∧ j ≤ k ∧ t20 = .int .i64 k ∧ t19 = .int .i64 j ∧ Hid (j = J k) ∧ Hid (Below w5.heap.size w5 wr)) (fun _ t20 _ => n - (intOf t20).toNat)
            case atStart => exact ⟨0, 0, Nat.zero_le _, Nat.zero_le _, rfl, rfl, hidden HJ.out.1.symm, hidden (Below.refl _ _)⟩
            case round =>
              obtain ⟨k, j, hk, hjk, rfl, rfl, HE, HW⟩ := hrel
              by_cases hlt : k < n
              · obtain rfl := HAB.out (by omega)
                have hcell : wr.cell? ⟨b1, 0 + k, none⟩ = some (.string (at' ss k)) := (HW.out.cell (World.block_lt_of_cell? _ _ (HC5.out k hlt))).trans (HC5.out k hlt)
                rw [Nat.zero_add] at hcell
                by_cases he : at' ss k = s
                · obtain ⟨h6, h7, h8, h9⟩ := (HJ.out.2.2 k hlt).1 he
                  rw [← HE.out] at h6 h7 h8 h9
                  have hq1 : ((at' ss k).toList == s.toList) = true := str_eq.2 he
                  have hq2 : ((at' ss k).toList != s.toList) = false := by simp [bne, hq1]
                  have HT := hidden h7
                  have h8' := (HW.out.cell (World.block_lt_of_cell? _ _ h8)).trans h8
                  have h9' := (HW.out.cell (World.block_lt_of_cell? _ _ h9)).trans h9
                  have HE' := hidden he
                  clear he h7
                  go_wp2_with fail
                  refine (row_record _ _ _).mono ?_
                  rintro e w6 ⟨rfl, hb6⟩
                  have g8 := (hb6.cell (World.block_lt_of_cell? _ _ h8')).trans h8'
                  have g9 := (hb6.cell (World.block_lt_of_cell? _ _ h9')).trans h9'
                  have HW6 := hidden (HW.out.trans (hb6.mono HW.out.size))
                  clear h8 h9 h8' h9' hb6 hcell HW
                  go_wp2_with fail
                  refine (row_table _ _ _).mono ?_
                  rintro e w7 ⟨rfl, hb7⟩
                  have HW7 := hidden (HW6.out.trans (hb7.mono HW6.out.size))
                  clear g8 g9 hb7 HW6
                  go_wp2_with fail
                  go_roundw
                  case rel => exact ⟨k + 1, j + 1, by omega, by omega, by go_num, by go_num, hidden HT.out.symm, HW7⟩
                  case measure => simp [intOf]; omega
                · have hq1 : ((at' ss k).toList == s.toList) = false := by
                    cases hq : ((at' ss k).toList == s.toList)
                    · rfl
                    · exact absurd (str_eq.1 hq) he
                  have hq2 : ((at' ss k).toList != s.toList) = true := by simp [bne, hq1]
                  have HT := hidden ((HJ.out.2.2 k hlt).2 he)
                  go_wp2_with fail
                  go_roundw
                  case rel => exact ⟨k + 1, j, by omega, by omega, by go_num, rfl, hidden (by rw [HT.out]; exact HE.out), HW⟩
                  case measure => simp [intOf]; omega
              · obtain rfl : k = n := by omega
                have hj : j = len := HE.out.trans HJ.out.2.1
                subst hj
                go_wp2_with fail
                go_ret
                exact ⟨rfl, HB5.out.trans (HW.out.mono HB5.out.size)⟩
          · go_wp2_with fail
            go_ret
            exact ⟨rfl, Below.refl _ _⟩
    · go_enter Try.func4, Try.ntmps4
      go_wp2_with fail
      refine (bytes7_any _ _ _ _ _ _ HV.out (by rw [← HN.out]; exact hl'.out) hsz.out hs'.out).mono ?_
      rintro e w' ⟨⟨b, rfl, hb⟩, rfl⟩
      clear hb
      cases b
      · go_wp2_with fail
        go_ret
        exact ⟨rfl, Below.refl _ _⟩
      · go_wp2_with fail
        go_ret
        exact ⟨rfl, Below.refl _ _⟩
  · go_enter Try.func4, Try.ntmps4
    go_wp2_with fail
    refine (bytes7_any _ _ _ _ _ _ HV.out (by rw [← HN.out]; exact hl'.out) hsz.out hs'.out).mono ?_
    rintro e w' ⟨⟨b, rfl, hb⟩, rfl⟩
    clear hb
    cases b
    · go_wp2_with fail
      go_ret
      exact ⟨rfl, Below.refl _ _⟩
    · go_wp2_with fail
      go_ret
      exact ⟨rfl, Below.refl _ _⟩
end Go.Proofs.Qxb6601090a
