import Derived.Test.Qxb6605374aLaw6
namespace Go.Proofs.Qxb6605374a
open Go.ChangeShapes Go.WideShapes Go.ChangeAt Go.RowKit

theorem carries_q (a1 a2 : Option Addr) (n c1 c2 : Nat) (ts : List Tg) (nm : ByteArray) (g : Nat) (w : World) (hn : n = ts.length) (hl : n ≤ 65536) (h1 : NamesOf w (.slice a1 n c1) ts) (h2 : GensOf w (.slice a2 n c2) ts) :
    Calls Try.prog 13 #[.slice a1 n c1, .slice a2 n c2, .string nm, .int .u64 g] w fun e w' => e = .returned (.bool (carB ts nm g)) ∧ w' = w :=
  (carries_any a1 a2 n c1 c2 ts nm g w hn hl h1 h2).mono fun _ _ ⟨h, k⟩ => ⟨h, k.symm⟩

theorem tagname_b (s : ByteArray) (g : Nat) (w : World) :
    Calls Try.prog 16 #[.agg #[.string s, .int .u64 g]] w fun e w' => e = .returned (.string s) ∧ Below w.heap.size w w' :=
  (tagname s g w).mono fun _ _ ⟨h, k⟩ => ⟨h, by rw [k]; exact (Below.refl _ _).alloc (Nat.le_refl _) _⟩
theorem taggen_b (s : ByteArray) (g : Nat) (w : World) :
    Calls Try.prog 17 #[.agg #[.string s, .int .u64 g]] w fun e w' => e = .returned (.int .u64 g) ∧ Below w.heap.size w w' :=
  (taggen s g w).mono fun _ _ ⟨h, k⟩ => ⟨h, by rw [k]; exact (Below.refl _ _).alloc (Nat.le_refl _) _⟩

theorem NamesOf.at {w : World} {a : Option Addr} {n c : Nat} {ts : List Tg} (h : NamesOf w (.slice a n c) ts) (hn : n = ts.length) (h0 : 0 < n) : ∃ b o, a = some ⟨b, o, none⟩ ∧ ∀ i, i < n → w.cell? ⟨b, o + i, none⟩ = some (.string (tg ts i).1) := by
  subst hn
  obtain ⟨_, _, e, h⟩ := h
  cases e
  exact h h0
theorem GensOf.at {w : World} {a : Option Addr} {n c : Nat} {ts : List Tg} (h : GensOf w (.slice a n c) ts) (hn : n = ts.length) (h0 : 0 < n) : ∃ b o, a = some ⟨b, o, none⟩ ∧ ∀ i, i < n → w.cell? ⟨b, o + i, none⟩ = some (.int .u64 (tg ts i).2) := by
  subst hn
  obtain ⟨_, _, e, h⟩ := h
  cases e
  exact h h0
theorem Tags.at {w : World} {a : Option Addr} {n c : Nat} {ts : List Tg} (h : Tags w (.slice a n c) ts) (hn : n = ts.length) (h0 : 0 < n) : ∃ b o, a = some ⟨b, o, none⟩ ∧ ∀ i, i < n → w.cell? ⟨b, o + i * 2, none⟩ = some (.string (tg ts i).1) ∧ w.cell? ⟨b, o + i * 2 + 1, none⟩ = some (.int .u64 (tg ts i).2) := by
  subst hn
  obtain ⟨_, _, e, h⟩ := h
  cases e
  obtain ⟨b, o, rfl, hc⟩ := h h0
  exact ⟨b, o, rfl, fun i hi => by have := hc i hi; rw [Nat.mul_comm 2 i] at this; exact this⟩

theorem judged_some {E S o S' : List Tg} {B : Nat} {w w' : World} {e : Ending} (h : Judged E S B w e w') (k : jd E S = some (o, S')) : ∃ (a : Option Addr) (c : Nat), e = .returned (.tuple #[.slice a o.length c, .bool S'.isEmpty]) ∧ Tags w' (.slice a o.length c) o ∧ Below B w w' := by
  obtain ⟨a, c, o', ok, rfl, h3, h4, h5⟩ := h
  rcases h5 with ⟨h5, _⟩ | ⟨S'', h5, rfl⟩
  · rw [h5] at k; cases k
  · rw [h5] at k
    simp only [Option.some.injEq, Prod.mk.injEq] at k
    obtain ⟨rfl, rfl⟩ := k
    exact ⟨a, c, rfl, h3, h4⟩

set_option maxRecDepth 100000 in
set_option maxHeartbeats 2000000 in
theorem sound_core (a : Option Addr) (n c : Nat) (r st : ByteArray) (w : World) (HN : Hid (n = r.size)) (hv : Hid (BRow w (.slice a n c) r)) (h0 : Hid (a = none → c = 0)) (hl : n ≤ maxLen) (hst : st.size ≤ maxLen) :
    Calls Try.prog 5 #[.slice a n c, .string st] w fun e w' => e = .returned (.bool true) ∧ Below w.heap.size w w' := by
  have hl' := hl
  have hst' := hst
  unfold maxLen at hl hst
  by_cases h1 : n ≤ 65536
  · by_cases h2 : st.size ≤ 65536
    · go_enter Try.func5, Try.ntmps5
      go_wp2_with fail
      refine (bytes15 _ _ _ _ _ hl' hst').mono ?_
      rintro e w' ⟨⟨b, rfl⟩, rfl⟩
      clear hl' hst'
      cases b
      · go_wp2_with fail
        go_ret
        exact ⟨rfl, Below.refl _ _⟩
      have hconv := hv.out.conv
      go_wp2_with fail
      refine (parse_any r _ (by rw [← HN.out]; exact h1)).mono ?_
      rintro e w1 hp1
      clear hconv
      rcases hp1 with ⟨rfl, hb1'⟩ | ⟨E, a1, c1, a2, c2, rfl, hE', hn1', hg1', hb1'⟩
      · have HB1 := hidden hb1'
        clear hb1'
        go_wp2_with fail
        refine (parse_any st _ h2).mono ?_
        rintro e w2 hp2
        rcases hp2 with ⟨rfl, hb2'⟩ | ⟨S, a3, c3, a4, c4, rfl, _, _, _, hb2'⟩
        · have HB2 := hidden (HB1.out.trans (hb2'.mono HB1.out.size))
          clear hb2'
          go_wp2_with fail
          go_ret
          exact ⟨rfl, HB2.out⟩
        · have HB2 := hidden (HB1.out.trans (hb2'.mono HB1.out.size))
          clear hb2'
          go_wp2_with fail
          go_ret
          exact ⟨rfl, HB2.out⟩
      have hE := hidden hE'
      have hn1 := hidden hn1'
      have hg1 := hidden hg1'
      have HB1 := hidden hb1'
      have hEl := hE'.length_le
      rw [← HN.out] at hEl
      clear hE' hn1' hg1' hb1'
      obtain ⟨ne, HNE⟩ : ∃ ne, Hid (ne = E.length) := ⟨_, rfl⟩
      rw [← HNE.out] at hEl
      rw [← HNE.out]
      rw [← HNE.out] at hn1 hg1
      go_wp2_with fail
      refine (parse_any st _ h2).mono ?_
      rintro e w2 hp2
      rcases hp2 with ⟨rfl, hb2'⟩ | ⟨S, a3, c3, a4, c4, rfl, hS', hn2', hg2', hb2'⟩
      · have HB2 := hidden (HB1.out.trans (hb2'.mono HB1.out.size))
        clear hb2'
        go_wp2_with fail
        go_ret
        exact ⟨rfl, HB2.out⟩
      have hS := hidden hS'
      have hn2 := hidden hn2'
      have hg2 := hidden hg2'
      have hn1b := hidden (hn1.out.below hb2')
      have hg1b := hidden (hg1.out.below hb2')
      have HB2 := hidden (HB1.out.trans (hb2'.mono HB1.out.size))
      have hSl := hS'.length_le
      obtain ⟨ns, HNS⟩ : ∃ ns, Hid (ns = S.length) := ⟨_, rfl⟩
      rw [← HNS.out] at hSl hn2 hg2
      rw [← HNS.out]
      clear hS' hn2' hg2' hb2' hn1 hg1 HB1
      have hv2 := hidden (hv.out.below HB2.out)
      go_wp2_with fail
      refine (copy_any _ _ _ r _ HN.out hv2.out h0.out h1).mono ?_
      rintro e w3 ⟨a5, rfl, hv3', hb3'⟩
      have hv3 := hidden hv3'
      have hn1c := hidden (hn1b.out.below hb3')
      have hg1c := hidden (hg1b.out.below hb3')
      have hn2c := hidden (hn2.out.below hb3')
      have hg2c := hidden (hg2.out.below hb3')
      have HB3 := hidden (HB2.out.trans (hb3'.mono HB2.out.size))
      clear hv3' hb3' hn1b hg1b hn2 hg2 HB2 hv2
      go_wp2_with fail
      refine (zzjudge _ _ _ r ⟨#[]⟩ E [] _ HN.out hv3.out (by rw [← HN.out]; exact h1) (Nat.zero_le _) hE.out rfl).mono ?_
      rintro e w4 hj1
      obtain ⟨a6, c6, rfl, ht4', hb4'⟩ := judged_some hj1 (jd_empty E)
      rw [← HNE.out]
      rw [← HNE.out] at ht4'
      have ht4 := hidden ht4'
      have hv4 := hidden (hv3.out.below hb4')
      have hn1d := hidden (hn1c.out.below hb4')
      have hg1d := hidden (hg1c.out.below hb4')
      have hn2d := hidden (hn2c.out.below hb4')
      have hg2d := hidden (hg2c.out.below hb4')
      have HB4 := hidden (HB3.out.trans (hb4'.mono HB3.out.size))
      clear hj1 ht4' hb4' hn1c hg1c hn2c hg2c HB3 hv3
      go_wp2_with fail
      refine (others_any _ _ _ _ _ _ _ E _ HNE.out (by omega) ht4.out hn1d.out hg1d.out).mono ?_
      rintro e w5 ⟨rfl, hb5'⟩
      have hv5 := hidden (hv4.out.below hb5')
      have hn1e := hidden (hn1d.out.below hb5')
      have hg1e := hidden (hg1d.out.below hb5')
      have hn2e := hidden (hn2d.out.below hb5')
      have hg2e := hidden (hg2d.out.below hb5')
      have HB5 := hidden (HB4.out.trans (hb5'.mono HB4.out.size))
      clear hb5' hn1d hg1d hn2d hg2d HB4 hv4 ht4
      have hconv := hv5.out.conv
      go_wp2_with fail
      refine (zzjudge _ _ _ r r E E _ HN.out hv5.out (by rw [← HN.out]; exact h1) (by rw [← HN.out]; exact h1) hE.out hE.out).mono ?_
      rintro e w6 hj2
      obtain ⟨a7, c7, rfl, ht6', hb6'⟩ := judged_some hj2 (jd_self E)
      have hv6 := hidden (hv5.out.below hb6')
      have hn1f := hidden (hn1e.out.below hb6')
      have hg1f := hidden (hg1e.out.below hb6')
      have hn2f := hidden (hn2e.out.below hb6')
      have hg2f := hidden (hg2e.out.below hb6')
      have HB6 := hidden (HB5.out.trans (hb6'.mono HB5.out.size))
      clear hj2 ht6' hb6' hn1e hg1e hn2e hg2e HB5 hv5 hconv
      go_wp2_with fail
      refine (zzjudge _ _ _ r st E S _ HN.out hv6.out (by rw [← HN.out]; exact h1) h2 hE.out hS.out).mono ?_
      rintro e w7 ⟨a8, c8, o, ok, rfl, ht7', hb7', hjd⟩
      have HB7 := hidden (HB6.out.trans (hb7'.mono HB6.out.size))
      cases ok
      · clear hjd ht7' hb7'
        go_wp2_with fail
        go_ret
        exact ⟨rfl, HB7.out⟩
      have hjd2 : jd E S = some (o, []) := by
        rcases hjd with ⟨_, _, h⟩ | ⟨S', h, h'⟩
        · cases h
        · rw [h]
          cases S' with
          | nil => rfl
          | cons _ _ => cases h'
      obtain ⟨hlen, hcar, hsub⟩ := jd_sound E S o hjd2
      have ht7 := hidden ht7'
      have hn1g := hidden (hn1f.out.below hb7')
      have hg1g := hidden (hg1f.out.below hb7')
      have hn2g := hidden (hn2f.out.below hb7')
      have hg2g := hidden (hg2f.out.below hb7')
      have HLen := hidden hlen
      have HCar := hidden hcar
      have HSub := hidden hsub
      clear hjd hjd2 hlen hcar hsub ht7' hb7' hn1f hg1f hn2f hg2f HB6 hv6
      obtain ⟨no, HNO⟩ : ∃ no, Hid (no = o.length) := ⟨_, rfl⟩
      rw [← HNO.out] at ht7
      rw [← HNO.out]
      have hno : no + ns = ne := by rw [HNO.out, HNS.out, HNE.out]; exact HLen.out
      have hneq : ((no : Int) != (ne : Int) - ns) = false := by simp; omega
      have hnob : no ≤ ne := by omega
      clear hno
      go_upto_block 0 with fail
      go_cut [] (fun wx => Hid (Below w7.heap.size w7 wx))
      case first =>
        go_wp2_with fail
        go_loopw [17] (fun i wr => ∃ k : Nat, k ≤ ns ∧ i = .int .i64 k ∧ Hid (Below w7.heap.size w7 wr)) (fun i _ => ns - (intOf i).toNat)
        case atStart => exact ⟨0, by omega, rfl, Below.refl _ _⟩
        case round =>
          obtain ⟨k, hk, rfl, HBr⟩ := hrel
          by_cases hlt : k < ns
          · obtain ⟨b3, o3, rfl, hc3⟩ := hn2g.out.at HNS.out (by omega)
            obtain ⟨b4, o4, rfl, hc4⟩ := hg2g.out.at HNS.out (by omega)
            have hcn := (HBr.out.cell (World.block_lt_of_cell? _ _ (hc3 k hlt))).trans (hc3 k hlt)
            have hcg := (HBr.out.cell (World.block_lt_of_cell? _ _ (hc4 k hlt))).trans (hc4 k hlt)
            have hcq : ∀ N, Calls Try.prog 13 #[.slice a1 ne c1, .slice a2 ne c2, .string (tg S k).1, .int .u64 (tg S k).2] (wr.drewN N) fun e w' => e = .returned (.bool true) ∧ w' = wr.drewN N := fun N => by
              rw [← HCar.out (tg S k) (tg_mem (by rw [← HNS.out]; exact hlt))]
              have hbN := drewN_below HBr.out N
              exact carries_q a1 a2 ne c1 c2 E _ _ _ HNE.out (by omega) (hn1g.out.below hbN) (hg1g.out.below hbN)
            have HCQ := hidden hcq
            have hk0 : (0 : Int) ≤ (k : Int) := by omega
            have hk1 : (k : Int) < (ns : Int) := by omega
            clear hc3 hc4 hcq
            go_wp2_with fail
            go_quiet ((go_at_call 13; exact Calls.quiet_of_same (HCQ.out _)))
            go_wp2_with fail
            go_roundw
            case rel => exact ⟨k + 1, by omega, by go_num, drewN_below HBr.out _⟩
            case measure => simp [intOf]; omega
          · go_wp2_with fail
            go_meet
            exact HBr
      case rest =>
        have HC := hcut
        clear hcut
        go_wp2_with fail
        go_loopw [18, 19] (fun t18 t19 wr => ∃ i k : Nat, i ≤ ne ∧ k ≤ no ∧ t18 = .int .i64 i ∧ t19 = .int .i64 k ∧ Hid ((o.drop k).Sublist (E.drop i)) ∧ Hid (Below w7.heap.size w7 wr)) (fun _ k _ => no - (intOf k).toNat)
        case atStart => exact ⟨0, 0, by omega, by omega, rfl, rfl, HSub.out, HC⟩
        case round =>
          obtain ⟨i, k, hi, hk, rfl, rfl, HSb, HBr⟩ := hrel
          by_cases hlt : k < no
          · obtain ⟨b8, o8, rfl, hc8⟩ := ht7.out.at HNO.out (by omega)
            have hct := (HBr.out.cell (World.block_lt_of_cell? _ _ (hc8 k hlt).1)).trans (hc8 k hlt).1
            have hcu := (HBr.out.cell (World.block_lt_of_cell? _ _ (hc8 k hlt).2)).trans (hc8 k hlt).2
            have HC8 := hidden (hc8 k hlt)
            have HDo := hidden (drop_tg (ts := o) (i := k) (by rw [← HNO.out]; exact hlt))
            clear hc8
            go_wp2_with fail
            refine (tagname_b _ _ _).mono ?_
            rintro e w8 ⟨rfl, hb8'⟩
            have HB8 := hidden (HBr.out.trans (hb8'.mono HBr.out.size))
            clear hb8' hct hcu HBr
            have hct := (HB8.out.cell (World.block_lt_of_cell? _ _ HC8.out.1)).trans HC8.out.1
            have hcu := (HB8.out.cell (World.block_lt_of_cell? _ _ HC8.out.2)).trans HC8.out.2
            go_wp2_with fail
            refine (taggen_b _ _ _).mono ?_
            rintro e w9 ⟨rfl, hb9'⟩
            have HB9 := hidden (HB8.out.trans (hb9'.mono HB8.out.size))
            clear hb9' hct hcu HB8 HC8
            go_wp2_with fail
            go_loop [18] (fun t => ∃ i : Nat, i ≤ ne ∧ t = .int .i64 i ∧ Hid ((o.drop k).Sublist (E.drop i))) (fun t => ne - (intOf t).toNat)
            case atStart => exact ⟨i, hi, rfl, HSb⟩
            case round =>
              clear hi HSb
              obtain ⟨j, hj, rfl, HSj⟩ := hrel
              have hjne : j < ne := by
                rcases Nat.lt_or_eq_of_le hj with h | h
                · exact h
                · have h1 := HSj.out
                  rw [HDo.out, show E.drop j = [] from List.drop_eq_nil_of_le (by rw [← HNE.out]; omega)] at h1
                  cases h1
              obtain ⟨b1, o1, rfl, hc1⟩ := hn1g.out.at HNE.out (by omega)
              obtain ⟨b2, o2, rfl, hc2⟩ := hg1g.out.at HNE.out (by omega)
              have hcn := (HB9.out.cell (World.block_lt_of_cell? _ _ (hc1 j hjne))).trans (hc1 j hjne)
              have hcg := (HB9.out.cell (World.block_lt_of_cell? _ _ (hc2 j hjne))).trans (hc2 j hjne)
              have hS2 := HSj.out
              rw [HDo.out, drop_tg (ts := E) (i := j) (by rw [← HNE.out]; exact hjne)] at hS2
              have HS2 := hidden hS2
              clear hc1 hc2 hS2
              cases hnm : ((tg E j).1.toList == (tg o k).1.toList)
              · have HSk : Hid ((o.drop k).Sublist (E.drop (j + 1))) := by show List.Sublist _ _; rw [HDo.out]; exact sub_skip HS2.out (by rw [isT, hnm]; rfl)
                clear HS2
                go_wp2_with fail
                go_round
                case rel => exact ⟨j + 1, by omega, by go_num, HSk⟩
                case measure => simp [intOf]; omega
              · by_cases hgg : (tg E j).2 = (tg o k).2
                · have hgb : ((((tg E j).2 : Nat) : Int) == (((tg o k).2 : Nat) : Int)) = true := by rw [hgg]; simp
                  have HSk := hidden (sub_take HS2.out)
                  clear HS2 hgg
                  go_wp2_with fail
                  go_roundw
                  case rel => exact ⟨j + 1, k + 1, by omega, by omega, by go_num, by go_num, HSk, HB9⟩
                  case measure => simp [intOf]; omega
                · have hgb : ((((tg E j).2 : Nat) : Int) == (((tg o k).2 : Nat) : Int)) = false := by simpa using (show ¬ (((tg E j).2 : Nat) : Int) = (((tg o k).2 : Nat) : Int) by omega)
                  have HSk : Hid ((o.drop k).Sublist (E.drop (j + 1))) := by show List.Sublist _ _; rw [HDo.out]; exact sub_skip HS2.out (by rw [isT, hnm]; simpa using hgg)
                  clear HS2 hgg
                  go_wp2_with fail
                  go_round
                  case rel => exact ⟨j + 1, by omega, by go_num, HSk⟩
                  case measure => simp [intOf]; omega
          · go_wp2_with fail
            go_ret
            exact ⟨rfl, HB7.out.trans (HBr.out.mono HB7.out.size)⟩
    · go_enter Try.func5, Try.ntmps5
      go_wp2_with fail
      refine (bytes15 _ _ _ _ _ hl' hst').mono ?_
      rintro e w' ⟨⟨b, rfl⟩, rfl⟩
      cases b <;>
      · go_wp2_with fail
        go_ret
        exact ⟨rfl, Below.refl _ _⟩
  · go_enter Try.func5, Try.ntmps5
    go_wp2_with fail
    refine (bytes15 _ _ _ _ _ hl' hst').mono ?_
    rintro e w' ⟨⟨b, rfl⟩, rfl⟩
    cases b <;>
    · go_wp2_with fail
      go_ret
      exact ⟨rfl, Below.refl _ _⟩
end Go.Proofs.Qxb6605374a
