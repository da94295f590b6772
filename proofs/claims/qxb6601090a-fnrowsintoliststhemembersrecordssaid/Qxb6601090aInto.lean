import Derived.Test.Qxb6601090aGrow
namespace Go.Proofs.Qxb6601090a
open Go.ChangeShapes Go.WideShapes Go.ChangeAt Go.RowKit Go.Maps Go.ChangeMaps

theorem str_eq {a b : ByteArray} : (a.toList == b.toList) = true ↔ a = b := by
  rw [beq_iff_eq, ByteArray.toList_eq, ByteArray.toList_eq]
  constructor
  · intro h
    exact ByteArray.ext (by simpa using h)
  · rintro rfl
    rfl

theorem keepBe {w w' : World} {base e size g n cap : Nat} {xs : List Value} (h : w.ownsRow base e size (.slice (some ⟨g, 0, none⟩) n cap) n xs) (hb : Below w.heap.size w w') : w'.ownsRow base e size (.slice (some ⟨g, 0, none⟩) n cap) n xs :=
  keepNo h ⟨hb.os, hb.tape, hb.output, hb.size, fun k hk _ => hb.block k hk⟩

theorem below_drewN (w : World) (k : Nat) : Below w.heap.size w (w.drewN k) := ⟨rfl, rfl, rfl, Nat.le_refl _, fun _ _ => rfl⟩

/-- WHAT rowsInto READS, below H. -/
structure RD (w : World) (H n M gi bm gr gf : Nat) (ids : List ByteArray) (f r : Nat → Nat) : Prop where
  idc : ∀ m, m < M → w.cell? ⟨gi, m, none⟩ = some (.string (at' ids m))
  recs : ∀ p, p < n → w.cell? ⟨gr, p, none⟩ = some (.int .i64 (r p))
  first : ∀ m, m ≤ M → w.cell? ⟨gf, m, none⟩ = some (.int .i64 (fst' f n m))
  map : ∃ D, w.ownsMap Try.prog 9 (plainElem Try.prog 3) bm n D ∧ Dmap ids D
  li : gi < H
  lr : gr < H
  lf : gf < H
  lm : bm < H

theorem RD.below {w w' : World} {H n M gi bm gr gf : Nat} {ids : List ByteArray} {f r : Nat → Nat} (h : RD w H n M gi bm gr gf ids f r) (hb : Below H w w') : RD w' H n M gi bm gr gf ids f r := by
  obtain ⟨D, ⟨es, clock, h1, h2⟩, hD⟩ := h.map
  exact ⟨fun m hm => (hb.cell h.li).trans (h.idc m hm), fun p hp => (hb.cell h.lr).trans (h.recs p hp), fun m hm => (hb.cell h.lf).trans (h.first m hm), ⟨D, ⟨es, clock, (hb.block _ h.lm).trans h1, h2⟩, hD⟩, h.li, h.lr, h.lf, h.lm⟩

theorem Mr.below {w w' : World} {H bs bt : Nat} {vi vm vr vf : Value} (h : Mr w bs bt vi vm vr vf) (hs : bs < H) (hb : Below H w w') : Mr w' bs bt vi vm vr vf :=
  ⟨(hb.cell hs).trans h.c0, (hb.cell hs).trans h.c1, (hb.cell hs).trans h.c2, (hb.cell hs).trans h.c3, (hb.cell hs).trans h.c4⟩

theorem GR.read {W w : World} {B n : Nat} {ss : List ByteArray} {bm gi ci M gr gf : Nat} {ids : List ByteArray} {f : Nat → Nat} (h : GR W B n ss w bm gi ci M gr gf ids f) :
    ∃ r, RD w w.heap.size n M gi bm gr gf ids f r ∧ ∀ j, j < n → r (pos f n j) = j := by
  obtain ⟨xs, hr, hl, r, h1, h2⟩ := h.recs
  obtain ⟨ys, hf, hf2⟩ := h.first
  obtain ⟨D, hD, hDm⟩ := h.map
  refine ⟨r, ⟨fun m hm => ?_, fun p hp => ?_, fun m hm => ?_, ⟨D, hD, hDm⟩, (ltSl h.own).2, (ltSl hr).2, (ltSl hf).2, hD.lt⟩, h2⟩
  · rw [h.own.cellAt m (by omega)]
    rw [h.len] at hm
    simp [at', hm]
  · rw [hr.cellAt p (by omega)]; exact h1 p hp
  · rw [hf.cellAt m (by omega)]; exact hf2.2 m hm

/-- WHAT rowsInto GIVES. -/
def Given (w : World) (g len bt : Nat) (s : ByteArray) (n M : Nat) (ids : List ByteArray) (f r : Nat → Nat) : Prop :=
  (∃ i, i < M ∧ at' ids i = s ∧ len = cnt f n i ∧ ∀ j, j < len → w.cell? ⟨g, j * 2, none⟩ = some (.pointer (some ⟨bt, 0, none⟩)) ∧ w.cell? ⟨g, j * 2 + 1, none⟩ = some (.int .i64 (r (fst' f n i + j)))) ∨ (s ∉ ids ∧ len = 0)

/-- THE LOOP's STATE. -/
def S5 (w : World) (H g q c bt p k : Nat) (r : Nat → Nat) : Prop :=
  ∃ zs, w.ownsRow H 38 2 (.slice (some ⟨g, 0, none⟩) q c) q zs ∧ ∀ j, j < k → zs[j * 2]? = some (.pointer (some ⟨bt, 0, none⟩)) ∧ zs[j * 2 + 1]? = some (.int .i64 (r (p + j)))

theorem S5.start {w : World} {H g q c : Nat} (bt p : Nat) (r : Nat → Nat) {zs : List Value} (h : w.ownsRow H 38 2 (.slice (some ⟨g, 0, none⟩) q c) q zs) : S5 w H g q c bt p 0 r := ⟨zs, h, fun j hj => by omega⟩

theorem capLe {w : World} {H e size g q c : Nat} {zs : List Value} (h : w.ownsRow H e size (.slice (some ⟨g, 0, none⟩) q c) q zs) : c ≤ 9223372036854775807 := by
  rcases h.2 with ⟨h1, _⟩ | ⟨g', cap', cur, hv, hb, hg, hn, hc, hs, ht⟩
  · cases h1
  · cases hv
    exact hc

theorem S5.lt {w : World} {H g q c bt p k : Nat} {r : Nat → Nat} (h : S5 w H g q c bt p k r) : H ≤ g := by
  obtain ⟨zs, h1, _⟩ := h
  exact (ltSl h1).1

theorem S5.got {w : World} {H g q c bt p : Nat} {r : Nat → Nat} (h : S5 w H g q c bt p q r) : ∀ j, j < q → w.cell? ⟨g, j * 2, none⟩ = some (.pointer (some ⟨bt, 0, none⟩)) ∧ w.cell? ⟨g, j * 2 + 1, none⟩ = some (.int .i64 (r (p + j))) := by
  obtain ⟨zs, h1, h2⟩ := h
  intro j hj
  rw [h1.cellAt _ (by omega), h1.cellAt _ (by omega)]
  exact h2 j hj

theorem S5.put {w : World} {H g q c bt p k : Nat} {r : Nat → Nat} (h : S5 w H g q c bt p k r) (hk : k < q) :
    (w.cell? ⟨g, k * 2, none⟩).isSome = true ∧ (w.cell? ⟨g, k * 2 + 1, none⟩).isSome = true ∧ (∀ j, w.frozen? ⟨g, j, none⟩ = false) ∧
    S5 ((w.setCell ⟨g, k * 2, none⟩ (.pointer (some ⟨bt, 0, none⟩))).setCell ⟨g, k * 2 + 1, none⟩ (.int .i64 (r (p + k)))) H g q c bt p (k + 1) r := by
  obtain ⟨zs, h1, h2⟩ := h
  have hl := h1.1
  refine ⟨?_, ?_, fun j => h1.frozenAt j, ?_⟩
  · rw [h1.cellAt _ (by omega)]; simp [hl]; omega
  · rw [h1.cellAt _ (by omega)]; simp [hl]; omega
  · refine ⟨_, ((h1.stored (k * 2) _).1.stored (k * 2 + 1) _).1, fun j hj => ?_⟩
    simp only [List.getElem?_set, List.length_set, hl]
    by_cases e : j = k
    · subst e
      constructor
      · rw [if_neg (by omega), if_pos rfl, if_pos (by omega)]
      · rw [if_pos rfl, if_pos (by omega)]
    · rw [if_neg (by omega), if_neg (by omega), if_neg (by omega), if_neg (by omega)]
      exact h2 j (by omega)

set_option maxRecDepth 100000 in
set_option maxHeartbeats 4000000 in
theorem into17 (bs bt gi ci n M bm gr gf g R H : Nat) (s : ByteArray) (pl : Int) (ids : List ByteArray) (f r : Nat → Nat) (xs : List Value) (w : World)
    (hn : n ≤ 65536) (hM : M ≤ n) (hR : R ≤ 65536) (hs : s.size ≤ maxLen) (HL : Hid (M = ids.length)) (HF : Hid (fst' f n M ≤ n))
    (HR : Hid (RD w H n M gi bm gr gf ids f r)) (HM : Hid (Mr w bs bt (.slice (some ⟨gi, 0, none⟩) M ci) (.map (some bm)) (.slice (some ⟨gr, 0, none⟩) n n) (.slice (some ⟨gf, 0, none⟩) (M + 1) (M + 1)))) (HS : Hid (bs < H)) (HW : Hid (H ≤ w.heap.size))
    (HO : Hid (w.ownsRow H 38 2 (.slice (some ⟨g, 0, none⟩) R R) R xs)) :
    Calls Try.prog 17 #[.pointer (some ⟨bs, 0, none⟩), .slice (some ⟨g, 0, none⟩) R R, .string s, .int .i64 pl] w fun e w' => ∃ g' len c', e = .returned (.slice (some ⟨g', 0, none⟩) len c') ∧ len ≤ n ∧ Given w' g' len bt s n M ids f r ∧ Below H w w' := by
  obtain ⟨ok, hok'⟩ : ∃ ok : Bool, ok = true ↔ ∃ i : Nat, pl = (i : Int) ∧ i < M ∧ at' ids i = s := by
    by_cases h : ∃ i : Nat, pl = (i : Int) ∧ i < M ∧ at' ids i = s
    · exact ⟨true, by simp [h]⟩
    · exact ⟨false, by simp [h]⟩
  have HK := hidden hok'
  clear hok'
  have c1 := HM.out.c1
  go_enter Try.func17, Try.ntmps17
  go_upto_region 1 with fail
  go_cut [9, 10] (fun s9 s10 wx => s9 = .int .i64 pl ∧ s10 = .bool ok ∧ Hid (Below w.heap.size w wx))
  case first =>
    by_cases h1 : 0 ≤ pl
    · obtain ⟨m, rfl⟩ : ∃ m : Nat, pl = (m : Int) := ⟨pl.toNat, by omega⟩
      have d1 : decide ((m : Int) ≥ 0) = true := by simp
      by_cases h2 : m < M
      · have d2 : decide ((m : Int) < (M : Int)) = true := by simp; omega
        have hc := HR.out.idc m h2
        cases h3 : ((at' ids m).toList == s.toList)
        · have e : ok = false := by
            cases ok
            · rfl
            · obtain ⟨i, hi, _, he⟩ := HK.out.1 rfl
              obtain rfl : m = i := by omega
              rw [str_eq.2 he] at h3
              cases h3
          subst e
          go_quiet (fail)
          go_wp2_with fail
          go_meet
          exact ⟨rfl, rfl, hidden (below_drewN _ _)⟩
        · have e : ok = true := HK.out.2 ⟨m, rfl, h2, str_eq.1 h3⟩
          subst e
          go_quiet (fail)
          go_wp2_with fail
          go_meet
          exact ⟨rfl, rfl, hidden (below_drewN _ _)⟩
      · have d2 : decide ((m : Int) < (M : Int)) = false := by simp; omega
        have e : ok = false := by
          cases ok
          · rfl
          · obtain ⟨i, hi, hi2, he⟩ := HK.out.1 rfl
            omega
        subst e
        go_quiet (fail)
        go_wp2_with fail
        go_meet
        exact ⟨rfl, rfl, hidden (below_drewN _ _)⟩
    · have d1 : decide (pl ≥ 0) = false := by simp; omega
      have e : ok = false := by
        cases ok
        · rfl
        · obtain ⟨i, hi, hi2, he⟩ := HK.out.1 rfl
          omega
      subst e
      go_quiet (fail)
      go_wp2_with fail
      go_meet
      exact ⟨rfl, rfl, hidden (below_drewN _ _)⟩
  case rest =>
    clear c1
    obtain ⟨rfl, rfl, HB⟩ := hcut
    go_upto_if 39 with fail
    go_cut [9, 10] (fun s9 s10 wx => ((∃ i : Nat, s9 = .int .i64 i ∧ s10 = .bool true ∧ i < M ∧ Hid (at' ids i = s)) ∨ (∃ x, s9 = .int .i64 x ∧ s10 = .bool false ∧ Hid (s ∉ ids))) ∧ Hid (Below w.heap.size w wx))
    case first =>
      cases ok
      · have c2 := ((HM.out.below HS.out (HB.out.mono HW.out))).c2
        obtain ⟨D, hD', hDm'⟩ := (HR.out.below (HB.out.mono HW.out)).map
        have hD := hidden hD'
        have hDm := hidden hDm'
        clear hD' hDm'
        have hkey : Hid (keyOf Try.prog 9 (.string s) = some (ky s)) := hidden (Go.WideMaps.keyOf_string_mk Try.underlying9 hs)
        go_wp2_with (at_lookup; refine wpList_lookup_own_ok_int _ rfl _ _ 26 rfl 9 3 .i64 law Try.underlying26 Try.underlying3 (zeroE _) bm n D rfl hD.out _ _ rfl hkey.out ?_; intro x hat' hwx'; have hat := hidden hat'; clear hat' hwx')
        go_meet
        refine ⟨?_, HB⟩
        cases hh : Maps.has D (ky s)
        · exact .inr ⟨x, rfl, rfl, hidden (fun hin => by rw [(hDm.out.has _).2 hin] at hh; cases hh)⟩
        · obtain ⟨m, hm, em⟩ := mem_at ((hDm.out.has _).1 hh)
          have hx : x = (m : Int) := by
            have h1 := hDm.out.val m hm
            rw [em] at h1
            have h2 := hat.out.symm.trans h1
            injection h2 with h2
            injection h2
          subst hx
          exact .inl ⟨m, rfl, rfl, by rw [HL.out]; exact hm, hidden em⟩
      · obtain ⟨i, rfl, hi, he⟩ := HK.out.1 rfl
        have HE := hidden he
        clear he
        go_wp2_with fail
        go_meet
        exact ⟨.inl ⟨i, rfl, rfl, hi, HE⟩, HB⟩
    case rest =>
      clear HB HK ok
      rcases hcut with ⟨⟨i, rfl, rfl, hi, HE⟩ | ⟨x, rfl, rfl, HE⟩, HB⟩
      · have HR2 := hidden (HR.out.below (HB.out.mono HW.out))
        have HM2 := hidden (HM.out.below HS.out (HB.out.mono HW.out))
        have HO2 := hidden (keepBe HO.out HB.out)
        have HW2 := hidden (Nat.le_trans HW.out HB.out.size)
        have HB2 := hidden (HB.out.mono HW.out)
        clear HR HM HO HB
        have c3 := HM2.out.c3
        have c4 := HM2.out.c4
        have f1 := HR2.out.first i (by omega)
        have f2 := HR2.out.first (i + 1) (by omega)
        obtain ⟨p, hp⟩ : ∃ p, p = fst' f n i := ⟨_, rfl⟩
        obtain ⟨q, hq⟩ : ∃ q, q = cnt f n i := ⟨_, rfl⟩
        have hpq' : fst' f n (i + 1) = p + q := by rw [hp, hq]; rfl
        rw [hpq'] at f2
        rw [← hp] at f1
        have hpq : p + q ≤ n := by
          have h1 := HF.out
          have h2 := fst_mono f n (show i + 1 ≤ M by omega)
          omega
        have Hp := hidden hp
        have Hq := hidden hq
        clear hp hq hpq'
        have hw1 : IntKind.i64.wrap ((i : Int) + 1) = ((i + 1 : Nat) : Int) := by rw [IntKind.wrap_i64]; omega
        have hi1 : ¬ ((i : Int) < 0) := by omega
        go_upto_region 6 with fail
        go_cut [11] (fun t wx => (∃ o c : Nat, t = .slice (some ⟨gr, o, none⟩) q c ∧ Hid (0 < q → o = p)) ∧ Hid (Below wc.heap.size wc wx))
        case first =>
          go_quiet (fail)
          go_wp2_with fail
          · go_meet
            exact ⟨⟨_, _, rfl, hidden (fun h => by omega)⟩, hidden (below_drewN _ _)⟩
          · go_meet
            exact ⟨⟨_, _, rfl, hidden (fun _ => rfl)⟩, hidden (below_drewN _ _)⟩
        case rest =>
          obtain ⟨⟨o, c, rfl, HQ⟩, HB⟩ := hcut
          have HR3 := hidden (HR2.out.below (HB.out.mono HW2.out))
          have HM3 := hidden (HM2.out.below HS.out (HB.out.mono HW2.out))
          have HO3 := hidden (keepBe HO2.out HB.out)
          have HW3 := hidden (Nat.le_trans HW2.out HB.out.size)
          have HB3 := hidden (HB2.out.trans (HB.out.mono HW2.out))
          clear HR2 HM2 HO2 HW2 HB2 HB c3 c4 f1 f2 hw1 hi1
          go_wp2_with fail
          refine (grow18 H g R q xs _ hR (by omega) HO3.out HW3.out).mono ?_
          rintro e w4 ⟨g', c', rfl, hc', ⟨ys, ho4'⟩, hb4'⟩
          have HR4 := hidden (HR3.out.below hb4')
          have HM4 := hidden (HM3.out.below HS.out hb4')
          have HB4 := hidden (HB3.out.trans hb4')
          have HI := hidden (S5.start bt p r ho4')
          have hcm : c' ≤ 9223372036854775807 := capLe ho4'
          clear HR3 HM3 HB3 HW3 HO3 hb4' ho4'
          go_wp2_with fail
          go_loopw [83] (fun t wr => ∃ k : Nat, k ≤ q ∧ t = .int .i64 k ∧ Hid (S5 wr H g' q c' bt p k r) ∧ Hid (Below H w4 wr)) (fun t _ => q - (intOf t).toNat)
          case atStart => exact ⟨0, Nat.zero_le _, rfl, HI, hidden (Below.refl _ _)⟩
          case round =>
            clear HI
            obtain ⟨k, hk, rfl, HI, HB5⟩ := hrel
            by_cases hlt : k < q
            · obtain rfl := HQ.out (by omega)
              have h1 : wr.cell? ⟨gr, o + k, none⟩ = some (.int .i64 (r (o + k))) := (HR4.out.below HB5.out).recs (o + k) (by omega)
              have h2 := (HM4.out.below HS.out HB5.out).c0
              obtain ⟨h3, h4, h5, h6⟩ := HI.out.put hlt
              obtain ⟨z3, e3⟩ := Option.isSome_iff_exists.1 h3
              obtain ⟨z4, e4⟩ := Option.isSome_iff_exists.1 h4
              clear h3 h4
              have HP := hidden (HI.out.lt)
              have HX := hidden h6
              clear h6
              go_wp2_with fail
              exact ⟨⟨k + 1, by omega, by go_num, HX, hidden ((HB5.out.setCell HP.out _).setCell HP.out _)⟩, by simp [intOf]; omega⟩
            · obtain rfl : k = q := by omega
              go_wp2_with fail
              go_ret
              refine ⟨g', k, c', rfl, by omega, .inl ⟨i, hi, HE.out, Hq.out, ?_⟩, HB4.out.trans HB5.out⟩
              rw [← Hp.out]
              exact HI.out.got
      · go_wp2_with fail
        go_ret
        exact ⟨g, 0, R, rfl, Nat.zero_le _, .inr ⟨HE.out, rfl⟩, HB.out.mono HW.out⟩

theorem into12 (bs bt gi ci n M bm gr gf g R H : Nat) (s : ByteArray) (pl : Int) (ids : List ByteArray) (f r : Nat → Nat) (xs : List Value) (w : World)
    (hn : n ≤ 65536) (hM : M ≤ n) (hR : R ≤ 65536) (hs : s.size ≤ maxLen) (HL : Hid (M = ids.length)) (HF : Hid (fst' f n M ≤ n))
    (HR : Hid (RD w H n M gi bm gr gf ids f r)) (HM : Hid (Mr w bs bt (.slice (some ⟨gi, 0, none⟩) M ci) (.map (some bm)) (.slice (some ⟨gr, 0, none⟩) n n) (.slice (some ⟨gf, 0, none⟩) (M + 1) (M + 1)))) (HS : Hid (bs < H)) (HW : Hid (H ≤ w.heap.size))
    (HO : Hid (w.ownsRow H 38 2 (.slice (some ⟨g, 0, none⟩) R R) R xs)) :
    Calls Try.prog 12 #[.pointer (some ⟨bs, 0, none⟩), .slice (some ⟨g, 0, none⟩) R R, .string s, .int .i64 pl] w fun e w' => ∃ g' len c', e = .returned (.slice (some ⟨g', 0, none⟩) len c') ∧ len ≤ n ∧ Given w' g' len bt s n M ids f r ∧ Below H w w' := by
  go_enter Try.func12, Try.ntmps12
  go_wp2_with fail
  refine (into17 bs bt gi ci n M bm gr gf g R H s pl ids f r xs w hn hM hR hs HL HF HR HM HS HW HO).mono ?_
  rintro e w' ⟨g', len, c', rfl, h1, h2, h3⟩
  have H1 := hidden h1
  have H2 := hidden h2
  have H3 := hidden h3
  clear h1 h2 h3
  go_wp2_with fail
  go_ret
  exact ⟨g', len, c', rfl, H1, H2, H3⟩

end Go.Proofs.Qxb6601090a
