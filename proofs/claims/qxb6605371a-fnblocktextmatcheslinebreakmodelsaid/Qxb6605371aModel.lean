import Derived.Test.Qxb6605371aOut
namespace Go.Proofs.Qxb6605371a
open Go.ChangeShapes Go.WideShapes Go.ChangeAt Go.RowKit

/-- 'x' is the last line of text among the first k, or -1 -/
def LastTo (ss : List ByteArray) (k : Nat) (x : Int) : Prop :=
  (x = -1 ∨ ∃ j : Nat, x = j ∧ j < k ∧ 0 < (at' ss j).size) ∧ ∀ i : Nat, x < i → i < k → (at' ss i).size = 0

theorem LastTo.skip {ss : List ByteArray} {k : Nat} {x : Int} (h : LastTo ss k x) (hs : (at' ss k).size = 0) : LastTo ss (k + 1) x := by
  refine ⟨?_, fun i h1 h2 => ?_⟩
  · rcases h.1 with h | ⟨j, h1, h2, h3⟩
    · exact .inl h
    · exact .inr ⟨j, h1, by omega, h3⟩
  · rcases Nat.lt_succ_iff_lt_or_eq.1 h2 with h' | h'
    · exact h.2 i h1 h'
    · rw [h']; exact hs
theorem LastTo.text {ss : List ByteArray} {k : Nat} (hs : 0 < (at' ss k).size) : LastTo ss (k + 1) k :=
  ⟨.inr ⟨k, rfl, by omega, hs⟩, fun i h1 h2 => by omega⟩
theorem LastTo.bounds {ss : List ByteArray} {k : Nat} {x : Int} (h : LastTo ss k x) : -1 ≤ x ∧ x < k := by
  rcases h.1 with rfl | ⟨j, rfl, hj, _⟩ <;> omega

theorem exists_next (ss : List ByteArray) (k lst : Nat) (h : k < lst) (ht : 0 < (at' ss lst).size) : ∃ m, IsNext ss k m ∧ m ≤ lst := by
  obtain ⟨d, rfl⟩ : ∃ d, lst = k + d + 1 := ⟨lst - k - 1, by omega⟩
  induction d generalizing k with
  | zero => exact ⟨k + 1, ⟨by omega, ht, fun i h1 h2 => by omega⟩, by omega⟩
  | succ d ih =>
    by_cases hs : (at' ss (k + 1)).size = 0
    · obtain ⟨m, ⟨h1, h2, h3⟩, h4⟩ := ih (k + 1) (by omega) (by rw [show k + 1 + d + 1 = k + (d + 1) + 1 by omega]; exact ht)
      refine ⟨m, ⟨by omega, h2, fun i h5 h6 => ?_⟩, by omega⟩
      rcases Nat.lt_or_eq_of_le (show k + 1 ≤ i by omega) with h | h
      · exact h3 i h h6
      · rw [← h]; exact hs
    · exact ⟨k + 1, ⟨by omega, by omega, fun i h1 h2 => by omega⟩, by omega⟩

/-- the break behind line k is a line break: an empty line; a line that is more indented; no folding -/
theorem MInv.plain {ss : List ByteArray} {f : Bool} {k lst : Nat} {L : List UInt8} (h : MInv ss f k L) (hk : k < lst) (ht : 0 < (at' ss lst).size) (hB : (f && decide (0 < (at' ss k).size) && !spB (at' ss k)) = false) :
    MInv ss f (k + 1) (L ++ (at' ss k).data.toList ++ sepL 1) := by
  by_cases hs : (at' ss k).size = 0
  · have e : (at' ss k).data.toList = [] := by rw [← ByteArray.toList_eq]; exact nil_of_size _ hs
    rw [e, List.append_nil]
    exact h.skip hs
  · obtain ⟨m, hm, _⟩ := exists_next ss k lst hk ht
    have e : sepN ss f k m = 1 := by
      rw [sepN, if_neg]
      rw [decide_eq_true (show 0 < (at' ss k).size by omega), Bool.and_true] at hB
      rw [hB]
      simp
    have := h.step (show 0 < (at' ss k).size by omega) hm
    rw [e] at this
    exact this

theorem sepN_one {ss : List ByteArray} {k m : Nat} (h : spB (at' ss m) = true) : sepN ss true k m = 1 := by
  rw [sepN, if_neg]; rw [h]; simp
theorem sepN_two {ss : List ByteArray} {k m : Nat} (h0 : spB (at' ss k) = false) (h : spB (at' ss m) = false) (hm : m = k + 1) : sepN ss true k m = 2 := by
  rw [sepN, if_pos (by rw [h, h0]; rfl), if_pos hm]
theorem sepN_zero {ss : List ByteArray} {k m : Nat} (h0 : spB (at' ss k) = false) (h : spB (at' ss m) = false) (hm : ¬ m = k + 1) : sepN ss true k m = 0 := by
  rw [sepN, if_pos (by rw [h, h0]; rfl), if_neg hm]

set_option maxRecDepth 100000 in
set_option maxHeartbeats 1000000 in
theorem model_row (b n : Nat) (ss : List ByteArray) (br : Nat) (f : Bool) (ch : Int) (w : World) (HN : Hid (n = ss.length)) (hl : n ≤ 65536) (ht : Hid (tot ss n ≤ 1048576)) (hbr : br ≤ 65536)
    (HC : Hid (∀ i, i < n → w.cell? ⟨b, 0 + i, none⟩ = some (.string (at' ss i)))) :
    Calls Try.prog 11 #[.slice (some ⟨b, 0, none⟩) n n, .int .i64 br, .bool f, .int .u8 ch] w fun e w' => ∃ last, IsLast ss last ∧ e = .returned (.string (S (text ss f ch br last))) ∧ Below w.heap.size w w' := by
  obtain ⟨i0, hi, hz0, hz1, hz2⟩ := info_parts Try.info5
  go_enter Try.func11, Try.ntmps11
  go_upto_block 0 with fail
  go_cut [9] (fun t wx => w = wx ∧ ∃ x, t = .int .i64 x ∧ Hid (IsLast ss x))
  case first =>
    go_wp2_with fail
    go_loop [9, 10] (fun t i => ∃ (k : Nat) (x : Int), k ≤ n ∧ i = .int .i64 k ∧ t = .int .i64 x ∧ Hid (LastTo ss k x)) (fun _ i => n - (intOf i).toNat)
    case atStart => exact ⟨0, -1, by omega, rfl, rfl, .inl rfl, fun i _ h => by omega⟩
    case round =>
      obtain ⟨k, x, hk, rfl, rfl, HX⟩ := hrel
      by_cases hlt : k < n
      · have hcell := HC.out k hlt
        rw [Nat.zero_add] at hcell
        by_cases hs : (at' ss k).size = 0
        · have hnil := nil_of_size _ hs
          have HS := hid hs
          clear hs
          go_wp2
          go_round
          case rel => exact ⟨k + 1, x, by omega, by go_num, rfl, HX.out.skip HS.out⟩
          case measure => simp [intOf]; omega
        · have hnn := ne_nil_of_size (at' ss k) (by omega)
          have hne := isEmpty_of_size (at' ss k) (by omega)
          have HS := hid (LastTo.text (show 0 < (at' ss k).size by omega))
          clear hs
          go_wp2
          go_round
          case rel => exact ⟨k + 1, k, by omega, by go_num, rfl, HS⟩
          case measure => simp [intOf]; omega
      · go_wp2
        go_meet
        have hkn : k = ss.length := by have := HN.out; omega
        subst hkn
        exact ⟨rfl, x, rfl, HX.out⟩
  case rest =>
    obtain ⟨rfl, x, rfl, HL⟩ := hcut
    have hx := HL.out.bounds
    rw [← HN.out] at hx
    go_upto_block 2 with (at_make; refine wpList_make_own _ rfl _ _ 32 rfl w.heap.size 5 i0 (.int .u8 0) 1 Try.underlying32 hi hz0 hz1 _ _ _ 64 rfl rfl rfl (by rw [hz2]; omega) (by unfold maxLen; omega) (Nat.le_refl _) ?_; intro w1 hown hgrow)
    have HB1 := hid ((Below.refl w.heap.size w).grown hgrow (Nat.le_refl _) (fun k h => by cases h))
    have HO1 : Hid (Out w.heap.size (.slice (some ⟨w.heap.size, 0, none⟩) 0 64) [] w1) := ⟨hgrow.size, hown, by simp⟩
    clear hown hgrow
    obtain ⟨T, HT⟩ : ∃ T, Hid ((bt ss f (x + 1).toNat).1 = T) := ⟨_, rfl⟩
    go_cut [11] (fun v wx => Hid (Out w.heap.size v T wx) ∧ Hid (Below w.heap.size w wx))
    case first =>
      by_cases hx0 : x < 0
      · obtain rfl : x = -1 := by omega
        go_wp2_with fail
        go_loop [11, 12] (fun v i => v = .slice (some ⟨w.heap.size, 0, none⟩) 0 64 ∧ i = .int .i64 0) (fun _ _ => 0)
        case atStart => exact ⟨rfl, rfl⟩
        case round =>
          obtain ⟨rfl, rfl⟩ := hrel
          go_wp2_with fail
          go_meet
          exact ⟨by show Out _ _ _ _; rw [← HT.out]; exact HO1.out, HB1⟩
      · obtain ⟨lst, rfl⟩ : ∃ lst : Nat, x = lst := ⟨x.toNat, by omega⟩
        have HLt : Hid (0 < (at' ss lst).size) := by
          rcases HL.out.1 with h | ⟨j, h, _, h3⟩
          · omega
          · obtain rfl : lst = j := by omega
            exact h3
        go_wp2_with fail
        go_loopw [11, 12] (fun v i wr => ∃ (k : Nat) (L : List UInt8), k ≤ lst ∧ i = .int .i64 k ∧ Hid (Out w.heap.size v L wr) ∧ Hid (MInv ss f k L) ∧ Hid (L.length ≤ tot ss k + k) ∧ Hid (Below w.heap.size w wr)) (fun _ i _ => lst - (intOf i).toNat)
        case atStart => exact ⟨0, [], by omega, rfl, HO1, MInv.zero ss f, Nat.zero_le _, HB1⟩
        case round =>
          clear HO1 HB1
          obtain ⟨k, L, hk, rfl, HO, HM, HLen, HB⟩ := hrel
          have hcell := (HB.out.cell (p := ⟨b, 0 + k, none⟩) (World.block_lt_of_cell? _ _ (HC.out k (by omega)))).trans (HC.out k (by omega))
          rw [Nat.zero_add] at hcell
          have htk : tot ss k + (at' ss k).size ≤ 1048576 := Nat.le_trans (tot_mono ss (show k + 1 ≤ n by omega)) ht.out
          have hLl : L.length + (at' ss k).size ≤ 1114112 := by have := HLen.out; omega
          go_upto_region 13 with (at_builtin; refine Lib.wpList_append_own_string _ rfl _ _ 32 9 rfl w.heap.size 5 i0 Try.underlying32 Try.underlying9 hi hz0 hz1 hz2 _ L.length _ rfl HO.out.2.1 (at' ss k) rfl (by unfold maxLen; omega) (by omega) HO.out.1 ?_; intro v2 w2 hown hgrow hnl)
          have hO2 := HO.out.str hown hgrow hnl
          have HO2 := hid hO2.1
          have HB2 := hid (HB.out.trans hO2.2)
          clear hown hgrow hnl hO2 HO HB
          by_cases hkl : lst ≤ k
          · obtain rfl : k = lst := by omega
            have HE := hid (HM.out.text HLt.out)
            go_wp2_with fail
            go_meet
            exact ⟨by show Out _ _ _ _; rw [← HT.out, show ((k : Int) + 1).toNat = k + 1 by omega, ← HE.out]; exact HO2.out, HB2⟩
          · go_upto_region 15 with fail
            obtain ⟨B0, hB0⟩ : ∃ B0 : Bool, B0 = (f && decide (0 < (at' ss k).size) && !spB (at' ss k)) := ⟨_, rfl⟩
            have HB0 := hid hB0
            clear hB0
            go_cut [55] (fun t wx => w2 = wx ∧ t = .bool B0)
            case first =>
              by_cases hs : (at' ss k).size = 0
              · have hnil := nil_of_size _ hs
                have HF : Hid (B0 = false) := by show _ = _; rw [HB0.out, hs]; cases f <;> rfl
                clear hs
                cases f
                all_goals
                  go_wp2_with fail
                  go_meet
                  exact ⟨rfl, by rw [HF.out]⟩
              · have hnn := ne_nil_of_size (at' ss k) (by omega)
                have hne := isEmpty_of_size (at' ss k) (by omega)
                have HF : Hid (B0 = (f && !spB (at' ss k))) := by
                  show _ = _
                  rw [HB0.out, decide_eq_true (show 0 < (at' ss k).size by omega)]
                  cases f <;> rfl
                clear hs
                cases f
                · go_wp2_with fail
                  go_meet
                  exact ⟨rfl, by rw [HF.out]; rfl⟩
                · go_wp2_with fail
                  refine (spaced20 _ _).mono ?_
                  rintro e w' ⟨rfl, rfl⟩
                  go_wp2_with fail
                  go_meet
                  exact ⟨rfl, by rw [HF.out]; rfl⟩
            case rest =>
              obtain ⟨rfl, rfl⟩ := hcut
              go_upto_if 55 with fail
              go_cut [14] (fun t wx => w2 = wx ∧ ∃ sn : Nat, t = .int .i64 sn ∧ sn ≤ 2 ∧ Hid (MInv ss f (k + 1) (L ++ (at' ss k).data.toList ++ sepL sn)))
              case first =>
                cases B0
                · have HP := hid (HM.out.plain (show k < lst by omega) HLt.out HB0.out.symm)
                  go_wp2_with fail
                  go_meet
                  exact ⟨rfl, 1, rfl, by omega, HP⟩
                · obtain ⟨⟨rfl, hst⟩, hsp⟩ : (f = true ∧ 0 < (at' ss k).size) ∧ spB (at' ss k) = false := by have := HB0.out.symm; simpa using this
                  have HP := hid (fun m hm => HM.out.step hst (m := m) hm)
                  have HSP := hid hsp
                  clear hst hsp
                  go_wp2_with fail
                  go_loop [15] (fun t => ∃ m : Nat, t = .int .i64 m ∧ k < m ∧ m ≤ lst ∧ Hid (∀ i, k < i → i < m → (at' ss i).size = 0)) (fun t => lst - (intOf t).toNat)
                  case atStart => exact ⟨k + 1, by go_num, by omega, by omega, fun i h1 h2 => by omega⟩
                  case round =>
                    obtain ⟨m, rfl, hm1, hm2, HE⟩ := hrel
                    have hcm := (HB2.out.cell (p := ⟨b, 0 + m, none⟩) (World.block_lt_of_cell? _ _ (HC.out m (by omega)))).trans (HC.out m (by omega))
                    rw [Nat.zero_add] at hcm
                    by_cases hs : (at' ss m).size = 0
                    · have hnil := nil_of_size _ hs
                      have hml : m < lst := by
                        rcases Nat.lt_or_eq_of_le hm2 with h | h
                        · exact h
                        · subst h; have := HLt.out; omega
                      have HS := hid hs
                      clear hs
                      go_wp2_with fail
                      go_round
                      case rel => exact ⟨m + 1, by go_num, by omega, by omega, fun i h1 h2 => by rcases Nat.lt_succ_iff_lt_or_eq.1 h2 with h | h; exact HE.out i h1 h; rw [h]; exact HS.out⟩
                      case measure => simp [intOf]; omega
                    · have hnn := ne_nil_of_size (at' ss m) (by omega)
                      have hne := isEmpty_of_size (at' ss m) (by omega)
                      have HX : Hid (IsNext ss k m) := ⟨hm1, by omega, HE.out⟩
                      clear hs
                      go_wp2_with fail
                      refine (spaced20 _ _).mono ?_
                      rintro e w' ⟨rfl, rfl⟩
                      cases hsm : spB (at' ss m)
                      · by_cases hmk : m ≤ k + 1
                        · have HY := hid (sepN_two HSP.out hsm (by omega))
                          have HZ := hid (HP.out m HX.out)
                          go_wp2_with fail
                          go_meet
                          exact ⟨rfl, 2, rfl, by omega, by rw [HY.out] at HZ; exact HZ⟩
                        · have HY := hid (sepN_zero HSP.out hsm (by omega))
                          have HZ := hid (HP.out m HX.out)
                          go_wp2_with fail
                          go_meet
                          exact ⟨rfl, 0, rfl, by omega, by rw [HY.out] at HZ; exact HZ⟩
                      · have HY := hid (sepN_one (k := k) hsm)
                        have HZ := hid (HP.out m HX.out)
                        go_wp2_with fail
                        go_meet
                        exact ⟨rfl, 1, rfl, by omega, by rw [HY.out] at HZ; exact HZ⟩
              case rest =>
                obtain ⟨rfl, sn, rfl, hsn, HM2⟩ := hcut
                have hLen2 : Hid ((L ++ (at' ss k).data.toList).length ≤ tot ss (k + 1) + k) := by
                  show _ ≤ tot ss k + (at' ss k).size + k
                  have hs : (at' ss k).data.toList.length = (at' ss k).size := Array.length_toList
                  have := HLen.out
                  rw [List.length_append, hs]
                  omega
                have hLb : (L ++ (at' ss k).data.toList).length ≤ 1114112 := by
                  have hs : (at' ss k).data.toList.length = (at' ss k).size := Array.length_toList
                  rw [List.length_append, hs]
                  exact hLl
                clear HB0 HM HLen hcell
                generalize L ++ (at' ss k).data.toList = L2 at *
                rcases (show sn = 0 ∨ sn = 1 ∨ sn = 2 by omega) with rfl | rfl | rfl
                · go_wp2_with fail
                  go_roundw
                  case rel => exact ⟨k + 1, L2, by omega, by go_num, HO2, by have h := HM2.out; rw [show sepL 0 = [] from rfl, List.append_nil] at h; exact h, by have := hLen2.out; show _ ≤ _; omega, HB2⟩
                  case measure => simp [intOf]; omega
                · go_wp2_with (at_builtin; refine wpList_append_own _ rfl _ _ 32 rfl w.heap.size 5 i0 (.int .u8 0) 1 1 Try.underlying32 hi hz0 hz1 hz2 rfl (by decide) _ L2.length _ rfl (HO2.out.2.1.alloc _) ⟨w2.heap.size, 0, none⟩ 1 1 [.int .u8 10] rfl rfl (cell_one_new _ _ _) (fun u hu => by simp at hu; subst hu; rfl) (by unfold maxLen; omega) (by omega) (by have := HO2.out.1; simp; omega) ?_; intro v3 w3 hown hgrow hnl)
                  have hO3 := HO2.out.byte (x := 10) hown hgrow hnl
                  go_roundw
                  case rel => exact ⟨k + 1, L2 ++ [10], by omega, by go_num, hO3.1, HM2, by have := hLen2.out; show (L2 ++ [10]).length ≤ _; simp; omega, HB2.out.trans hO3.2⟩
                  case measure => simp [intOf]; omega
                · go_wp2_with (at_builtin; refine wpList_append_own _ rfl _ _ 32 rfl w.heap.size 5 i0 (.int .u8 0) 1 1 Try.underlying32 hi hz0 hz1 hz2 rfl (by decide) _ L2.length _ rfl (HO2.out.2.1.alloc _) ⟨w2.heap.size, 0, none⟩ 1 1 [.int .u8 32] rfl rfl (cell_one_new _ _ _) (fun u hu => by simp at hu; subst hu; rfl) (by unfold maxLen; omega) (by omega) (by have := HO2.out.1; simp; omega) ?_; intro v3 w3 hown hgrow hnl)
                  have hO3 := HO2.out.byte (x := 32) hown hgrow hnl
                  go_roundw
                  case rel => exact ⟨k + 1, L2 ++ [32], by omega, by go_num, hO3.1, HM2, by have := hLen2.out; show (L2 ++ [32]).length ≤ _; simp; omega, HB2.out.trans hO3.2⟩
                  case measure => simp [intOf]; omega
    case rest =>
      obtain ⟨HO, HB⟩ := hcut
      clear HO1 HB1
      go_upto_if 86 with fail
      have hTl : T.length ≤ 1114112 := by
        have h1 := bt_le ss f (x + 1).toNat
        have h2 := bt_prev ss f (x + 1).toNat
        have h3 := Nat.le_trans (tot_mono ss (show (x + 1).toNat ≤ n by omega)) ht.out
        rw [HT.out] at h1
        omega
      have hNb : tailN ch br x ≤ 65536 := by
        unfold tailN
        split
        · omega
        · split
          · omega
          · split
            · omega
            · split <;> omega
      have HTT : Hid (text ss f ch br x = T ++ nls (tailN ch br x)) := by show _ = _; rw [text, HT.out, tail_nls]
      obtain ⟨nn, HNN⟩ : ∃ nn, Hid (tailN ch br x = nn) := ⟨_, rfl⟩
      rw [HNN.out] at hNb HTT
      go_cut [16] (fun s wx => wc = wx ∧ s = .int .i64 nn)
      case first =>
        by_cases h43 : ch = 43
        · have HE : Hid (nn = br) := by show _ = _; rw [← HNN.out, tailN, if_pos h43]
          subst h43
          go_wp2_with fail
          go_meet
          exact ⟨rfl, by rw [HE.out]⟩
        · by_cases h45 : ch = 45
          · have HE : Hid (nn = 0) := by show _ = _; rw [← HNN.out, tailN, if_neg h43, if_pos h45]
            subst h45
            go_wp2_with fail
            go_meet
            exact ⟨rfl, by rw [HE.out]; rfl⟩
          · by_cases h0 : ch = 0 ∧ x < 0
            · have HE : Hid (nn = 0) := by show _ = _; rw [← HNN.out, tailN, if_neg h43, if_neg h45, if_pos h0]
              obtain ⟨rfl, hx0⟩ := h0
              go_wp2_with fail
              go_meet
              exact ⟨rfl, by rw [HE.out]; rfl⟩
            · by_cases hb0 : 0 < br
              · have HE : Hid (nn = 1) := by show _ = _; rw [← HNN.out, tailN, if_neg h43, if_neg h45, if_neg h0, if_pos hb0]
                by_cases hc0 : ch = 0
                · have hx0 : ¬ x < 0 := fun h => h0 ⟨hc0, h⟩
                  subst hc0
                  clear h0
                  go_wp2_with fail
                  go_meet
                  exact ⟨rfl, by rw [HE.out]; rfl⟩
                · have hd : (ch == 0) = false := by simpa using hc0
                  clear h0
                  go_wp2_with fail
                  go_meet
                  exact ⟨rfl, by rw [HE.out]; rfl⟩
              · have HE : Hid (nn = 0) := by show _ = _; rw [← HNN.out, tailN, if_neg h43, if_neg h45, if_neg h0, if_neg hb0]
                by_cases hc0 : ch = 0
                · have hx0 : ¬ x < 0 := fun h => h0 ⟨hc0, h⟩
                  subst hc0
                  clear h0
                  go_wp2_with fail
                  go_meet
                  exact ⟨rfl, by rw [HE.out]; rfl⟩
                · have hd : (ch == 0) = false := by simpa using hc0
                  clear h0
                  go_wp2_with fail
                  go_meet
                  exact ⟨rfl, by rw [HE.out]; rfl⟩
      case rest =>
        obtain ⟨rfl, rfl⟩ := hcut
        go_wp2_with fail
        go_loopw [11, 17] (fun v i wr => ∃ q : Nat, q ≤ nn ∧ i = .int .i64 q ∧ Hid (Out w.heap.size v (T ++ nls q) wr) ∧ Hid (Below w.heap.size w wr)) (fun _ i _ => nn - (intOf i).toNat)
        case atStart => exact ⟨0, Nat.zero_le _, rfl, by show Out _ _ _ _; rw [show nls 0 = [] from rfl, List.append_nil]; exact HO.out, HB⟩
        case round =>
          clear HO HB
          obtain ⟨q, hq, rfl, HO, HB⟩ := hrel
          by_cases hlt : q < nn
          · have hLb : (T ++ nls q).length ≤ 1179648 := by simp [nls]; omega
            go_wp2_with (at_builtin; refine wpList_append_own _ rfl _ _ 32 rfl w.heap.size 5 i0 (.int .u8 0) 1 1 Try.underlying32 hi hz0 hz1 hz2 rfl (by decide) _ (T ++ nls q).length _ rfl (HO.out.2.1.alloc _) ⟨wr.heap.size, 0, none⟩ 1 1 [.int .u8 10] rfl rfl (cell_one_new _ _ _) (fun u hu => by simp at hu; subst hu; rfl) (by unfold maxLen; omega) (by omega) (by have := HO.out.1; simp; omega) ?_; intro v3 w3 hown hgrow hnl)
            have hO3 := HO.out.byte (x := 10) hown hgrow hnl
            go_roundw
            case rel => exact ⟨q + 1, by omega, by go_num, by show Out _ _ _ _; rw [nls_succ, ← List.append_assoc]; exact hO3.1, HB.out.trans hO3.2⟩
            case measure => simp [intOf]; omega
          · obtain rfl : q = nn := by omega
            have hconv := HO.out.conv
            go_wp2_with fail
            go_ret
            exact ⟨x, HL.out, by rw [HTT.out]; rfl, HB.out⟩
end Go.Proofs.Qxb6605371a
