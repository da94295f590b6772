import Derived.Test.Qxb6605371aModel
namespace Go.Proofs.Qxb6605371a
open Go.ChangeShapes Go.WideShapes Go.ChangeAt Go.RowKit

set_option maxRecDepth 100000 in
set_option maxHeartbeats 1000000 in
theorem model_nil (br : Nat) (f : Bool) (ch : Int) (w : World) (hbr : br ≤ 65536) :
    Calls Try.prog 11 #[.slice none 0 0, .int .i64 br, .bool f, .int .u8 ch] w fun e w' => e = .returned (.string (S (tail ch br (-1)))) ∧ Below w.heap.size w w' := by
  obtain ⟨i0, hi, hz0, hz1, hz2⟩ := info_parts Try.info5
  go_enter Try.func11, Try.ntmps11
  go_upto_block 0 with fail
  go_cut [9] (fun t wx => w = wx ∧ t = .int .i64 (-1))
  case first =>
    go_wp2_with fail
    go_loop [9, 10] (fun t i => i = .int .i64 0 ∧ t = .int .i64 (-1)) (fun _ _ => 0)
    case atStart => exact ⟨rfl, rfl⟩
    case round =>
      obtain ⟨rfl, rfl⟩ := hrel
      go_wp2_with fail
      go_meet
      exact ⟨rfl, rfl⟩
  case rest =>
    obtain ⟨rfl, rfl⟩ := hcut
    go_upto_block 2 with (at_make; refine wpList_make_own _ rfl _ _ 32 rfl w.heap.size 5 i0 (.int .u8 0) 1 Try.underlying32 hi hz0 hz1 _ _ _ 64 rfl rfl rfl (by rw [hz2]; omega) (by unfold maxLen; omega) (Nat.le_refl _) ?_; intro w1 hown hgrow)
    have HB := hid ((Below.refl w.heap.size w).grown hgrow (Nat.le_refl _) (fun k h => by cases h))
    have HO : Hid (Out w.heap.size (.slice (some ⟨w.heap.size, 0, none⟩) 0 64) [] w1) := ⟨hgrow.size, hown, by simp⟩
    clear hown hgrow
    have hNb : tailN ch br (-1) ≤ 65536 := by
      unfold tailN
      split
      · omega
      · split
        · omega
        · split
          · omega
          · split <;> omega
    have HTT : Hid (tail ch br (-1) = nls (tailN ch br (-1))) := tail_nls _ _ _
    obtain ⟨nn, HNN⟩ : ∃ nn, Hid (tailN ch br (-1) = nn) := ⟨_, rfl⟩
    rw [HNN.out] at hNb HTT
    go_wp2_with fail
    go_loop [11, 12] (fun v i => v = .slice (some ⟨w.heap.size, 0, none⟩) 0 64 ∧ i = .int .i64 0) (fun _ _ => 0)
    case atStart => exact ⟨rfl, rfl⟩
    case round =>
      obtain ⟨rfl, rfl⟩ := hrel
      go_upto_if 86 with fail
      go_cut [16] (fun s wx => w1 = wx ∧ s = .int .i64 nn)
      case first =>
        by_cases h43 : ch = 43
        · have HE : Hid (nn = br) := by show _ = _; rw [← HNN.out, tailN, if_pos h43]
          subst h43
          go_wp2_with fail
          go_meet
          exact ⟨rfl, by rw [HE.out]⟩
        · by_cases h45 : ch = 45
          · have HE : Hid (nn = 0) := by show _ = _; rw [← HNN.out, tailN, if_neg h43, if_pos h45]
            subst h45
            go_wp2_with fail
            go_meet
            exact ⟨rfl, by rw [HE.out]; rfl⟩
          · by_cases h0 : ch = 0
            · have HE : Hid (nn = 0) := by show _ = _; rw [← HNN.out, tailN, if_neg h43, if_neg h45, if_pos ⟨h0, by omega⟩]
              subst h0
              go_wp2_with fail
              go_meet
              exact ⟨rfl, by rw [HE.out]; rfl⟩
            · have hd : (ch == 0) = false := by simpa using h0
              by_cases hb0 : 0 < br
              · have HE : Hid (nn = 1) := by show _ = _; rw [← HNN.out, tailN, if_neg h43, if_neg h45, if_neg (fun h => h0 h.1), if_pos hb0]
                go_wp2_with fail
                go_meet
                exact ⟨rfl, by rw [HE.out]; rfl⟩
              · have HE : Hid (nn = 0) := by show _ = _; rw [← HNN.out, tailN, if_neg h43, if_neg h45, if_neg (fun h => h0 h.1), if_neg hb0]
                go_wp2_with fail
                go_meet
                exact ⟨rfl, by rw [HE.out]; rfl⟩
      case rest =>
        obtain ⟨rfl, rfl⟩ := hcut
        go_wp2_with fail
        go_loopw [11, 17] (fun v i wr => ∃ q : Nat, q ≤ nn ∧ i = .int .i64 q ∧ Hid (Out w.heap.size v (nls q) wr) ∧ Hid (Below w.heap.size w wr)) (fun _ i _ => nn - (intOf i).toNat)
        case atStart => exact ⟨0, Nat.zero_le _, rfl, HO, HB⟩
        case round =>
          clear HO HB
          obtain ⟨q, hq, rfl, HO, HB⟩ := hrel
          by_cases hlt : q < nn
          · have hLb : (nls q).length ≤ 1179648 := by simp [nls]; omega
            go_wp2_with (at_builtin; refine wpList_append_own _ rfl _ _ 32 rfl w.heap.size 5 i0 (.int .u8 0) 1 1 Try.underlying32 hi hz0 hz1 hz2 rfl (by decide) _ (nls q).length _ rfl (HO.out.2.1.alloc _) ⟨wr.heap.size, 0, none⟩ 1 1 [.int .u8 10] rfl rfl (cell_one_new _ _ _) (fun u hu => by simp at hu; subst hu; rfl) (by unfold maxLen; omega) (by omega) (by have := HO.out.1; simp; omega) ?_; intro v3 w3 hown hgrow hnl)
            have hO3 := HO.out.byte (x := 10) hown hgrow hnl
            go_roundw
            case rel => exact ⟨q + 1, by omega, by go_num, by show Out _ _ _ _; rw [nls_succ]; exact hO3.1, HB.out.trans hO3.2⟩
            case measure => simp [intOf]; omega
          · obtain rfl : q = nn := by omega
            have hconv := HO.out.conv
            go_wp2_with fail
            go_ret
            exact ⟨by rw [HTT.out]; rfl, HB.out⟩

/-- zzBlockModelB1, whatever the lines. -/
theorem model_any (a : Option Addr) (n : Nat) (ss : List ByteArray) (br : Nat) (f : Bool) (ch : Int) (w : World) (hv : Strs w (.slice a n n) ss) (hn : n = ss.length) (hl : n ≤ 65536) (ht : tot ss n ≤ 1048576) (hbr : br ≤ 65536) (ha : a = none ∨ ∃ b, a = some ⟨b, 0, none⟩) :
    Calls Try.prog 11 #[.slice a n n, .int .i64 br, .bool f, .int .u8 ch] w fun e w' => ∃ last, IsLast ss last ∧ e = .returned (.string (S (text ss f ch br last))) ∧ Below w.heap.size w w' := by
  obtain ⟨a1, c1, h1, h⟩ := hv
  cases h1
  rcases ha with rfl | ⟨b, rfl⟩
  · have h0 : ss.length = 0 := by
      rcases Nat.eq_zero_or_pos ss.length with h0 | h0
      · exact h0
      · obtain ⟨_, _, h2, _⟩ := h h0; cases h2
    rw [h0]
    refine (model_nil br f ch w hbr).mono ?_
    rintro e w' ⟨rfl, hb⟩
    refine ⟨-1, ⟨.inl rfl, fun i h1 h2 => by omega⟩, ?_, hb⟩
    rfl
  · refine model_row b ss.length ss br f ch w rfl hl ht hbr (fun i hi => ?_)
    obtain ⟨b', o', h2, hc⟩ := h (by omega)
    cases h2
    exact hc i hi
end Go.Proofs.Qxb6605371a
