import Derived.Test.Qxb6605371aBlock
namespace Go.Proofs.Qxb6605371a
open Go.ChangeShapes Go.WideShapes Go.ChangeAt Go.RowKit

set_option maxRecDepth 100000 in
set_option maxHeartbeats 1000000 in
theorem block_nil (br : Nat) (f : Bool) (ch : Int) (w : World) (hbr : br ≤ 65536) :
    Calls Try.prog 19 #[.slice none 0 0, .int .i64 br, .bool f, .int .u8 ch] w fun e w' => e = .returned (.string (S (tail ch br (-1)))) ∧ Below w.heap.size w w' := by
  go_enter Try.func19, Try.ntmps19
  go_upto_block 0 with fail
  go_cut [9] (fun t wx => w = wx ∧ t = .int .i64 (-1))
  case first =>
    go_wp2_with fail
    go_loop [9] (fun t => t = .int .i64 (-1)) (fun _ => 0)
    case atStart => rfl
    case round =>
      subst hrel
      go_wp2_with fail
      go_meet
      exact ⟨rfl, rfl⟩
  case rest =>
    obtain ⟨rfl, rfl⟩ := hcut
    go_upto_region 7 with fail
    have HB := hid (Bld.fresh w)
    have HBel := hid ((Below.refl w.heap.size w).alloc (Nat.le_refl _) (.cells #[.pointer none, .slice none 0 0] 35))
    go_loop [34] (fun i => i = .int .i64 0) (fun _ => 0)
    case atStart => rfl
    case round =>
      subst hrel
      go_upto_block 5 with fail
      go_cut [] (fun wx => Hid (Bld w.heap.size (tail ch br (-1)) wx) ∧ Hid (Below w.heap.size w wx))
      case first =>
        by_cases h45 : ch = 45
        · have HX := hid (tail_none (br := br) (l := -1) (.inl h45))
          subst h45
          go_wp2_with fail
          go_meet
          exact ⟨by show Bld _ _ _; rw [HX.out]; exact HB.out, HBel⟩
        · by_cases hl0 : ch = 0
          · have HX := hid (tail_none (br := br) (l := -1) (.inr ⟨by omega, hl0⟩))
            subst hl0
            go_wp2_with fail
            go_meet
            exact ⟨by show Bld _ _ _; rw [HX.out]; exact HB.out, HBel⟩
          · by_cases h43 : ch = 43
            · have HX := hid (tail_keep (br := br) (l := -1) h43)
              subst h43
              go_wp2_with fail
              refine (rep_any _ br _ rfl (by omega)).mono ?_
              rintro e w1 ⟨rfl, hb1⟩
              have H1 := hid (HB.out.below hb1)
              have HB1 := hid (HBel.out.trans (hb1.mono HBel.out.size))
              clear hb1
              go_wp2_with fail
              refine (wstr_any _ _ _ _ H1.out (by rw [nls_size]; simp; omega)).mono ?_
              rintro e w2 ⟨rfl, hb2, hb3⟩
              have H2 := hid hb2
              have HB2 := hid (HB1.out.trans hb3)
              clear hb2 hb3
              go_wp2_with fail
              go_meet
              exact ⟨by show Bld _ _ _; rw [HX.out]; have h := H2.out; rw [S_data] at h; exact h, HB2⟩
            · have hc0 : (ch == 0) = false := by simpa using hl0
              by_cases hbr0 : 0 < br
              · have HX := hid (tail_one (br := br) (l := -1) (by omega) h43 hbr0)
                go_wp2_with fail
                refine (wbyte_any _ _ 10 _ _ HB.out rfl (by simp)).mono ?_
                rintro e w2 ⟨rfl, hb2, hb3⟩
                have H2 := hid hb2
                have HB2 := hid (HBel.out.trans hb3)
                clear hb2 hb3
                go_wp2_with fail
                go_meet
                exact ⟨by show Bld _ _ _; rw [HX.out]; exact H2.out, HB2⟩
              · have HX := hid (tail_zero (br := br) (l := -1) (by omega) h43 hbr0)
                go_wp2_with fail
                go_meet
                exact ⟨by show Bld _ _ _; rw [HX.out]; exact HB.out, HBel⟩
      case rest =>
        obtain ⟨H2, HB2⟩ := hcut
        go_wp2_with fail
        refine (bstr_any _ _ _ H2.out).mono ?_
        rintro e w3 ⟨rfl, hb3⟩
        go_wp2_with fail
        go_ret
        exact ⟨rfl, HB2.out.trans hb3⟩

/-- blockText, whatever the lines. -/
theorem block_any (a : Option Addr) (n : Nat) (ss : List ByteArray) (br : Nat) (f : Bool) (ch : Int) (w : World) (hv : Strs w (.slice a n n) ss) (hn : n = ss.length) (hl : n ≤ 65536) (ht : tot ss n ≤ 1048576) (hbr : br ≤ 65536) (ha : a = none ∨ ∃ b, a = some ⟨b, 0, none⟩) :
    Calls Try.prog 19 #[.slice a n n, .int .i64 br, .bool f, .int .u8 ch] w fun e w' => ∃ last, IsLast ss last ∧ e = .returned (.string (S (text ss f ch br last))) ∧ Below w.heap.size w w' := by
  obtain ⟨a1, c1, h1, h⟩ := hv
  cases h1
  rcases ha with rfl | ⟨b, rfl⟩
  · have h0 : ss.length = 0 := by
      rcases Nat.eq_zero_or_pos ss.length with h0 | h0
      · exact h0
      · obtain ⟨_, _, h2, _⟩ := h h0; cases h2
    rw [h0]
    refine (block_nil br f ch w hbr).mono ?_
    rintro e w' ⟨rfl, hb⟩
    refine ⟨-1, ⟨.inl rfl, fun i h1 h2 => by omega⟩, ?_, hb⟩
    rfl
  · refine (block_row b 0 ss.length ss.length ss br f ch w rfl (Nat.le_refl _) hl ht hbr (fun i hi => ?_)).mono ?_
    · obtain ⟨b', o', h2, hc⟩ := h (by omega)
      cases h2
      exact hc i hi
    · rintro e w' ⟨last, h1, rfl, h3⟩
      exact ⟨last, h1, rfl, h3⟩

theorem zzblock_any (a : Option Addr) (n : Nat) (ss : List ByteArray) (br : Nat) (f : Bool) (ch : Int) (w : World) (hv : Strs w (.slice a n n) ss) (hn : n = ss.length) (hl : n ≤ 65536) (ht : tot ss n ≤ 1048576) (hbr : br ≤ 65536) (ha : a = none ∨ ∃ b, a = some ⟨b, 0, none⟩) :
    Calls Try.prog 10 #[.slice a n n, .int .i64 br, .bool f, .int .u8 ch] w fun e w' => ∃ last, IsLast ss last ∧ e = .returned (.string (S (text ss f ch br last))) ∧ Below w.heap.size w w' := by
  have HC := hid (block_any a n ss br f ch w hv hn hl ht hbr ha)
  clear hv hn hl ht hbr ha
  go_enter Try.func10, Try.ntmps10
  go_wp2_with fail
  refine HC.out.mono ?_
  rintro e w' ⟨last, h1, rfl, h3⟩
  go_wp2_with fail
  go_ret
  exact ⟨last, h1, rfl, h3⟩
end Go.Proofs.Qxb6605371a
