import Derived.Test.Qxb6605371aCloneN
import Derived.Test.Qxb6605371aBlockNil
import Derived.Test.Qxb6605371aModelNil
namespace Go.Proofs.Qxb6605371a
open Go.ChangeShapes Go.WideShapes Go.ChangeAt Go.RowKit

theorem bytes7_nil (a : Option Addr) (c : Nat) (x1 : Int) (x2 : Bool) (x3 : Int) (w : World) :
    Calls Try.prog 7 #[.slice a 0 c, .int .i64 x1, .bool x2, .int .u8 x3] w fun e w' => IsBool e ∧ w = w' := by
  go_enter Try.func7, Try.ntmps7
  go_wp2
  go_loop [9, 10] (fun n i => i = .int .i64 0 ∧ n = .int .i64 0) (fun _ _ => 0)
  case atStart => exact ⟨rfl, rfl⟩
  case round =>
    obtain ⟨rfl, rfl⟩ := hrel
    go_wp2
    go_ret
    exact ⟨⟨_, rfl⟩, rfl⟩

set_option maxHeartbeats 400000 in
theorem bytes7_row (b o n c : Nat) (ss : List ByteArray) (x1 : Int) (x2 : Bool) (x3 : Int) (w : World) (hl : n ≤ maxLen) (hsz : ∀ i, (at' ss i).size ≤ maxLen)
    (hc : ∀ i, i < n → w.cell? ⟨b, o + i, none⟩ = some (.string (at' ss i))) :
    Calls Try.prog 7 #[.slice (some ⟨b, o, none⟩) n c, .int .i64 x1, .bool x2, .int .u8 x3] w fun e w' => IsBool e ∧ w = w' := by
  unfold maxLen at hl
  by_cases h1 : n ≤ 1048576
  · go_enter Try.func7, Try.ntmps7
    go_wp2
    go_loop [9, 10] (fun t i => ∃ k m : Nat, k ≤ n ∧ i = .int .i64 k ∧ t = .int .i64 m ∧ m ≤ 1048576) (fun _ i => n - (intOf i).toNat)
    case atStart => exact ⟨0, n, Nat.zero_le _, rfl, by go_num, by omega⟩
    case round =>
      obtain ⟨k, m, hk, rfl, rfl, hm⟩ := hrel
      by_cases hlt : k < n
      · have hcell := hc k hlt
        have hsk := hsz k
        unfold maxLen at hsk
        clear hc
        by_cases h2 : (at' ss k).size ≤ 1048576
        · by_cases h3 : m + (at' ss k).size ≤ 1048576
          · go_wp2
            go_round
            case rel => exact ⟨k + 1, m + (at' ss k).size, by omega, by go_num, by go_num, by omega⟩
            case measure => simp [intOf]; omega
          · go_wp2
            go_ret
            exact ⟨⟨_, rfl⟩, rfl⟩
        · go_wp2
          go_ret
          exact ⟨⟨_, rfl⟩, rfl⟩
      · go_wp2
        go_ret
        exact ⟨⟨_, rfl⟩, rfl⟩
  · go_enter Try.func7, Try.ntmps7
    go_wp2
    go_ret
    exact ⟨⟨_, rfl⟩, rfl⟩

theorem bytes7_any (v : Value) (ss : List ByteArray) (x1 : Int) (x2 : Bool) (x3 : Int) (w : World) (hv : Strs w v ss) (hl : ss.length ≤ maxLen) (hsz : ∀ i, (at' ss i).size ≤ maxLen) :
    Calls Try.prog 7 #[v, .int .i64 x1, .bool x2, .int .u8 x3] w fun e w' => IsBool e ∧ w = w' := by
  obtain ⟨a, c, rfl, h⟩ := hv
  by_cases h0 : 0 < ss.length
  · obtain ⟨b, o, rfl, hc⟩ := h h0
    exact bytes7_row b o _ c ss x1 x2 x3 w hl hsz hc
  · have e0 : ss.length = 0 := by omega
    rw [e0]
    exact bytes7_nil a c x1 x2 x3 w


set_option maxHeartbeats 1000000 in
theorem match_any (a : Option Addr) (n c : Nat) (br : Int) (f : Bool) (ch : Int) (ss : List ByteArray) (w : World) (hv : Hid (Strs w (.slice a n c) ss)) (h0 : Hid (a = none → c = 0)) (HN : Hid (n = ss.length)) (hl : n ≤ maxLen) (hsz : Hid (∀ i, (at' ss i).size ≤ maxLen)) :
    Calls Try.prog 3 #[.slice a n c, .int .i64 br, .bool f, .int .u8 ch] w fun e w' => e = .returned (.bool true) ∧ Below w.heap.size w w' := by
  unfold maxLen at hl
  by_cases h1 : n ≤ 65536
  · go_enter Try.func3, Try.ntmps3
    go_wp2_with fail
    refine (bytes7_any _ ss _ _ _ _ hv.out (by rw [← HN.out]; exact hl) hsz.out).mono ?_
    rintro e w' ⟨⟨r, rfl⟩, rfl⟩
    cases r
    · go_wp2_with fail
      go_ret
      exact ⟨rfl, Below.refl _ _⟩
    go_wp2_with fail
    refine (b1_any _ ss _ hv.out (by rw [← HN.out]; exact hl) hsz.out).mono ?_
    rintro e w' ⟨⟨m, rfl, hm'⟩, rfl⟩
    have HT := hid hm'
    clear hm'
    by_cases hm : m ≤ 1048576
    · have ht := hid (HT.out hm)
      by_cases hbr : 0 ≤ br ∧ br ≤ 65536
      · obtain ⟨q, rfl⟩ : ∃ q : Nat, br = q := ⟨br.toNat, by omega⟩
        obtain ⟨hb1, hb2⟩ := hbr
        go_wp2_with fail
        refine (clone_n _ _ _ ss _ hv.out HN.out h0.out h1).mono ?_
        rintro e w1 ⟨a1, rfl, hv1', ha1', hb1'⟩
        have hv1 := hid hv1'
        have ha1 := hid ha1'
        have HB1 := hid hb1'
        clear hv1' hb1' ha1'
        go_wp2_with fail
        refine (zzblock_any _ _ ss q f ch _ hv1.out HN.out h1 (by rw [HN.out]; exact ht.out) (by omega) ha1.out).mono ?_
        rintro e w2 ⟨l1, hl1', rfl, hb2'⟩
        have HL1 := hid hl1'
        have HB2 := hid hb2'
        have hv2 := hid (hv1.out.below hb2')
        clear hl1' hb2'
        go_wp2_with fail
        refine (model_any _ _ ss q f ch _ hv2.out HN.out h1 (by rw [HN.out]; exact ht.out) (by omega) ha1.out).mono ?_
        rintro e w3 ⟨l2, hl2', rfl, hb3'⟩
        have e12 := HL1.out.one hl2'
        subst e12
        have HB3 := hid ((HB1.out.trans (HB2.out.mono HB1.out.size)).trans (hb3'.mono (Nat.le_trans HB1.out.size HB2.out.size)))
        clear hl2' hb3'
        go_wp2_with fail
        go_ret
        exact ⟨by simp, HB3.out⟩
      · by_cases hb0 : br < 0
        · go_wp2_with fail
          go_ret
          exact ⟨rfl, Below.refl _ _⟩
        · have hb2 : 65536 < br := by omega
          go_wp2_with fail
          go_ret
          exact ⟨rfl, Below.refl _ _⟩
    · go_wp2_with fail
      go_ret
      exact ⟨rfl, Below.refl _ _⟩
  · go_enter Try.func3, Try.ntmps3
    go_wp2_with fail
    refine (bytes7_any _ ss _ _ _ _ hv.out (by rw [← HN.out]; exact hl) hsz.out).mono ?_
    rintro e w' ⟨⟨r, rfl⟩, rfl⟩
    cases r <;>
    · go_wp2_with fail
      go_ret
      exact ⟨rfl, Below.refl _ _⟩
end Go.Proofs.Qxb6605371a
