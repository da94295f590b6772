import Derived.Test.Qxb6605371aClone
import Derived.Deep.Cut
namespace Go.Proofs.Qxb6605371a
open Go.ChangeShapes Go.WideShapes Go.ChangeAt Go.RowKit

theorem bytes15_nil (a : Option Addr) (c : Nat) (w : World) :
    Calls Try.prog 15 #[.slice a 0 c] w fun e w' => IsBool e ∧ w = w' := by
  go_enter Try.func15, Try.ntmps15
  go_wp2
  go_loop [3, 4] (fun n i => i = .int .i64 0 ∧ n = .int .i64 0) (fun _ _ => 0)
  case atStart => exact ⟨rfl, rfl⟩
  case round =>
    obtain ⟨rfl, rfl⟩ := hrel
    go_wp2
    go_ret
    exact ⟨⟨_, rfl⟩, rfl⟩

set_option maxHeartbeats 400000 in
theorem bytes15_row (b o n c : Nat) (ss : List ByteArray) (w : World) (hl : n ≤ maxLen) (hsz : ∀ i, (at' ss i).size ≤ maxLen)
    (hc : ∀ i, i < n → w.cell? ⟨b, o + i, none⟩ = some (.string (at' ss i))) :
    Calls Try.prog 15 #[.slice (some ⟨b, o, none⟩) n c] w fun e w' => IsBool e ∧ w = w' := by
  unfold maxLen at hl
  by_cases h1 : n ≤ 1048576
  · go_enter Try.func15, Try.ntmps15
    go_wp2
    go_loop [3, 4] (fun t i => ∃ k m : Nat, k ≤ n ∧ i = .int .i64 k ∧ t = .int .i64 m ∧ m ≤ 1048576) (fun _ i => n - (intOf i).toNat)
    case atStart => exact ⟨0, n, Nat.zero_le _, rfl, by go_num, by omega⟩
    case round =>
      obtain ⟨k, m, hk, rfl, rfl, hm⟩ := hrel
      by_cases hlt : k < n
      · have hcell := hc k hlt
        have hsk := hsz k
        unfold maxLen at hsk
        clear hc
        by_cases h2 : (at' ss k).size ≤ 1048576
        · by_cases h3 : m + (at' ss k).size ≤ 1048576
          · go_wp2
            go_round
            case rel => exact ⟨k + 1, m + (at' ss k).size, by omega, by go_num, by go_num, by omega⟩
            case measure => simp [intOf]; omega
          · go_wp2
            go_ret
            exact ⟨⟨_, rfl⟩, rfl⟩
        · go_wp2
          go_ret
          exact ⟨⟨_, rfl⟩, rfl⟩
      · go_wp2
        go_ret
        exact ⟨⟨_, rfl⟩, rfl⟩
  · go_enter Try.func15, Try.ntmps15
    go_wp2
    go_ret
    exact ⟨⟨_, rfl⟩, rfl⟩

theorem bytes15_any (v : Value) (ss : List ByteArray) (w : World) (hv : Strs w v ss) (hl : ss.length ≤ maxLen) (hsz : ∀ i, (at' ss i).size ≤ maxLen) :
    Calls Try.prog 15 #[v] w fun e w' => IsBool e ∧ w = w' := by
  obtain ⟨a, c, rfl, h⟩ := hv
  by_cases h0 : 0 < ss.length
  · obtain ⟨b, o, rfl, hc⟩ := h h0
    exact bytes15_row b o _ c ss w hl hsz hc
  · have e0 : ss.length = 0 := by omega
    rw [e0]
    exact bytes15_nil a c w


theorem isHash_empty (s : ByteArray) (w : World) (h : s.size = 0) :
    Calls Try.prog 17 #[.string s] w fun e w' => e = .returned (.bool false) ∧ w = w' := by
  go_enter Try.func17, Try.ntmps17
  go_wp2
  go_ret
  exact ⟨rfl, rfl⟩

theorem hashB_head (s : ByteArray) (h : 0 < s.size) : ((s[0].toNat : Int) == 35) = hashB s := by
  unfold hashB
  rw [ByteArray.toList_eq, ByteArray.data_extract]
  obtain ⟨⟨l⟩⟩ := s
  match l, h with
  | x :: t, h =>
    have e : ((ByteArray.mk (x :: t).toArray)[0]'h) = x := rfl
    rw [e]
    simp only [List.extract_toArray, List.extract_eq_take_drop, List.drop_zero, List.take_succ_cons, List.take_zero, Nat.sub_zero]
    rw [Bool.eq_iff_iff]
    simp only [beq_iff_eq, List.cons.injEq, and_true]
    constructor
    · intro hx
      exact UInt8.toNat_inj.1 (by simpa using Int.ofNat_inj.1 hx)
    · rintro rfl
      rfl

theorem isHash_some (s : ByteArray) (w : World) (h : 0 < s.size) :
    Calls Try.prog 17 #[.string s] w fun e w' => e = .returned (.bool (hashB s)) ∧ w = w' := by
  have HH := hid (hashB_head s h)
  go_enter Try.func17, Try.ntmps17
  go_wp2
  go_ret
  exact ⟨congrArg (fun b => Ending.returned (Value.bool b)) HH.out, rfl⟩

theorem isHash_any (s : ByteArray) (w : World) :
    Calls Try.prog 17 #[.string s] w fun e w' => e = .returned (.bool (hashB s)) ∧ w = w' := by
  by_cases h : 0 < s.size
  · exact isHash_some s w h
  · rw [hashB_empty s (by omega)]
    exact isHash_empty s w (by omega)

theorem IsIdx.bds {ss : List ByteArray} {r : Int} (h : IsIdx ss r) : -1 ≤ r ∧ r < ss.length := by
  rcases h with ⟨rfl, _⟩ | ⟨k, rfl, hk, _⟩ <;> omega

set_option maxHeartbeats 1000000 in
theorem first_any (a : Option Addr) (n c : Nat) (ss : List ByteArray) (w : World) (hv : Hid (Strs w (.slice a n c) ss)) (h0 : Hid (a = none → c = 0)) (HN : Hid (n = ss.length)) (hl : n ≤ maxLen) (hsz : Hid (∀ i, (at' ss i).size ≤ maxLen)) :
    Calls Try.prog 5 #[.slice a n c] w fun e w' => e = .returned (.bool true) ∧ Below w.heap.size w w' := by
  unfold maxLen at hl
  by_cases h1 : n ≤ 65536
  · go_enter Try.func5, Try.ntmps5
    go_wp2_with fail
    refine (bytes15_any _ ss _ hv.out (by rw [← HN.out]; exact hl) hsz.out).mono ?_
    rintro e w' ⟨⟨r, rfl⟩, rfl⟩
    cases r
    · go_wp2_with fail
      go_ret
      exact ⟨rfl, Below.refl _ _⟩
    go_wp2_with fail
    refine (b1_any _ ss _ hv.out (by rw [← HN.out]; exact hl) hsz.out).mono ?_
    rintro e w' ⟨⟨m, rfl, hm⟩, rfl⟩
    clear hm
    by_cases hm : m ≤ 1048576
    · go_wp2_with fail
      refine (clone_any _ _ _ ss _ hv.out HN.out h0.out h1).mono ?_
      rintro e w1 ⟨a1, c1, rfl, hv1', hn1', hb1'⟩
      have hv1 := hid hv1'
      have hb1 := hid hb1'
      clear hv1' hn1' hb1'
      go_wp2_with fail
      refine (zzindex_any _ ss _ hv1.out (by rw [← HN.out]; exact hl) hsz.out).mono ?_
      rintro e w' ⟨r, rfl, hr', rfl⟩
      have er := hr'.bds
      rw [← HN.out] at er
      obtain ⟨er1, er2⟩ := er
      have hr := hid hr'
      clear hr' hm
      by_cases h0r : 0 ≤ r
      · rcases hr.out with ⟨h, _⟩ | ⟨k, rfl, hk, hh, hbk⟩
        · omega
        obtain ⟨a2, c2, h2, hc2⟩ := hv1.out
        cases h2
        obtain ⟨b, o, rfl, hc⟩ := hc2 (by omega)
        have hck := hc k hk
        have HC := hid hc
        have HB := hid hbk
        clear hc2 hc hbk
        go_upto_region 14 with (go_at_call 17; refine (isHash_any _ _).mono ?_; rw [hh]; rintro e w' ⟨rfl, rfl⟩)
        go_wp2_with fail
        go_loop [5] (fun i => ∃ j : Nat, j ≤ k ∧ i = .int .i64 j) (fun i => k - (intOf i).toNat)
        case atStart => exact ⟨0, Nat.zero_le _, rfl⟩
        case round =>
          obtain ⟨j, hj, rfl⟩ := hrel
          by_cases hlt : j < k
          · have hcj := HC.out j (by omega)
            have hhj := HB.out j hlt
            go_wp2_with (go_at_call 17; refine (isHash_any _ _).mono ?_; rw [hhj]; rintro e w' ⟨rfl, rfl⟩)
            go_round
            case rel => exact ⟨j + 1, by omega, by go_num⟩
            case measure => simp [intOf]; omega
          · go_wp2_with fail
            go_ret
            exact ⟨rfl, hb1.out⟩
      · rcases hr.out with ⟨rfl, hbk⟩ | ⟨k, rfl, hk, hh, hbk⟩
        rotate_left
        · omega
        have HB := hid hbk
        clear hbk
        by_cases hp : 0 < n
        · obtain ⟨a2, c2, h2, hc2⟩ := hv1.out
          cases h2
          obtain ⟨b, o, rfl, hc⟩ := hc2 hp
          have HC := hid hc
          clear hc2 hc
          go_wp2_with fail
          go_loop [5] (fun i => ∃ j : Nat, j ≤ ss.length ∧ i = .int .i64 j) (fun i => ss.length - (intOf i).toNat)
          case atStart => exact ⟨0, Nat.zero_le _, rfl⟩
          case round =>
            obtain ⟨j, hj, rfl⟩ := hrel
            by_cases hlt : j < ss.length
            · have hcj := HC.out j (by omega)
              have hhj := HB.out j hlt
              go_wp2_with (go_at_call 17; refine (isHash_any _ _).mono ?_; rw [hhj]; rintro e w' ⟨rfl, rfl⟩)
              go_round
              case rel => exact ⟨j + 1, by omega, by go_num⟩
              case measure => simp [intOf]; omega
            · go_wp2_with fail
              go_ret
              exact ⟨rfl, hb1.out⟩
        · have hn0 : n = 0 := by omega
          subst hn0
          go_wp2_with fail
          go_loop [5] (fun i => i = .int .i64 0) (fun _ => 0)
          case atStart => rfl
          case round =>
            subst hrel
            go_wp2_with fail
            go_ret
            exact ⟨rfl, hb1.out⟩
    · go_wp2_with fail
      go_ret
      exact ⟨rfl, Below.refl _ _⟩
  · go_enter Try.func5, Try.ntmps5
    go_wp2_with fail
    refine (bytes15_any _ ss _ hv.out (by rw [← HN.out]; exact hl) hsz.out).mono ?_
    rintro e w' ⟨⟨r, rfl⟩, rfl⟩
    cases r <;>
    · go_wp2_with fail
      go_ret
      exact ⟨rfl, Below.refl _ _⟩
end Go.Proofs.Qxb6605371a
