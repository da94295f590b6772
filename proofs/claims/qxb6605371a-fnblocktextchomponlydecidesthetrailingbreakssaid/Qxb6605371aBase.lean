import Derived.Test.Qxb6605371aRows
import Derived.WalkKit
import Derived.ProofKit
import Derived.WalkSpells
namespace Go.Proofs.Qxb6605371a
open Go.ChangeShapes Go.WideShapes Go.ChangeAt Go.RowKit

theorem hid {p : Prop} (h : p) : Hid p := h

/-- THE i-th STRING. -/
def at' (ss : List ByteArray) (i : Nat) : ByteArray := ss.getD i ByteArray.empty

/-- WHAT A SLICE OF STRINGS HOLDS: 'v' reads as the strings 'ss' in the world 'w'. -/
def Strs (w : World) (v : Value) (ss : List ByteArray) : Prop :=
  ∃ a c, v = .slice a ss.length c ∧ (0 < ss.length → ∃ b o, a = some ⟨b, o, none⟩ ∧ ∀ i, i < ss.length → w.cell? ⟨b, o + i, none⟩ = some (.string (at' ss i)))

/-- Does a field open a comment? -/
def hashB (s : ByteArray) : Bool := (s.extract 0 1).toList == [35]

theorem hashB_empty (s : ByteArray) (h : s.size = 0) : hashB s = false := by
  unfold hashB
  rw [ByteArray.toList_eq]
  have : s.data = #[] := Array.eq_empty_of_size_eq_zero h
  simp [ByteArray.data_extract, this]

set_option maxHeartbeats 400000 in
theorem hp_any (s : ByteArray) (w : World) (hs : s.size ≤ maxLen) :
    Calls Try.prog 27 #[.string s, .string ⟨#[35]⟩] w fun e w' => e = .returned (.bool (hashB s)) ∧ w = w' := by
  unfold maxLen at hs
  by_cases h : 0 < s.size
  · go_enter Try.func27, Try.ntmps27
    go_wp2
    go_ret
    exact ⟨rfl, rfl⟩
  · have hz := hashB_empty s (by omega)
    go_enter Try.func27, Try.ntmps27
    go_wp2
    go_ret
    exact ⟨rfl, rfl⟩

/-- 'r' IS THE PLACE OF THE FIRST FIELD THAT OPENS A COMMENT, or -1. -/
def IsIdx (ss : List ByteArray) (r : Int) : Prop :=
  (r = -1 ∧ ∀ j, j < ss.length → hashB (at' ss j) = false) ∨ ∃ k : Nat, r = k ∧ k < ss.length ∧ hashB (at' ss k) = true ∧ ∀ j, j < k → hashB (at' ss j) = false

theorem index_nil (a : Option Addr) (c : Nat) (w : World) :
    Calls Try.prog 21 #[.slice a 0 c] w fun e w' => e = .returned (.int .i64 (-1)) ∧ w = w' := by
  go_enter Try.func21, Try.ntmps21
  go_wp2
  go_loop [7] (fun i => i = .int .i64 0) (fun _ => 0)
  case atStart => rfl
  case round =>
    subst hrel
    go_wp2
    go_ret
    exact ⟨rfl, rfl⟩

set_option maxHeartbeats 400000 in
theorem index_row (b o n c : Nat) (ss : List ByteArray) (w : World) (HN : Hid (n = ss.length)) (hl : n ≤ maxLen) (hsz : ∀ i, (at' ss i).size ≤ maxLen)
    (hc : ∀ i, i < n → w.cell? ⟨b, o + i, none⟩ = some (.string (at' ss i))) :
    Calls Try.prog 21 #[.slice (some ⟨b, o, none⟩) n c] w fun e w' => ∃ r : Int, e = .returned (.int .i64 r) ∧ IsIdx ss r ∧ w = w' := by
  unfold maxLen at hl
  go_enter Try.func21, Try.ntmps21
  go_wp2
  go_loop [7] (fun i => ∃ k : Nat, k ≤ n ∧ i = .int .i64 k ∧ Hid (∀ j, j < k → hashB (at' ss j) = false)) (fun i => n - (intOf i).toNat)
  case atStart => exact ⟨0, Nat.zero_le _, rfl, fun j hj => by omega⟩
  case round =>
    obtain ⟨k, hk, rfl, H⟩ := hrel
    by_cases hlt : k < n
    · have hcell := hc k hlt
      have hsk := hsz k
      clear hc
      cases hh : hashB (at' ss k)
      · go_wp2_with (go_at_call 27; refine (hp_any _ _ hsk).mono ?_; rintro e w' ⟨rfl, rfl⟩)
        go_round
        case rel => exact ⟨k + 1, by omega, by go_num, fun j hj => by rcases Nat.lt_succ_iff_lt_or_eq.1 hj with h | h; exact H.out j h; rw [h]; exact hh⟩
        case measure => simp [intOf]; omega
      · go_wp2_with (go_at_call 27; refine (hp_any _ _ hsk).mono ?_; rintro e w' ⟨rfl, rfl⟩)
        go_ret
        exact ⟨_, rfl, .inr ⟨k, rfl, by rw [← HN.out]; exact hlt, hh, H.out⟩, rfl⟩
    · go_wp2
      go_ret
      exact ⟨_, rfl, .inl ⟨rfl, fun j hj => H.out j (by have := HN.out; omega)⟩, rfl⟩

theorem index_any (v : Value) (ss : List ByteArray) (w : World) (hv : Strs w v ss) (hl : ss.length ≤ maxLen) (hsz : ∀ i, (at' ss i).size ≤ maxLen) :
    Calls Try.prog 21 #[v] w fun e w' => ∃ r : Int, e = .returned (.int .i64 r) ∧ IsIdx ss r ∧ w = w' := by
  obtain ⟨a, c, rfl, h⟩ := hv
  by_cases h0 : 0 < ss.length
  · obtain ⟨b, o, rfl, hc⟩ := h h0
    exact index_row b o _ c ss w rfl hl hsz hc
  · have e0 : ss.length = 0 := by omega
    rw [e0]
    refine (index_nil a c w).mono ?_
    rintro e w' ⟨rfl, rfl⟩
    exact ⟨_, rfl, .inl ⟨rfl, fun j hj => by omega⟩, rfl⟩

theorem zzindex_any (v : Value) (ss : List ByteArray) (w : World) (hv : Strs w v ss) (hl : ss.length ≤ maxLen) (hsz : ∀ i, (at' ss i).size ≤ maxLen) :
    Calls Try.prog 16 #[v] w fun e w' => ∃ r : Int, e = .returned (.int .i64 r) ∧ IsIdx ss r ∧ w = w' := by
  go_enter Try.func16, Try.ntmps16
  go_wp2_with (go_at_call 21; refine (index_any _ _ _ hv hl hsz).mono ?_; rintro e w' ⟨r, rfl, hr, rfl⟩)
  go_ret
  exact ⟨_, rfl, hr, rfl⟩

/-! ### the bounds on length -/
def IsBool (e : Ending) : Prop := ∃ r : Bool, e = .returned (.bool r)

theorem bytes18_nil (a : Option Addr) (c : Nat) (w : World) :
    Calls Try.prog 18 #[.slice a 0 c] w fun e w' => IsBool e ∧ w = w' := by
  go_enter Try.func18, Try.ntmps18
  go_wp2
  go_loop [3, 4] (fun n i => i = .int .i64 0 ∧ n = .int .i64 0) (fun _ _ => 0)
  case atStart => exact ⟨rfl, rfl⟩
  case round =>
    obtain ⟨rfl, rfl⟩ := hrel
    go_wp2
    go_ret
    exact ⟨⟨_, rfl⟩, rfl⟩

set_option maxHeartbeats 400000 in
theorem bytes18_row (b o n c : Nat) (ss : List ByteArray) (w : World) (hl : n ≤ maxLen) (hsz : ∀ i, (at' ss i).size ≤ maxLen)
    (hc : ∀ i, i < n → w.cell? ⟨b, o + i, none⟩ = some (.string (at' ss i))) :
    Calls Try.prog 18 #[.slice (some ⟨b, o, none⟩) n c] w fun e w' => IsBool e ∧ w = w' := by
  unfold maxLen at hl
  by_cases h1 : n ≤ 1048576
  · go_enter Try.func18, Try.ntmps18
    go_wp2
    go_loop [3, 4] (fun t i => ∃ k m : Nat, k ≤ n ∧ i = .int .i64 k ∧ t = .int .i64 m ∧ m ≤ 1048576) (fun _ i => n - (intOf i).toNat)
    case atStart => exact ⟨0, n, Nat.zero_le _, rfl, by go_num, by omega⟩
    case round =>
      obtain ⟨k, m, hk, rfl, rfl, hm⟩ := hrel
      by_cases hlt : k < n
      · have hcell := hc k hlt
        have hsk := hsz k
        unfold maxLen at hsk
        clear hc
        by_cases h2 : (at' ss k).size ≤ 1048576
        · by_cases h3 : m + (at' ss k).size ≤ 1048576
          · go_wp2
            go_round
            case rel => exact ⟨k + 1, m + (at' ss k).size, by omega, by go_num, by go_num, by omega⟩
            case measure => simp [intOf]; omega
          · go_wp2
            go_ret
            exact ⟨⟨_, rfl⟩, rfl⟩
        · go_wp2
          go_ret
          exact ⟨⟨_, rfl⟩, rfl⟩
      · go_wp2
        go_ret
        exact ⟨⟨_, rfl⟩, rfl⟩
  · go_enter Try.func18, Try.ntmps18
    go_wp2
    go_ret
    exact ⟨⟨_, rfl⟩, rfl⟩

theorem bytes18_any (v : Value) (ss : List ByteArray) (w : World) (hv : Strs w v ss) (hl : ss.length ≤ maxLen) (hsz : ∀ i, (at' ss i).size ≤ maxLen) :
    Calls Try.prog 18 #[v] w fun e w' => IsBool e ∧ w = w' := by
  obtain ⟨a, c, rfl, h⟩ := hv
  by_cases h0 : 0 < ss.length
  · obtain ⟨b, o, rfl, hc⟩ := h h0
    exact bytes18_row b o _ c ss w hl hsz hc
  · have e0 : ss.length = 0 := by omega
    rw [e0]
    exact bytes18_nil a c w

end Go.Proofs.Qxb6605371a
