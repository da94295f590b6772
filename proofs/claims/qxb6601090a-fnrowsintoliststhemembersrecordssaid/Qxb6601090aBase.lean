import Derived.Test.Qxb6601090aRows
import Derived.WalkKit
import Derived.ProofKit
import Derived.WalkSpells
import Derived.Lib.SliceRun
namespace Go.Proofs.Qxb6601090a
open Go.ChangeShapes Go.WideShapes Go.ChangeAt Go.RowKit

theorem hidden {p : Prop} (h : p) : Hid p := h

/-- THE i-th STRING. -/
def at' (ss : List ByteArray) (i : Nat) : ByteArray := ss.getD i ByteArray.empty

/-- WHAT A SLICE OF STRINGS HOLDS: 'v' reads as the strings 'ss' in the world 'w'. -/
def Strs (w : World) (v : Value) (ss : List ByteArray) : Prop :=
  ∃ a c, v = .slice a ss.length c ∧ (0 < ss.length → ∃ b o, a = some ⟨b, o, none⟩ ∧ ∀ i, i < ss.length → w.cell? ⟨b, o + i, none⟩ = some (.string (at' ss i)))

/-- a Boolean; where it is true the strings are short -/
def IsBool (ss : List ByteArray) (n : Nat) (e : Ending) : Prop := ∃ r : Bool, e = .returned (.bool r) ∧ (r = true → ∀ i, i < n → (at' ss i).size ≤ 1048576)

/-! ### the bound on length -/
set_option maxHeartbeats 400000 in
theorem bytes7_nil (a : Option Addr) (c : Nat) (ss : List ByteArray) (s : ByteArray) (p r : Int) (w : World) (hs : s.size ≤ maxLen) :
    Calls Try.prog 7 #[.slice a 0 c, .string s, .int .i64 p, .int .i64 r] w fun e w' => IsBool ss 0 e ∧ w = w' := by
  unfold maxLen at hs
  by_cases hk : s.size ≤ 1048576
  · go_enter Try.func7, Try.ntmps7
    go_wp2
    go_loop [9, 10] (fun n i => i = .int .i64 0 ∧ n = .int .i64 0) (fun _ _ => 0)
    case atStart => exact ⟨rfl, rfl⟩
    case round =>
      obtain ⟨rfl, rfl⟩ := hrel
      go_wp2
      go_ret
      exact ⟨⟨_, rfl, fun _ i hi => by omega⟩, rfl⟩
  · go_enter Try.func7, Try.ntmps7
    go_wp2
    go_loop [9, 10] (fun n i => i = .int .i64 0 ∧ n = .int .i64 0) (fun _ _ => 0)
    case atStart => exact ⟨rfl, rfl⟩
    case round =>
      obtain ⟨rfl, rfl⟩ := hrel
      go_wp2
      go_ret
      exact ⟨⟨_, rfl, fun _ i hi => by omega⟩, rfl⟩

set_option maxHeartbeats 800000 in
theorem bytes7_row (b o n c : Nat) (ss : List ByteArray) (s : ByteArray) (p r : Int) (w : World) (hl : n ≤ maxLen) (hsz : ∀ i, (at' ss i).size ≤ maxLen) (hs : s.size ≤ maxLen)
    (hc : ∀ i, i < n → w.cell? ⟨b, o + i, none⟩ = some (.string (at' ss i))) :
    Calls Try.prog 7 #[.slice (some ⟨b, o, none⟩) n c, .string s, .int .i64 p, .int .i64 r] w fun e w' => IsBool ss n e ∧ w = w' := by
  unfold maxLen at hl hs
  by_cases h1 : n ≤ 1048576
  · go_enter Try.func7, Try.ntmps7
    go_wp2
    go_loop [9, 10] (fun t i => ∃ k m : Nat, k ≤ n ∧ i = .int .i64 k ∧ t = .int .i64 m ∧ m ≤ 1048576 ∧ Hid (∀ j, j < k → (at' ss j).size ≤ 1048576)) (fun _ i => n - (intOf i).toNat)
    case atStart => exact ⟨0, n, Nat.zero_le _, rfl, by go_num, by omega, fun j hj => by omega⟩
    case round =>
      obtain ⟨k, m, hk, rfl, rfl, hm, HJ⟩ := hrel
      by_cases hlt : k < n
      · have hcell := hc k hlt
        have hsk := hsz k
        unfold maxLen at hsk
        clear hc
        by_cases h2 : (at' ss k).size ≤ 1048576
        · by_cases h3 : m + (at' ss k).size ≤ 1048576
          · go_wp2
            go_round
            case rel => exact ⟨k + 1, m + (at' ss k).size, by omega, by go_num, by go_num, by omega, fun j hj => by rcases Nat.lt_succ_iff_lt_or_eq.1 hj with h | h; exact HJ.out j h; rw [h]; exact h2⟩
            case measure => simp [intOf]; omega
          · go_wp2
            go_ret
            exact ⟨⟨_, rfl, fun h => by cases h⟩, rfl⟩
        · go_wp2
          go_ret
          exact ⟨⟨_, rfl, fun h => by cases h⟩, rfl⟩
      · by_cases hk1 : s.size ≤ 1048576
        · by_cases hk2 : m + s.size ≤ 1048576
          · go_wp2
            go_ret
            exact ⟨⟨_, rfl, fun _ j hj => HJ.out j (by omega)⟩, rfl⟩
          · go_wp2
            go_ret
            exact ⟨⟨_, rfl, fun h => by cases h⟩, rfl⟩
        · go_wp2
          go_ret
          exact ⟨⟨_, rfl, fun h => by cases h⟩, rfl⟩
  · go_enter Try.func7, Try.ntmps7
    go_wp2
    go_ret
    exact ⟨⟨_, rfl, fun h => by cases h⟩, rfl⟩

theorem bytes7_any (v : Value) (ss : List ByteArray) (s : ByteArray) (p r : Int) (w : World) (hv : Strs w v ss) (hl : ss.length ≤ maxLen) (hsz : ∀ i, (at' ss i).size ≤ maxLen) (hs : s.size ≤ maxLen) :
    Calls Try.prog 7 #[v, .string s, .int .i64 p, .int .i64 r] w fun e w' => IsBool ss ss.length e ∧ w = w' := by
  obtain ⟨a, c, rfl, h⟩ := hv
  by_cases h0 : 0 < ss.length
  · obtain ⟨b, o, rfl, hc⟩ := h h0
    exact bytes7_row b o _ c ss s p r w hl hsz hs hc
  · have e0 : ss.length = 0 := by omega
    rw [e0]
    exact bytes7_nil a c ss s p r w hs

/-! ### zzCopyStrings -/
theorem Try.info9 : (Try.prog.info? 9).map (fun i => (i.zero, i.size, i.bytes)) = some (some (.string ByteArray.empty), 1, 16) := by kernel_rfl

theorem q23 (w : World) (a : Option Addr) (n c n' c' : Nat) : (binOp .eql 23 (.slice a n c) (.slice none n' c')).run Try.prog w = .ok (.bool a.isNone) w :=
  Lib.run_eql_slice_nil w _ _ a n c n' c' Try.underlying23

theorem copy_none (w : World) :
    Calls Try.prog 8 #[.slice none 0 0] w fun e w' => e = .returned (.slice none 0 0) ∧ w = w' := by
  have hq := q23
  go_enter Try.func8, Try.ntmps8
  go_wp2
  go_ret
  exact ⟨rfl, rfl⟩

/-- what has been copied so far -/
def Copied (ss : List ByteArray) (n k : Nat) (xs : List Value) : Prop := xs.length = n ∧ ∀ j, j < k → xs[j]? = some (.string (at' ss j))

theorem Copied.step {ss : List ByteArray} {n k : Nat} {xs : List Value} (h : Copied ss n k xs) (hk : k < n) : Copied ss n (k + 1) (xs.set k (.string (at' ss k))) := by
  refine ⟨by simpa using h.1, fun j hj => ?_⟩
  rw [List.getElem?_set]
  split
  · rename_i e; subst e; rw [if_pos (by rw [h.1]; omega)]
  · exact h.2 j (by omega)

set_option maxHeartbeats 400000 in
theorem copy_row (a : Addr) (b o n c : Nat) (ss : List ByteArray) (w : World) (hl : n ≤ 65536)
    (ha : 0 < n → a = ⟨b, o, none⟩) (hb : 0 < n → b < w.heap.size)
    (hc : ∀ i, i < n → w.cell? ⟨b, o + i, none⟩ = some (.string (at' ss i))) :
    Calls Try.prog 8 #[.slice (some a) n c] w fun e w' => e = .returned (.slice (some ⟨w.heap.size, 0, none⟩) n n) ∧ (∀ i, i < n → w'.cell? ⟨w.heap.size, 0 + i, none⟩ = some (.string (at' ss i))) ∧ w.heap.size < w'.heap.size ∧ Below w.heap.size w w' := by
  obtain ⟨i0, hi, hz0, hz1, hz2⟩ := info_parts Try.info9
  have hq := q23
  go_enter Try.func8, Try.ntmps8
  go_wp2_with (first
    | (at_make; refine wpList_make_full _ rfl _ _ 23 rfl w.heap.size 9 i0 (.string ByteArray.empty) 1 Try.underlying23 hi hz0 hz1 _ _ _ _ n rfl rfl rfl rfl (by rw [hz2]; omega) (by unfold maxLen; omega) (Nat.le_refl _) ?_; intro w1 hown hgrow))
  clear hi hz0 hz1 hz2 hq
  have hbel : Below w.heap.size w w1 := (Below.refl _ _).grown hgrow (Nat.le_refl _) (fun k h => by cases h)
  have hlt1 : w.heap.size < w1.heap.size := (hown.lt _ rfl).2
  have hcp : Copied ss n 0 (madeCells (Value.string ByteArray.empty).cells (n * 1)).toList := ⟨by simpa using hown.1, fun j hj => by omega⟩
  clear hgrow
  go_loopw [4] (fun i wr => ∃ (k : Nat) (xs : List Value), k ≤ n ∧ i = .int .i64 k ∧ wr.ownsRow w.heap.size 9 1 (.slice (some ⟨w.heap.size, 0, none⟩) n n) n xs ∧ Copied ss n k xs ∧ Below w.heap.size w wr) (fun i _ => n - (intOf i).toNat)
  case atStart => exact ⟨0, _, Nat.zero_le _, rfl, hown, hcp, hbel⟩
  case round =>
    clear hown hcp hbel hlt1
    obtain ⟨k, xs, hk, rfl, hown, hcp, hbel⟩ := hrel
    by_cases hlt : k < n
    · obtain rfl := ha (by omega)
      have hcell : wr.cell? ⟨b, o + k, none⟩ = some (.string (at' ss k)) := (hbel.cell (hb (by omega))).trans (hc k hlt)
      have hcell2 : (wr.cell? ⟨w.heap.size, k, none⟩).isSome = true := by rw [hown.cellAt k (by omega)]; simp [hcp.1, hlt]
      have hfz := hown.frozenAt k
      obtain ⟨old, hold⟩ := Option.isSome_iff_exists.1 hcell2
      have HS := hown.stored k (.string (at' ss k))
      have hcp' := hcp.step hlt
      clear hc hcell2 ha hb hown hcp
      go_wp2
      go_roundw
      case rel => exact ⟨k + 1, _, by omega, by go_num, HS.1, hcp', hbel.setCell (Nat.le_refl _) _⟩
      case measure => simp [intOf]; omega
    · go_wp2
      go_ret
      refine ⟨rfl, fun i hi => ?_, (hown.lt _ rfl).2, hbel⟩
      rw [Nat.zero_add, hown.cellAt i (by omega)]
      exact hcp.2 i (by omega)

theorem Strs.below {w w' : World} {v : Value} {ss : List ByteArray} (h : Strs w v ss) (hb : Below w.heap.size w w') : Strs w' v ss := by
  obtain ⟨a, c, rfl, h⟩ := h
  refine ⟨a, c, rfl, fun h0 => ?_⟩
  obtain ⟨b, o, rfl, hc⟩ := h h0
  exact ⟨b, o, rfl, fun i hi => (hb.cell (World.block_lt_of_cell? _ _ (hc i hi))).trans (hc i hi)⟩

theorem copy_n (a : Option Addr) (n c : Nat) (ss : List ByteArray) (w : World) (hv : Strs w (.slice a n c) ss) (hn : n = ss.length) (h0 : a = none → c = 0) (hl : n ≤ 65536) :
    Calls Try.prog 8 #[.slice a n c] w fun e w' => ∃ a', e = .returned (.slice a' n n) ∧ Strs w' (.slice a' n n) ss ∧ (a' = none ∨ ∃ b, a' = some ⟨b, 0, none⟩) ∧ Below w.heap.size w w' := by
  subst hn
  obtain ⟨a1, c1, h1, h⟩ := hv
  cases h1
  cases a with
  | none =>
    have hn : ¬ 0 < ss.length := fun hp => by obtain ⟨_, _, h1, _⟩ := h hp; cases h1
    have e0 : ss.length = 0 := by omega
    obtain rfl := h0 rfl
    rw [e0]
    refine (copy_none w).mono ?_
    rintro e w' ⟨rfl, rfl⟩
    exact ⟨_, rfl, ⟨none, 0, by rw [e0], fun hp => absurd hp hn⟩, .inl rfl, Below.refl _ _⟩
  | some a =>
    by_cases hp : 0 < ss.length
    · obtain ⟨b, o, h1, hc⟩ := h hp
      refine (copy_row a b o ss.length c ss w hl (fun _ => by simpa using h1) (fun _ => World.block_lt_of_cell? _ _ (hc 0 hp)) hc).mono ?_
      rintro e w' ⟨rfl, hc', _, hb⟩
      exact ⟨_, rfl, ⟨_, _, rfl, fun _ => ⟨_, _, rfl, hc'⟩⟩, .inr ⟨_, rfl⟩, hb⟩
    · have e0 : ss.length = 0 := by omega
      refine (copy_row a 0 0 ss.length c ss w hl (fun h => absurd h hp) (fun h => absurd h hp) (fun i hi => by omega)).mono ?_
      rintro e w' ⟨rfl, hc', _, hb⟩
      exact ⟨_, rfl, ⟨_, _, rfl, fun _ => ⟨_, _, rfl, hc'⟩⟩, .inr ⟨_, rfl⟩, hb⟩

end Go.Proofs.Qxb6601090a
