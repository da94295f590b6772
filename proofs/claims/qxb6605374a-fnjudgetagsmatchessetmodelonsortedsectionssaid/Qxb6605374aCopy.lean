import Derived.Test.Qxb6605374aParts
namespace Go.Proofs.Qxb6605374a
open Go.ChangeShapes Go.WideShapes Go.ChangeAt Go.RowKit

theorem others_any (a1 a2 a3 : Option Addr) (n c1 c2 c3 : Nat) (ts : List Tg) (w : World) (hn : n = ts.length) (hl : n ≤ 65536) (h1 : Tags w (.slice a1 n c1) ts) (h2 : NamesOf w (.slice a2 n c2) ts) (h3 : GensOf w (.slice a3 n c3) ts) :
    Calls Try.prog 14 #[.slice a1 n c1, .slice a2 n c2, .slice a3 n c3] w fun e w' => e = .returned (.bool true) ∧ Below w.heap.size w w' := by
  subst hn
  obtain ⟨_, _, e1, h1⟩ := h1
  obtain ⟨_, _, e2, h2⟩ := h2
  obtain ⟨_, _, e3, h3⟩ := h3
  cases e1; cases e2; cases e3
  by_cases h0 : 0 < ts.length
  · obtain ⟨b1, o1, rfl, hc1⟩ := h1 h0
    obtain ⟨b2, o2, rfl, hc2⟩ := h2 h0
    obtain ⟨b3, o3, rfl, hc3⟩ := h3 h0
    exact others_row b1 o1 _ c1 b2 o2 c2 b3 o3 c3 ts w hl hc1 hc2 hc3
  · rw [show ts.length = 0 by omega]
    refine (others_nil a1 a2 a3 c1 c2 c3 w).mono ?_
    rintro e w' ⟨rfl, rfl⟩
    exact ⟨rfl, Below.refl _ _⟩

/-! ### copyBytes -/
theorem Try.info5 : (Try.prog.info? 5).map (fun i => (i.zero, i.size, i.bytes)) = some (some (.int .u8 0), 1, 1) := by kernel_rfl

theorem q23 (w : World) (a : Option Addr) (n c n' c' : Nat) : (binOp .eql 23 (.slice a n c) (.slice none n' c')).run Try.prog w = .ok (.bool a.isNone) w :=
  Lib.run_eql_slice_nil w _ _ a n c n' c' Try.underlying23

theorem copy_none (w : World) :
    Calls Try.prog 10 #[.slice none 0 0] w fun e w' => e = .returned (.slice none 0 0) ∧ w = w' := by
  have hq := q23
  go_enter Try.func10, Try.ntmps10
  go_wp2
  go_ret
  exact ⟨rfl, rfl⟩

def CopiedB (r : ByteArray) (n k : Nat) (xs : List Value) : Prop := xs.length = n ∧ ∀ j, j < k → xs[j]? = some (.int .u8 (byteN r j))

theorem CopiedB.step {r : ByteArray} {n k : Nat} {xs : List Value} (h : CopiedB r n k xs) (hk : k < n) : CopiedB r n (k + 1) (xs.set k (.int .u8 (byteN r k))) := by
  refine ⟨by simpa using h.1, fun j hj => ?_⟩
  rw [List.getElem?_set]
  split
  · rename_i e; subst e; rw [if_pos (by rw [h.1]; omega)]
  · exact h.2 j (by omega)

set_option maxHeartbeats 400000 in
theorem copy_row (a : Addr) (b o n c : Nat) (r : ByteArray) (w : World) (hl : n ≤ 65536)
    (ha : 0 < n → a = ⟨b, o, none⟩) (hb : 0 < n → b < w.heap.size)
    (hc : ∀ i, i < n → w.cell? ⟨b, o + i, none⟩ = some (.int .u8 (byteN r i))) :
    Calls Try.prog 10 #[.slice (some a) n c] w fun e w' => e = .returned (.slice (some ⟨w.heap.size, 0, none⟩) n n) ∧ (∀ i, i < n → w'.cell? ⟨w.heap.size, 0 + i, none⟩ = some (.int .u8 (byteN r i))) ∧ Below w.heap.size w w' := by
  obtain ⟨i0, hi, hz0, hz1, hz2⟩ := info_parts Try.info5
  have hq := q23
  go_enter Try.func10, Try.ntmps10
  go_wp2_with (first
    | (at_make; refine wpList_make_full _ rfl _ _ 23 rfl w.heap.size 5 i0 (.int .u8 0) 1 Try.underlying23 hi hz0 hz1 _ _ _ _ n rfl rfl rfl rfl (by rw [hz2]; omega) (by unfold maxLen; omega) (Nat.le_refl _) ?_; intro w1 hown hgrow))
  clear hi hz0 hz1 hz2 hq
  have hbel : Below w.heap.size w w1 := (Below.refl _ _).grown hgrow (Nat.le_refl _) (fun k h => by cases h)
  have hcp : CopiedB r n 0 (madeCells (Value.int .u8 0).cells (n * 1)).toList := ⟨by simpa using hown.1, fun j hj => by omega⟩
  clear hgrow
  go_loopw [4] (fun i wr => ∃ (k : Nat) (xs : List Value), k ≤ n ∧ i = .int .i64 k ∧ wr.ownsRow w.heap.size 5 1 (.slice (some ⟨w.heap.size, 0, none⟩) n n) n xs ∧ CopiedB r n k xs ∧ Below w.heap.size w wr) (fun i _ => n - (intOf i).toNat)
  case atStart => exact ⟨0, _, Nat.zero_le _, rfl, hown, hcp, hbel⟩
  case round =>
    clear hown hcp hbel
    obtain ⟨k, xs, hk, rfl, hown, hcp, hbel⟩ := hrel
    by_cases hlt : k < n
    · obtain rfl := ha (by omega)
      have hcell : wr.cell? ⟨b, o + k, none⟩ = some (.int .u8 (byteN r k)) := (hbel.cell (hb (by omega))).trans (hc k hlt)
      have hcell2 : (wr.cell? ⟨w.heap.size, k, none⟩).isSome = true := by rw [hown.cellAt k (by omega)]; simp [hcp.1, hlt]
      have hfz := hown.frozenAt k
      obtain ⟨old, hold⟩ := Option.isSome_iff_exists.1 hcell2
      have HS := hown.stored k (.int .u8 (byteN r k))
      have hcp' := hcp.step hlt
      clear hc hcell2 ha hb hown hcp
      go_wp2
      go_roundw
      case rel => exact ⟨k + 1, _, by omega, by go_num, HS.1, hcp', hbel.setCell (Nat.le_refl _) _⟩
      case measure => simp [intOf]; omega
    · go_wp2
      go_ret
      refine ⟨rfl, fun i hi => ?_, hbel⟩
      rw [Nat.zero_add, hown.cellAt i (by omega)]
      exact hcp.2 i (by omega)

theorem copy_any (a : Option Addr) (n c : Nat) (r : ByteArray) (w : World) (hn : n = r.size) (hv : BRow w (.slice a n c) r) (h0 : a = none → c = 0) (hl : n ≤ 65536) :
    Calls Try.prog 10 #[.slice a n c] w fun e w' => ∃ a', e = .returned (.slice a' n n) ∧ BRow w' (.slice a' n n) r ∧ Below w.heap.size w w' := by
  subst hn
  obtain ⟨_, _, e1, h1, h2, h⟩ := hv
  cases e1
  cases a with
  | none =>
    have hn : ¬ 0 < r.size := fun hp => by obtain ⟨_, _, h1, _⟩ := h hp; cases h1
    have e0 : r.size = 0 := by omega
    obtain rfl := h0 rfl
    rw [e0]
    refine (copy_none w).mono ?_
    rintro e w' ⟨rfl, rfl⟩
    exact ⟨_, rfl, ⟨none, 0, by rw [e0], by omega, Nat.zero_le _, fun hp => absurd hp hn⟩, Below.refl _ _⟩
  | some a =>
    by_cases hp : 0 < r.size
    · obtain ⟨b, o, h3, hc⟩ := h hp
      refine (copy_row a b o r.size c r w hl (fun _ => by simpa using h3) (fun _ => World.block_lt_of_cell? _ _ (hc 0 hp)) hc).mono ?_
      rintro e w' ⟨rfl, hc', hb⟩
      exact ⟨_, rfl, ⟨_, _, rfl, Nat.le_refl _, by unfold maxLen; omega, fun _ => ⟨_, _, rfl, hc'⟩⟩, hb⟩
    · refine (copy_row a 0 0 r.size c r w hl (fun h => absurd h hp) (fun h => absurd h hp) (fun i hi => by omega)).mono ?_
      rintro e w' ⟨rfl, hc', hb⟩
      exact ⟨_, rfl, ⟨_, _, rfl, Nat.le_refl _, by unfold maxLen; omega, fun _ => ⟨_, _, rfl, hc'⟩⟩, hb⟩

/-! ### the bound on length -/
def IsBool (e : Ending) : Prop := ∃ r : Bool, e = .returned (.bool r)

set_option maxHeartbeats 400000 in
theorem bytes15 (a : Option Addr) (n c : Nat) (s : ByteArray) (w : World) (hn : n ≤ maxLen) (hs : s.size ≤ maxLen) :
    Calls Try.prog 15 #[.slice a n c, .string s] w fun e w' => IsBool e ∧ w = w' := by
  unfold maxLen at hn hs
  by_cases h1 : n ≤ 1048576
  · by_cases h2 : s.size ≤ 1048576
    · by_cases h3 : n + s.size ≤ 1048576
      · go_enter Try.func15, Try.ntmps15
        go_wp2
        go_ret
        exact ⟨⟨_, rfl⟩, rfl⟩
      · go_enter Try.func15, Try.ntmps15
        go_wp2
        go_ret
        exact ⟨⟨_, rfl⟩, rfl⟩
    · go_enter Try.func15, Try.ntmps15
      go_wp2
      go_ret
      exact ⟨⟨_, rfl⟩, rfl⟩
  · go_enter Try.func15, Try.ntmps15
    go_wp2
    go_ret
    exact ⟨⟨_, rfl⟩, rfl⟩

set_option maxHeartbeats 400000 in
theorem bytes7 (a : Option Addr) (n c : Nat) (s : ByteArray) (w : World) (hn : n ≤ maxLen) (hs : s.size ≤ maxLen) :
    Calls Try.prog 7 #[.slice a n c, .string s] w fun e w' => IsBool e ∧ w = w' := by
  unfold maxLen at hn hs
  by_cases h1 : n ≤ 1048576
  · by_cases h2 : s.size ≤ 1048576
    · by_cases h3 : n + s.size ≤ 1048576
      · go_enter Try.func7, Try.ntmps7
        go_wp2
        go_ret
        exact ⟨⟨_, rfl⟩, rfl⟩
      · go_enter Try.func7, Try.ntmps7
        go_wp2
        go_ret
        exact ⟨⟨_, rfl⟩, rfl⟩
    · go_enter Try.func7, Try.ntmps7
      go_wp2
      go_ret
      exact ⟨⟨_, rfl⟩, rfl⟩
  · go_enter Try.func7, Try.ntmps7
    go_wp2
    go_ret
    exact ⟨⟨_, rfl⟩, rfl⟩
end Go.Proofs.Qxb6605374a
