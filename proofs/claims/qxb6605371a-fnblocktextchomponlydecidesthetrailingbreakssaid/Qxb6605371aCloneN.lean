import Derived.Test.Qxb6605371aClone
namespace Go.Proofs.Qxb6605371a
open Go.ChangeShapes Go.WideShapes Go.ChangeAt Go.RowKit

set_option maxHeartbeats 400000 in
theorem clone_row_n (a : Addr) (b o n c : Nat) (ss : List ByteArray) (w : World) (hl : n ≤ 65536)
    (ha : 0 < n → a = ⟨b, o, none⟩) (hb : 0 < n → b < w.heap.size)
    (hc : ∀ i, i < n → w.cell? ⟨b, o + i, none⟩ = some (.string (at' ss i))) :
    Calls Try.prog 9 #[.slice (some a) n c] w fun e w' => e = .returned (.slice (some ⟨w.heap.size, 0, none⟩) n n) ∧ (∀ i, i < n → w'.cell? ⟨w.heap.size, 0 + i, none⟩ = some (.string (at' ss i))) ∧ w.heap.size < w'.heap.size ∧ Below w.heap.size w w' := by
  obtain ⟨i0, hi, hz0, hz1, hz2⟩ := info_parts Try.info9
  have hq := q22
  go_enter Try.func9, Try.ntmps9
  go_wp2_with (first
    | (at_make; refine wpList_make_full _ rfl _ _ 22 rfl w.heap.size 9 i0 (.string ByteArray.empty) 1 Try.underlying22 hi hz0 hz1 _ _ _ _ n rfl rfl rfl rfl (by rw [hz2]; omega) (by unfold maxLen; omega) (Nat.le_refl _) ?_; intro w1 hown hgrow))
  clear hi hz0 hz1 hz2 hq
  have hbel : Below w.heap.size w w1 := (Below.refl _ _).grown hgrow (Nat.le_refl _) (fun k h => by cases h)
  have hlt1 : w.heap.size < w1.heap.size := (hown.lt _ rfl).2
  have hcp : Copied ss n 0 (madeCells (Value.string ByteArray.empty).cells (n * 1)).toList := ⟨by simpa using hown.1, fun j hj => by omega⟩
  clear hgrow
  go_loopw [4] (fun i wr => ∃ (k : Nat) (xs : List Value), k ≤ n ∧ i = .int .i64 k ∧ wr.ownsRow w.heap.size 9 1 (.slice (some ⟨w.heap.size, 0, none⟩) n n) n xs ∧ Copied ss n k xs ∧ Below w.heap.size w wr) (fun i _ => n - (intOf i).toNat)
  case atStart => exact ⟨0, _, Nat.zero_le _, rfl, hown, hcp, hbel⟩
  case round =>
    clear hown hcp hbel hlt1
    obtain ⟨k, xs, hk, rfl, hown, hcp, hbel⟩ := hrel
    by_cases hlt : k < n
    · obtain rfl := ha (by omega)
      have hcell : wr.cell? ⟨b, o + k, none⟩ = some (.string (at' ss k)) := (hbel.cell (hb (by omega))).trans (hc k hlt)
      have hcell2 : (wr.cell? ⟨w.heap.size, k, none⟩).isSome = true := by rw [hown.cellAt k (by omega)]; simp [hcp.1, hlt]
      have hfz := hown.frozenAt k
      obtain ⟨old, hold⟩ := Option.isSome_iff_exists.1 hcell2
      have HS := hown.stored k (.string (at' ss k))
      have hcp' := hcp.step hlt
      clear hc hcell2 ha hb hown hcp
      go_wp2
      go_roundw
      case rel => exact ⟨k + 1, _, by omega, by go_num, HS.1, hcp', hbel.setCell (Nat.le_refl _) _⟩
      case measure => simp [intOf]; omega
    · go_wp2
      go_ret
      refine ⟨rfl, fun i hi => ?_, (hown.lt _ rfl).2, hbel⟩
      rw [Nat.zero_add, hown.cellAt i (by omega)]
      exact hcp.2 i (by omega)

theorem clone_n (a : Option Addr) (n c : Nat) (ss : List ByteArray) (w : World) (hv : Strs w (.slice a n c) ss) (hn : n = ss.length) (h0 : a = none → c = 0) (hl : n ≤ 65536) :
    Calls Try.prog 9 #[.slice a n c] w fun e w' => ∃ a', e = .returned (.slice a' n n) ∧ Strs w' (.slice a' n n) ss ∧ (a' = none ∨ ∃ b, a' = some ⟨b, 0, none⟩) ∧ Below w.heap.size w w' := by
  subst hn
  obtain ⟨a1, c1, h1, h⟩ := hv
  cases h1
  cases a with
  | none =>
    have hn : ¬ 0 < ss.length := fun hp => by obtain ⟨_, _, h1, _⟩ := h hp; cases h1
    have e0 : ss.length = 0 := by omega
    obtain rfl := h0 rfl
    rw [e0]
    refine (clone_none w).mono ?_
    rintro e w' ⟨rfl, rfl⟩
    exact ⟨_, rfl, ⟨none, 0, by rw [e0], fun hp => absurd hp hn⟩, .inl rfl, Below.refl _ _⟩
  | some a =>
    by_cases hp : 0 < ss.length
    · obtain ⟨b, o, h1, hc⟩ := h hp
      refine (clone_row_n a b o ss.length c ss w hl (fun _ => by simpa using h1) (fun _ => World.block_lt_of_cell? _ _ (hc 0 hp)) hc).mono ?_
      rintro e w' ⟨rfl, hc', _, hb⟩
      exact ⟨_, rfl, ⟨_, _, rfl, fun _ => ⟨_, _, rfl, hc'⟩⟩, .inr ⟨_, rfl⟩, hb⟩
    · have e0 : ss.length = 0 := by omega
      refine (clone_row_n a 0 0 ss.length c ss w hl (fun h => absurd h hp) (fun h => absurd h hp) (fun i hi => by omega)).mono ?_
      rintro e w' ⟨rfl, hc', _, hb⟩
      exact ⟨_, rfl, ⟨_, _, rfl, fun _ => ⟨_, _, rfl, hc'⟩⟩, .inr ⟨_, rfl⟩, hb⟩


end Go.Proofs.Qxb6605371a
