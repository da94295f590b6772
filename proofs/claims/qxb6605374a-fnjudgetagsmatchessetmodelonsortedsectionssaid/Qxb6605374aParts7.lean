import Derived.Test.Qxb6605374aLaw7
import Derived.Test.Qxb6605374aSound
namespace Go.Proofs.Qxb6605374a
open Go.ChangeShapes Go.WideShapes Go.ChangeAt Go.RowKit

/-! ### namedIn -/
theorem namB_true {ts : List Tg} {nm : ByteArray} {k : Nat} (hk : k < ts.length) (h1 : ((tg ts k).1.toList == nm.toList) = true) : namB ts nm = true := by
  rw [namB, List.any_eq_true]
  exact ⟨_, tg_mem hk, h1⟩
theorem namB_false {ts : List Tg} {nm : ByteArray} (h : ∀ k, k < ts.length → ((tg ts k).1.toList == nm.toList) = false) : namB ts nm = false := by
  rw [namB, List.any_eq_false]
  intro t ht
  obtain ⟨i, hi, rfl⟩ := mem_tg ht
  rw [h i hi]
  decide

set_option maxHeartbeats 400000 in
theorem named_row (b1 o1 n c1 : Nat) (ts : List Tg) (nm : ByteArray) (w : World) (HN : Hid (n = ts.length)) (hl : n ≤ 65536)
    (H1 : Hid (∀ i, i < n → w.cell? ⟨b1, o1 + i, none⟩ = some (.string (tg ts i).1))) :
    Calls Try.prog 12 #[.slice (some ⟨b1, o1, none⟩) n c1, .string nm] w fun e w' => e = .returned (.bool (namB ts nm)) ∧ w = w' := by
  obtain ⟨R, HR⟩ : ∃ R, Hid (namB ts nm = R) := ⟨_, rfl⟩
  rw [HR.out]
  go_enter Try.func12, Try.ntmps12
  go_wp2_with fail
  go_loop [5] (fun i => ∃ k : Nat, k ≤ n ∧ i = .int .i64 k ∧ Hid (∀ j, j < k → ((tg ts j).1.toList == nm.toList) = false)) (fun i => n - (intOf i).toNat)
  case atStart => exact ⟨0, by omega, rfl, fun j hj => by omega⟩
  case round =>
    obtain ⟨k, hk, rfl, HK⟩ := hrel
    by_cases hlt : k < n
    · have hc1 := H1.out k hlt
      cases h1 : ((tg ts k).1.toList == nm.toList)
      · have HK2 : Hid (∀ j, j < k + 1 → ((tg ts j).1.toList == nm.toList) = false) := fun j hj => by
          rcases Nat.lt_succ_iff_lt_or_eq.1 hj with h | h
          · exact HK.out j h
          · rw [h, h1]
        go_wp2_with fail
        go_round
        case rel => exact ⟨k + 1, by omega, by go_num, HK2⟩
        case measure => simp [intOf]; omega
      · have HT : Hid (R = true) := by show _ = _; rw [← HR.out]; exact namB_true (by rw [← HN.out]; exact hlt) h1
        go_wp2_with fail
        go_ret
        exact ⟨by rw [HT.out]; rfl, rfl⟩
    · have HF : Hid (R = false) := by show _ = _; rw [← HR.out]; exact namB_false (fun j hj => HK.out j (by rw [← HN.out] at hj; omega))
      go_wp2_with fail
      go_ret
      exact ⟨by rw [HF.out]; rfl, rfl⟩

theorem named_nil (a1 : Option Addr) (c1 : Nat) (nm : ByteArray) (w : World) :
    Calls Try.prog 12 #[.slice a1 0 c1, .string nm] w fun e w' => e = .returned (.bool false) ∧ w = w' := by
  go_enter Try.func12, Try.ntmps12
  go_wp2_with fail
  go_loop [5] (fun i => i = .int .i64 0) (fun _ => 0)
  case atStart => rfl
  case round =>
    subst hrel
    go_wp2_with fail
    go_ret
    exact ⟨rfl, rfl⟩

theorem named_any (a1 : Option Addr) (n c1 : Nat) (ts : List Tg) (nm : ByteArray) (w : World) (hn : n = ts.length) (hl : n ≤ 65536) (h1 : NamesOf w (.slice a1 n c1) ts) :
    Calls Try.prog 12 #[.slice a1 n c1, .string nm] w fun e w' => e = .returned (.bool (namB ts nm)) ∧ w = w' := by
  by_cases h0 : 0 < n
  · obtain ⟨b1, o1, rfl, hc1⟩ := h1.at hn h0
    exact named_row b1 o1 _ c1 ts nm w hn hl hc1
  · have e0 : n = 0 := by omega
    have e1 : ts = [] := List.eq_nil_of_length_eq_zero (by omega)
    rw [e0, show namB ts nm = false by rw [e1]; rfl]
    exact named_nil a1 c1 nm w

/-! ### namesAscending -/
set_option maxHeartbeats 400000 in
theorem asc_row (b1 o1 n c1 : Nat) (ts : List Tg) (w : World) (HN : Hid (n = ts.length)) (hl : n ≤ 65536)
    (H1 : Hid (∀ i, i < n → w.cell? ⟨b1, o1 + i, none⟩ = some (.string (tg ts i).1))) :
    Calls Try.prog 9 #[.slice (some ⟨b1, o1, none⟩) n c1] w fun e w' => (∃ r : Bool, e = .returned (.bool r) ∧ Hid (r = true → Asc ts)) ∧ Below w.heap.size w w' := by
  go_enter Try.func9, Try.ntmps9
  go_wp2_with fail
  go_loopw [3] (fun i wr => ∃ k : Nat, i = .int .i64 k ∧ 1 ≤ k ∧ k ≤ 65537 ∧ Hid (∀ j, j + 1 < k → j + 1 < n → lt (tg ts j) (tg ts (j + 1))) ∧ Hid (Below w.heap.size w wr)) (fun i _ => n - (intOf i).toNat)
  case atStart => exact ⟨1, rfl, by omega, by omega, fun j h1 h2 => by omega, Below.refl _ _⟩
  case round =>
    obtain ⟨k, rfl, hk1, hk2, HK, HB⟩ := hrel
    by_cases hlt : k < n
    · obtain ⟨m, rfl⟩ : ∃ m, k = m + 1 := ⟨k - 1, by omega⟩
      have hc0 := (HB.out.cell (World.block_lt_of_cell? _ _ (H1.out m (by omega)))).trans (H1.out m (by omega))
      have hc1 := (HB.out.cell (World.block_lt_of_cell? _ _ (H1.out (m + 1) hlt))).trans (H1.out (m + 1) hlt)
      have hw : IntKind.i64.wrap (((m + 1 : Nat) : Int) - 1) = (m : Int) := by rw [IntKind.wrap_i64]; omega
      have hw2 : IntKind.i64.wrap ((m : Int) + 1 - 1) = (m : Int) := by rw [IntKind.wrap_i64]; omega
      have b0 : (0 : Int) ≤ (m : Int) := by omega
      have b1' : (m : Int) < (n : Int) := by omega
      have b2 : (m : Int) + 1 < (n : Int) := by omega
      have b3 : (0 : Int) ≤ (m : Int) + 1 := by omega
      cases hls : Op.bytesLess (tg ts m).1.toList (tg ts (m + 1)).1.toList
      · go_wp2_with fail
        go_quiet (fail)
        go_wp2_with fail
        go_ret
        exact ⟨⟨false, rfl, fun h => by cases h⟩, drewN_below HB.out _⟩
      · have HK2 : Hid (∀ j, j + 1 < m + 1 + 1 → j + 1 < n → lt (tg ts j) (tg ts (j + 1))) := fun j h1 h2 => by
          rcases Nat.lt_succ_iff_lt_or_eq.1 (show j < m + 1 by omega) with h | h
          · exact HK.out j (by omega) h2
          · rw [h]; exact hls
        go_wp2_with fail
        go_quiet (fail)
        go_wp2_with fail
        go_roundw
        case rel => exact ⟨m + 1 + 1, by go_num, by omega, by omega, HK2, drewN_below HB.out _⟩
        case measure => simp [intOf]; omega
    · have HA : Hid (Asc ts) := asc_of_adj ts (fun i hi => HK.out i (by rw [← HN.out] at hi; omega) (by rw [HN.out]; exact hi))
      go_wp2_with fail
      go_ret
      exact ⟨⟨true, rfl, fun _ => HA.out⟩, HB.out⟩

theorem asc_nil (a1 : Option Addr) (c1 : Nat) (w : World) :
    Calls Try.prog 9 #[.slice a1 0 c1] w fun e w' => e = .returned (.bool true) ∧ w = w' := by
  go_enter Try.func9, Try.ntmps9
  go_wp2_with fail
  go_loop [3] (fun i => i = .int .i64 1) (fun _ => 0)
  case atStart => rfl
  case round =>
    subst hrel
    go_wp2_with fail
    go_ret
    exact ⟨rfl, rfl⟩

/-- What namesAscending answers. -/
def AscSaid (ts : List Tg) (w : World) (e : Ending) (w' : World) : Prop := (∃ r : Bool, e = .returned (.bool r) ∧ (r = true → Asc ts)) ∧ Below w.heap.size w w'

theorem asc_any (a1 : Option Addr) (n c1 : Nat) (ts : List Tg) (w : World) (hn : n = ts.length) (hl : n ≤ 65536) (h1 : NamesOf w (.slice a1 n c1) ts) :
    Calls Try.prog 9 #[.slice a1 n c1] w fun e w' => AscSaid ts w e w' := by
  by_cases h0 : 0 < n
  · obtain ⟨b1, o1, rfl, hc1⟩ := h1.at hn h0
    exact asc_row b1 o1 _ c1 ts w hn hl hc1
  · have e0 : n = 0 := by omega
    have e1 : ts = [] := List.eq_nil_of_length_eq_zero (by omega)
    rw [e0]
    refine (asc_nil a1 c1 w).mono ?_
    rintro e w' ⟨rfl, rfl⟩
    exact ⟨⟨true, rfl, fun _ => by rw [e1]; exact List.Pairwise.nil⟩, Below.refl _ _⟩
end Go.Proofs.Qxb6605374a
