import Derived.Test.Qxb6605374aRows
import Derived.WalkKit
import Derived.ProofKit
import Derived.WalkSpells
namespace Go.Proofs.Qxb6605374a
open Go.ChangeShapes Go.WideShapes Go.ChangeAt Go.RowKit

theorem hid {p : Prop} (h : p) : Hid p := h

/-- the 65 bytes -/
def alpha : List Int := [97, 98, 99, 100, 101, 102, 103, 104, 105, 106, 107, 108, 109, 110, 111, 112, 113, 114, 115, 116, 117, 118, 119, 120, 121, 122, 65, 66, 67, 68, 69, 70, 71, 72, 73, 74, 75, 76, 77, 78, 79, 80, 81, 82, 83, 84, 85, 86, 87, 88, 89, 90, 48, 49, 50, 51, 52, 53, 54, 55, 56, 57, 46, 95, 45]

def inB (b : Int) (k : Nat) : Bool := (alpha.take k).any (· == b)

def nsB (b : Int) : Bool := (decide (97 ≤ b) && decide (b ≤ 122)) || (decide (65 ≤ b) && decide (b ≤ 90)) || (decide (48 ≤ b) && decide (b ≤ 57)) || b == 46 || b == 95 || b == 45

theorem nsB_iff (b : Int) : nsB b = true ↔ (97 ≤ b ∧ b ≤ 122) ∨ (65 ≤ b ∧ b ≤ 90) ∨ (48 ≤ b ∧ b ≤ 57) ∨ b = 46 ∨ b = 95 ∨ b = 45 := by
  simp [nsB, or_assoc]
theorem ret_t {b : Int} (h : nsB b = true) : Ending.returned (.bool true) = .returned (.bool (nsB b)) := by rw [h]
theorem ret_f {b : Int} (h : ¬ nsB b = true) : Ending.returned (.bool false) = .returned (.bool (nsB b)) := by rw [Bool.eq_false_iff.2 h]

/-- the constant, as the program holds it -/
def ALPHA : ByteArray := ⟨#[97, 98, 99, 100, 101, 102, 103, 104, 105, 106, 107, 108, 109, 110, 111, 112, 113, 114, 115, 116, 117, 118, 119, 120, 121, 122, 65, 66, 67, 68, 69, 70, 71, 72, 73, 74, 75, 76, 77, 78, 79, 80, 81, 82, 83, 84, 85, 86, 87, 88, 89, 90, 48, 49, 50, 51, 52, 53, 54, 55, 56, 57, 46, 95, 45]⟩

theorem alpha_at : ∀ k : Fin 65, ((ALPHA[k.1]'(by have := k.2; exact this)).toNat : Int) = alpha.getD k.1 0 := by decide

theorem inB_succ (b : Int) (k : Nat) (h : k < 65) : inB b (k + 1) = (inB b k || (alpha.getD k 0 == b)) := by
  unfold inB
  rw [List.take_succ_eq_append_getElem (show k < alpha.length from h), List.any_append]
  simp [show k < alpha.length from h]

theorem in_t {b : Int} {k : Nat} (h : k < 65) (h2 : (((ALPHA[k]'h).toNat : Int) == b) = true) : inB b (k + 1) = true := by
  rw [inB_succ b k h, ← alpha_at ⟨k, h⟩, h2, Bool.or_true]
theorem in_f {b : Int} {k : Nat} (h : k < 65) (h2 : (((ALPHA[k]'h).toNat : Int) == b) = false) : inB b (k + 1) = inB b k := by
  rw [inB_succ b k h, ← alpha_at ⟨k, h⟩, h2, Bool.or_false]

theorem all_bytes : ∀ b : Fin 256, nsB (b.1 : Int) = inB (b.1 : Int) 65 := by decide +kernel

set_option maxHeartbeats 400000 in
theorem ns_any (b : Int) (w : World) (h0 : 0 ≤ b) (h1 : b ≤ 255) :
    Calls Try.prog 18 #[.int .u8 b] w fun e w' => e = .returned (.bool (nsB b)) ∧ w = w' := by
  go_enter Try.func18, Try.ntmps18
  go_wp2
  all_goals
    go_ret
    refine ⟨?_, rfl⟩
    try simp only [beq_eq_false_iff_ne, beq_iff_eq] at *
    first
    | exact ret_t ((nsB_iff b).2 (by omega))
    | exact ret_f (fun h => by have := (nsB_iff b).1 h; omega)

theorem zzns_any (b : Int) (w : World) (h0 : 0 ≤ b) (h1 : b ≤ 255) :
    Calls Try.prog 6 #[.int .u8 b] w fun e w' => e = .returned (.bool (nsB b)) ∧ w = w' := by
  go_enter Try.func6, Try.ntmps6
  go_wp2_with fail
  refine (ns_any _ _ h0 h1).mono ?_
  rintro e w' ⟨rfl, rfl⟩
  go_wp2_with fail
  go_ret
  exact ⟨rfl, rfl⟩

set_option maxHeartbeats 400000 in
theorem walk (b : Int) (w : World) (h0 : 0 ≤ b) (h1 : b ≤ 255) :
    Calls Try.prog 3 #[.int .u8 b] w fun e w' => e = .returned (.bool true) ∧ w = w' := by
  go_enter Try.func3, Try.ntmps3
  go_wp2
  go_loop [3, 4] (fun t i => ∃ k : Nat, k ≤ 65 ∧ i = .int .i64 k ∧ t = .bool (inB b k)) (fun _ i => 65 - (intOf i).toNat)
  case atStart => exact ⟨0, by omega, rfl, rfl⟩
  case round =>
    obtain ⟨k, hk, rfl, rfl⟩ := hrel
    by_cases hlt : k < 65
    · go_wp2
      · go_round
        case rel => exact ⟨k + 1, by omega, by go_num, by rw [in_t hlt (by assumption)]⟩
        case measure => simp [intOf]; omega
      · go_round
        case rel => exact ⟨k + 1, by omega, by go_num, by rw [in_f hlt (by assumption)]⟩
        case measure => simp [intOf]; omega
    · obtain rfl : k = 65 := by omega
      have HE : Hid (nsB b = inB b 65) := by
        have := all_bytes ⟨b.toNat, by omega⟩
        rw [show ((b.toNat : Nat) : Int) = b by omega] at this
        exact this
      go_wp2_with fail
      refine (zzns_any _ _ h0 h1).mono ?_
      rintro e w' ⟨rfl, rfl⟩
      go_wp2_with fail
      go_ret
      exact ⟨by rw [HE.out]; simp, rfl⟩
end Go.Proofs.Qxb6605374a
