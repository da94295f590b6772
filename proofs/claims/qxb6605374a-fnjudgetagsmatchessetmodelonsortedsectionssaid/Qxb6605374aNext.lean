import Derived.Test.Qxb6605374aSec
namespace Go.Proofs.Qxb6605374a
open Go.ChangeShapes Go.WideShapes Go.ChangeAt Go.RowKit

theorem or_i64 (x y : Nat) (hx : x < 256) (hy : y < 256) : bits .or .i64 ((x : Int) * 256) (y : Int) = ((x * 256 + y : Nat) : Int) := by
  rw [bits_join .i64 63 (by decide) (fun n h0 h1 => by rw [IntKind.wrap_i64]; omega) 8 ((x : Int) * 256) y (by omega) (by omega) (by omega) (by omega) (by omega) (by omega)]
  omega

theorem or_u64 (x y : Nat) (hx : x < 72057594037927936) (hy : y < 256) : bits .or .u64 ((x : Int) * 256) (y : Int) = ((x * 256 + y : Nat) : Int) := by
  rw [bits_join .u64 64 (by decide) (fun n h0 h1 => by simp [IntKind.wrap, IntKind.bits, IntKind.signed]; omega) 8 ((x : Int) * 256) y (by omega) (by omega) (by omega) (by omega) (by omega) (by omega)]
  omega

theorem run_from (r : ByteArray) (i : Nat) (h : i ≤ r.size) (w : World) : (Instr.slice 9 (.string r) (some (.int .i64 (i : Int))) none none).run Try.prog w = .ok (.string (r.extract i r.size)) w := by
  rw [run_slice_string_from_if w 9 r .i64 i Try.underlying9, if_pos (by omega), Int.toNat_natCast]

theorem genUp_small (r : ByteArray) (i k : Nat) (hk : k < 8) : genUp r i k < 72057594037927936 := by
  have h := genUp_lt r i k
  have : 256 ^ k ≤ 256 ^ 7 := Nat.pow_le_pow_right (by omega) (by omega)
  omega

set_option maxHeartbeats 400000 in
theorem next_str (r : ByteArray) (w : World) (h : Hid (Ok1 r)) (hs : r.size ≤ 65536) :
    Calls Try.prog 21 #[.string r] w fun e w' => e = .returned (.tuple #[.string (nmB r), .int .u64 (gnB r), .string (rsB r)]) ∧ Below w.heap.size w w' := by
  have hi0 := run_index_at r 0 (by have := h.out.1; omega)
  have hi1 := run_index_at r 1 (by have := h.out.1; omega)
  rw [show ((0 : Nat) : Int) = 0 from rfl] at hi0
  rw [show ((1 : Nat) : Int) = 1 from rfl] at hi1
  have hb0 := byteN_lt r 0
  have hb1 := byteN_lt r 1
  obtain ⟨n, HN⟩ : ∃ n, Hid (nlB r = n) := ⟨_, rfl⟩
  have hn : n + 10 ≤ r.size := by rw [← HN.out]; exact h.out.2
  go_enter Try.func21, Try.ntmps21
  go_upto_region 1 with fail
  go_cut [5] (fun t wx => Hid (Below w.heap.size w wx) ∧ t = .int .i64 n)
  case first =>
    go_quiet (fail)
    go_wp2_with fail
    go_meet
    exact ⟨drewN_below (Below.refl _ _) _, by rw [or_i64 _ _ hb0 hb1, ← HN.out]; rfl⟩
  case rest =>
    obtain ⟨HB, rfl⟩ := hcut
    clear hi0 hi1
    go_wp2_with fail
    go_loop [3, 19] (fun g i => ∃ k : Nat, k ≤ 8 ∧ i = .int .i64 k ∧ g = .int .u64 (genUp r (2 + n) k)) (fun _ i => 8 - (intOf i).toNat)
    case atStart => exact ⟨0, by omega, rfl, rfl⟩
    case round =>
      obtain ⟨k, hk, rfl, rfl⟩ := hrel
      by_cases hlt : k < 8
      · have hg := genUp_small r (2 + n) k hlt
        have hidx := run_index_at r (2 + n + k) (by omega)
        have hbk := byteN_lt r (2 + n + k)
        have e : ((2 + n + k : Nat) : Int) = 2 + (n : Int) + k := by omega
        rw [e] at hidx
        clear e
        go_wp2_with fail
        go_round
        case rel => exact ⟨k + 1, by omega, by go_num, by rw [or_u64 _ _ hg hbk]; rfl⟩
        case measure => simp [intOf]; omega
      · obtain rfl : k = 8 := by omega
        have hsl := run_from r (10 + n) (by omega)
        rw [show ((10 + n : Nat) : Int) = 10 + (n : Int) by omega] at hsl
        have hwr : IntKind.i64.wrap (10 + (n : Int)) = 10 + (n : Int) := by rw [IntKind.wrap_i64]; omega
        go_wp2_with fail
        go_quiet (fail)
        go_wp2_with fail
        go_ret3
        exact ⟨by rw [nmB, gnB, rsB, HN.out]; rfl, drewN_below HB.out _⟩
end Go.Proofs.Qxb6605374a
