import Derived.Test.Qxb6605374aNext
namespace Go.Proofs.Qxb6605374a
open Go.ChangeShapes Go.WideShapes Go.ChangeAt Go.RowKit

theorem elem23 : Try.prog.elem 23 = 5 := by kernel_rfl

theorem run_fromB (b o m c i : Nat) (hi : i ≤ m) (w : World) : (Instr.slice 23 (.slice (some ⟨b, o, none⟩) m c) (some (.int .i64 (i : Int))) none none).run Try.prog w = .ok (.slice (if c = i then some ⟨b, o, none⟩ else some ⟨b, o + i, none⟩) (m - i) (c - i)) w := by
  rw [run_slice_l w 23 _ m c (by rw [elem23]; exact Try.underlying23) .i64 i (by omega) (by omega), elem23, Try.sizeOf5]
  simp only [Result.andThen, sliced, Int.toNat_natCast, Nat.mul_one, Option.map_some, Addr.add_lit]

theorem BRow.part {w : World} {b o c : Nat} {r : ByteArray} (HC : ∀ i, i < r.size → w.cell? ⟨b, o + i, none⟩ = some (.int .u8 (byteN r i))) (hc : r.size ≤ c) (hcm : c ≤ maxLen) (i j : Nat) (hij : i ≤ j) (hj : j ≤ r.size) :
    BRow w (.slice (if c = i then some ⟨b, o, none⟩ else some ⟨b, o + i, none⟩) (j - i) (c - i)) (r.extract i j) := by
  have hsz : (r.extract i j).size = j - i := by rw [ByteArray.size_extract]; omega
  refine ⟨_, c - i, by rw [hsz], by omega, by omega, fun h0 => ?_⟩
  rw [if_neg (by omega)]
  refine ⟨b, o + i, rfl, fun k hk => ?_⟩
  rw [Nat.add_assoc, HC (i + k) (by omega), byteN_extract r i j k (by omega) hj]

set_option maxHeartbeats 400000 in
theorem nextb_row (b o m c : Nat) (r : ByteArray) (w : World) (h : Hid (Ok1 r)) (HM : Hid (m = r.size)) (hs : m ≤ 65536) (hmc : m ≤ c) (hcm : c ≤ maxLen)
    (HC : Hid (∀ i, i < m → w.cell? ⟨b, o + i, none⟩ = some (.int .u8 (byteN r i)))) :
    Calls Try.prog 20 #[.slice (some ⟨b, o, none⟩) m c] w fun e w' => ∃ v1 v3, e = .returned (.tuple #[v1, .int .u64 (gnB r), v3]) ∧ (∀ W, BRow W (.slice (some ⟨b, o, none⟩) m c) r → BRow W v1 (nmB r)) ∧ (∀ W, BRow W (.slice (some ⟨b, o, none⟩) m c) r → BRow W v3 (rsB r)) ∧ Below w.heap.size w w' := by
  unfold maxLen at hcm
  obtain ⟨n, HN⟩ : ∃ n, Hid (nlB r = n) := ⟨_, rfl⟩
  have hn : n + 10 ≤ m := by rw [← HN.out, HM.out]; exact h.out.2
  have hc0 : w.cell? ⟨b, o, none⟩ = some (.int .u8 (byteN r 0)) := HC.out 0 (by omega)
  have hc1 : w.cell? ⟨b, o + 1, none⟩ = some (.int .u8 (byteN r 1)) := HC.out 1 (by omega)
  have hm0 : (0 : Int) < (m : Int) := by omega
  have hm1 : (1 : Int) < (m : Int) := by omega
  have hb0 := byteN_lt r 0
  have hb1 := byteN_lt r 1
  go_enter Try.func20, Try.ntmps20
  go_upto_region 1 with fail
  go_cut [5] (fun t wx => Hid (Below w.heap.size w wx) ∧ t = .int .i64 n)
  case first =>
    go_quiet (fail)
    go_wp2_with fail
    go_meet
    exact ⟨drewN_below (Below.refl _ _) _, by rw [or_i64 _ _ hb0 hb1, ← HN.out]; rfl⟩
  case rest =>
    obtain ⟨HB, rfl⟩ := hcut
    clear hc0 hc1 hm0 hm1
    have HCw : Hid (∀ i, i < m → wc.cell? ⟨b, o + i, none⟩ = some (.int .u8 (byteN r i))) := fun i hi => (HB.out.cell (p := ⟨b, o + i, none⟩) (World.block_lt_of_cell? _ _ (HC.out i hi))).trans (HC.out i hi)
    go_wp2_with fail
    go_loop [3, 21] (fun g i => ∃ k : Nat, k ≤ 8 ∧ i = .int .i64 k ∧ g = .int .u64 (genUp r (2 + n) k)) (fun _ i => 8 - (intOf i).toNat)
    case atStart => exact ⟨0, by omega, rfl, rfl⟩
    case round =>
      obtain ⟨k, hk, rfl, rfl⟩ := hrel
      by_cases hlt : k < 8
      · have hg := genUp_small r (2 + n) k hlt
        have hbk := byteN_lt r (2 + n + k)
        have hcell := HCw.out (2 + n + k) (by omega)
        go_wp2_with fail
        go_round
        case rel => exact ⟨k + 1, by omega, by go_num, by rw [or_u64 _ _ hg hbk]; rfl⟩
        case measure => simp [intOf]; omega
      · obtain rfl : k = 8 := by omega
        obtain ⟨v3, hsl, HV⟩ : ∃ v3, (∀ w, (Instr.slice 23 (.slice (some ⟨b, o, none⟩) m c) (some (.int .i64 (10 + (n : Int)))) none none).run Try.prog w = .ok v3 w) ∧ Hid (v3 = .slice (if c = 10 + n then some ⟨b, o, none⟩ else some ⟨b, o + (10 + n), none⟩) (m - (10 + n)) (c - (10 + n))) :=
          ⟨_, fun w => by have := run_fromB b o m c (10 + n) (by omega) w; rw [show ((10 + n : Nat) : Int) = 10 + (n : Int) by omega] at this; exact this, rfl⟩
        have hwr : IntKind.i64.wrap (10 + (n : Int)) = 10 + (n : Int) := by rw [IntKind.wrap_i64]; omega
        go_wp2_with fail
        go_quiet (fail)
        go_wp2_with fail
        go_ret3
        have hBel := drewN_below HB.out nq
        have HCx : ∀ W, BRow W (.slice (some ⟨b, o, none⟩) m c) r → ∀ i, i < r.size → W.cell? ⟨b, o + i, none⟩ = some (.int .u8 (byteN r i)) := fun W hW i hi => by
          obtain ⟨a', c', e1, _, _, h3⟩ := hW
          obtain ⟨b', o', e2, hc⟩ := h3 (by omega)
          subst e2
          cases e1
          exact hc i hi
        refine ⟨_, _, by rw [gnB, HN.out]; rfl, fun W hW => ?_, fun W hW => ?_, hBel⟩
        · have h1 := BRow.part (HCx W hW) (by rw [← HM.out]; exact hmc) hcm 2 (2 + n) (by omega) (by rw [← HM.out]; omega)
          rw [if_neg (by omega), show 2 + n - 2 = n by omega] at h1
          rw [nmB, HN.out]
          exact h1
        · have h1 := BRow.part (HCx W hW) (by rw [← HM.out]; exact hmc) hcm (10 + n) r.size (by rw [← HM.out]; omega) (Nat.le_refl _)
          rw [rsB, HN.out]
          show BRow _ v3 _
          rw [HV.out]
          rw [← HM.out] at h1 ⊢
          exact h1

theorem next_bytes (v : Value) (r : ByteArray) (w : World) (hv : BRow w v r) (h : Ok1 r) (hs : r.size ≤ 65536) :
    Calls Try.prog 20 #[v] w fun e w' => ∃ v1 v3, e = .returned (.tuple #[v1, .int .u64 (gnB r), v3]) ∧ (∀ W, BRow W v r → BRow W v1 (nmB r)) ∧ (∀ W, BRow W v r → BRow W v3 (rsB r)) ∧ Below w.heap.size w w' := by
  obtain ⟨a, c, rfl, h1, h2, h3⟩ := hv
  obtain ⟨b, o, rfl, hc⟩ := h3 (by have := h.1; omega)
  exact nextb_row b o r.size c r w h rfl hs h1 h2 hc
end Go.Proofs.Qxb6605374a
