import Derived.Test.Qxb6601090aSmall
import Derived.Lib.AppendZerosOnto
namespace Go.Proofs.Qxb6601090a
open Go.ChangeShapes Go.WideShapes Go.ChangeAt Go.RowKit Go.Maps Go.ChangeMaps

theorem Try.info38 : (Try.prog.info? 38).map (fun i => (i.zero, i.size, i.bytes)) = some (some (.agg #[.pointer none, .int .i64 0]), 2, 16) := by kernel_rfl

theorem shorter {w : World} {B e size g R cap : Nat} {xs : List Value} (h : w.ownsRow B e size (.slice (some ⟨g, 0, none⟩) R cap) R xs) (m : Nat) (hm : m ≤ cap) : ∃ ys, w.ownsRow B e size (.slice (some ⟨g, 0, none⟩) m cap) m ys := by
  rcases h.2 with ⟨h1, _⟩ | ⟨g', cap', cur, hv, hb, hg, hn, hc, hs, ht⟩
  · cases h1
  · cases hv
    refine ⟨cur.toList.take (m * size), ?_, .inr ⟨g, cap, cur, rfl, hb, hg, hm, hc, hs, rfl⟩⟩
    rw [List.length_take, Array.length_toList, hs]
    exact Nat.min_eq_left (Nat.mul_le_mul_right _ hm)

theorem grow_room (g R n : Nat) (w : World) (hR : R ≤ 65536) (hn : n ≤ R) :
    Calls Try.prog 18 #[.slice (some ⟨g, 0, none⟩) 0 R, .int .i64 n] w fun e w' => e = .returned (.slice (some ⟨g, 0, none⟩) 0 R) ∧ w = w' := by
  go_enter Try.func18, Try.ntmps18
  go_wp2
  go_ret
  exact ⟨rfl, rfl⟩

theorem size_zeroC (z : Array Value) (n : Nat) (h : z.size = 2) : (Builtin.zeroCells z n).size = n * 2 := by
  rw [size_zeroCells, h]

set_option maxHeartbeats 1000000 in
theorem grow_new (B g R n : Nat) (xs : List Value) (w : World) (hR : R ≤ 65536) (hn : n ≤ 65536) (hlt : R < n) (hown : w.ownsRow B 38 2 (.slice (some ⟨g, 0, none⟩) R R) R xs) (hB : B ≤ w.heap.size) :
    Calls Try.prog 18 #[.slice (some ⟨g, 0, none⟩) 0 R, .int .i64 n] w fun e w' => ∃ g' c', e = .returned (.slice (some ⟨g', 0, none⟩) 0 c') ∧ n ≤ c' ∧ w'.ownsRow B 38 2 (.slice (some ⟨g', 0, none⟩) 0 c') 0 [] ∧ Below B w w' := by
  obtain ⟨i0, hi, hz0, hz1, hz2⟩ := info_parts Try.info38
  have hck : R + (n - R) = n := by omega
  obtain ⟨G, cs, hge, hle, hsz, hr⟩ : ∃ (G : Nat) (cs : Array Value), n ≤ G ∧ G ≤ maxLen ∧ cs.size = G * 2 ∧ ∀ (ty : TypeId) (x : Int), x = (n : Int) - (R : Int) → (Builtin.append_ #[34, 3] ty #[.slice (some ⟨g, 0, none⟩) R R, .int .i64 x]).run Try.prog w = .ok (.slice (some ⟨w.heap.size, 0, none⟩) n G) (w.drew.alloc (.cells cs 38)) := by
    have h := fun ty => Lib.run_append_grow_zeros (P := Try.prog) w 34 3 ty 38 i0 _ .i64 .i64 Try.underlying34 Try.underlying3 hi hz0 (some ⟨g, 0, none⟩) R R xs (run_firstCells_some w.drew _ R ⟨g, 0, none⟩ R R xs (by rw [hz1]; exact hown.1) (hown.cells rfl)) (n - R) (by omega) (by rw [hz1]; omega) (by omega) (by omega) (by rw [hz2]; omega) (growslice_fits (by omega) (by rw [hz2]; omega))
    rw [hck] at h
    have hge := grownCap_ge w n R 38
    have hle := grownCap_le_maxLen w n R 38 (by unfold maxLen; omega)
    generalize grownCap w n R 38 = G at *
    refine ⟨G, (xs.toArray ++ Builtin.zeroCells (Value.agg #[Value.pointer none, Value.int IntKind.i64 0]).cells (n - R) ++ Builtin.zeroCells (Value.agg #[Value.pointer none, Value.int IntKind.i64 0]).cells (G - n)), hge, hle, ?_, fun ty x hx => ?_⟩
    rotate_left
    · rw [show x = ((n - R : Nat) : Int) by omega]
      exact h ty
    · rw [Array.size_append, Array.size_append, size_zeroC _ _ rfl, size_zeroC _ _ rfl, List.size_toArray, hown.1]
      omega
  have HP := hidden (show (w.drew.alloc (.cells cs 38)).ownsRow B 38 2 (.slice (some ⟨w.heap.size, 0, none⟩) 0 G) 0 [] from ⟨rfl, .inr ⟨w.heap.size, G, cs, rfl, hB, heap_alloc_new w.drew _, Nat.zero_le _, hle, hsz, rfl⟩⟩)
  have HB := hidden ((Below.refl B w).drew.alloc hB (.cells cs 38))
  unfold maxLen at hle
  clear hown hsz hi hz0 hz1 hz2 hck
  go_enter Try.func18, Try.ntmps18
  go_wp2_with (at_builtin; refine Lib.wpList_append_run _ rfl _ _ _ _ rfl _ _ rfl rfl _ _ (hr _ _ rfl) ?_)
  go_ret
  exact ⟨_, G, rfl, hge, HP, HB⟩

theorem grow18 (B g R n : Nat) (xs : List Value) (w : World) (hR : R ≤ 65536) (hn : n ≤ 65536) (hown : w.ownsRow B 38 2 (.slice (some ⟨g, 0, none⟩) R R) R xs) (hB : B ≤ w.heap.size) :
    Calls Try.prog 18 #[.slice (some ⟨g, 0, none⟩) 0 R, .int .i64 n] w fun e w' => ∃ g' c', e = .returned (.slice (some ⟨g', 0, none⟩) 0 c') ∧ n ≤ c' ∧ (∃ ys, w'.ownsRow B 38 2 (.slice (some ⟨g', 0, none⟩) n c') n ys) ∧ Below B w w' := by
  by_cases h : n ≤ R
  · refine (grow_room g R n w hR h).mono ?_
    rintro e w' ⟨rfl, rfl⟩
    exact ⟨g, R, rfl, h, shorter hown n h, Below.refl _ _⟩
  · refine (grow_new B g R n xs w hR hn (by omega) hown hB).mono ?_
    rintro e w' ⟨g', c', rfl, h1, h2, h3⟩
    exact ⟨g', c', rfl, h1, shorter h2 n h1, h3⟩

end Go.Proofs.Qxb6601090a
