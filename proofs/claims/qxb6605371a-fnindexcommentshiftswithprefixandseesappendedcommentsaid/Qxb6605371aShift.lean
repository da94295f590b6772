import Derived.Test.Qxb6605371aClone
import Derived.Deep.Cut
namespace Go.Proofs.Qxb6605371a
open Go.ChangeShapes Go.WideShapes Go.ChangeAt Go.RowKit

theorem at_cons_zero (x : ByteArray) (ss : List ByteArray) : at' (x :: ss) 0 = x := rfl
theorem at_cons_succ (x : ByteArray) (ss : List ByteArray) (i : Nat) : at' (x :: ss) (i + 1) = at' ss i := rfl
theorem at_snoc_lt (x : ByteArray) (ss : List ByteArray) (i : Nat) (h : i < ss.length) : at' (ss ++ [x]) i = at' ss i := by
  simp [at', List.getElem?_append_left h]
theorem at_snoc_eq (x : ByteArray) (ss : List ByteArray) : at' (ss ++ [x]) ss.length = x := by simp [at']
theorem at_snoc_gt (x : ByteArray) (ss : List ByteArray) (i : Nat) (h : ss.length < i) : at' (ss ++ [x]) i = ByteArray.empty := by
  unfold at'
  rw [List.getD_eq_getElem?_getD, List.getElem?_eq_none (by simp; omega)]
  rfl

theorem size_snoc (x : ByteArray) (ss : List ByteArray) (i : Nat) (hx : x.size ≤ maxLen) (h : ∀ i, (at' ss i).size ≤ maxLen) : (at' (ss ++ [x]) i).size ≤ maxLen := by
  rcases Nat.lt_trichotomy i ss.length with hi | hi | hi
  · rw [at_snoc_lt _ _ _ hi]; exact h i
  · subst hi; rw [at_snoc_eq]; exact hx
  · rw [at_snoc_gt _ _ _ hi]; exact Nat.zero_le _

theorem IsIdx.bounds {ss : List ByteArray} {r : Int} (h : IsIdx ss r) : -1 ≤ r ∧ r < ss.length := by
  rcases h with ⟨rfl, _⟩ | ⟨k, rfl, hk, _⟩ <;> omega

theorem IsIdx.one {ss : List ByteArray} {r s : Int} (h : IsIdx ss r) (k : IsIdx ss s) : r = s := by
  rcases h with ⟨rfl, h⟩ | ⟨i, rfl, hi, hh, hb⟩ <;> rcases k with ⟨rfl, k⟩ | ⟨j, rfl, hj, kh, kb⟩
  · rfl
  · rw [h j hj] at kh; cases kh
  · rw [k i hi] at hh; cases hh
  · rcases Nat.lt_trichotomy i j with h1 | h1 | h1
    · rw [kb i h1] at hh; cases hh
    · rw [h1]
    · rw [hb j h1] at kh; cases kh

theorem IsIdx.cons {ss : List ByteArray} {r : Int} (x : ByteArray) (hx : hashB x = false) (h : IsIdx ss r) : IsIdx (x :: ss) (if 0 ≤ r then r + 1 else -1) := by
  rcases h with ⟨rfl, h⟩ | ⟨k, rfl, hk, hh, hb⟩
  · left
    refine ⟨rfl, fun j hj => ?_⟩
    match j with
    | 0 => exact hx
    | j + 1 => exact h j (by simpa using hj)
  · right
    refine ⟨k + 1, by rw [if_pos (by omega)]; omega, by simpa using hk, hh, fun j hj => ?_⟩
    match j with
    | 0 => exact hx
    | j + 1 => exact hb j (by omega)

theorem IsIdx.snoc {ss : List ByteArray} {r : Int} (x : ByteArray) (hx : hashB x = true) (h : IsIdx ss r) : IsIdx (ss ++ [x]) (if 0 ≤ r then r else ss.length) := by
  rcases h with ⟨rfl, h⟩ | ⟨k, rfl, hk, hh, hb⟩
  · right
    refine ⟨ss.length, rfl, by simp, by rw [at_snoc_eq]; exact hx, fun j hj => by rw [at_snoc_lt _ _ _ hj]; exact h j hj⟩
  · right
    refine ⟨k, by rw [if_pos (by omega)], by simp; omega, by rw [at_snoc_lt _ _ _ hk]; exact hh, fun j hj => by rw [at_snoc_lt _ _ _ (by omega)]; exact hb j hj⟩

theorem hash_x : hashB ⟨#[120]⟩ = false := by unfold hashB; rw [ByteArray.toList_eq]; rfl
theorem hash_h : hashB ⟨#[35]⟩ = true := by unfold hashB; rw [ByteArray.toList_eq]; rfl

set_option maxHeartbeats 1000000 in
theorem shift_any (a : Option Addr) (n c : Nat) (ss : List ByteArray) (w : World) (hv : Hid (Strs w (.slice a n c) ss)) (h0 : Hid (a = none → c = 0)) (HN : Hid (n = ss.length)) (hl : n ≤ maxLen) (hsz : Hid (∀ i, (at' ss i).size ≤ maxLen)) :
    Calls Try.prog 6 #[.slice a n c] w fun e w' => e = .returned (.bool true) ∧ Below w.heap.size w w' := by
  unfold maxLen at hl
  by_cases h1 : n ≤ 65536
  · obtain ⟨i0, hi, hz0, hz1, hz2⟩ := info_parts Try.info9
    go_enter Try.func6, Try.ntmps6
    go_wp2_with fail
    refine (bytes18_any _ ss _ hv.out (by rw [← HN.out]; exact hl) hsz.out).mono ?_
    rintro e w' ⟨⟨r, rfl⟩, rfl⟩
    cases r
    · go_wp2_with fail
      go_ret
      exact ⟨rfl, Below.refl _ _⟩
    go_wp2_with fail
    refine (b1_any _ ss _ hv.out (by rw [← HN.out]; exact hl) hsz.out).mono ?_
    rintro e w' ⟨⟨m, rfl, hm⟩, rfl⟩
    clear hm
    by_cases hm : m ≤ 1048576
    · go_wp2_with fail
      refine (clone_any _ _ _ ss _ hv.out HN.out h0.out h1).mono ?_
      rintro e w1 ⟨a1, c1, rfl, hv1', hn1', hb1'⟩
      have hv1 := hid (hv1')
      have hn1 := hid (hn1')
      have hb1 := hid (hb1')
      clear hv1' hn1' hb1'
      go_wp2_with fail
      refine (zzindex_any _ ss _ hv1.out (by rw [← HN.out]; exact hl) hsz.out).mono ?_
      rintro e w' ⟨r, rfl, hr', rfl⟩
      have hr := hid (hr')
      clear hr' hm
      go_upto_region 8 with (at_make; refine wpList_make_own _ rfl _ _ 22 rfl w1.heap.size 9 i0 (.string ByteArray.empty) 1 Try.underlying22 hi hz0 hz1 _ _ _ (n + 1) rfl rfl (by omega) (by rw [hz2]; omega) (by unfold maxLen; omega) (Nat.le_refl _) ?_; intro w3 hown3 hgrow3)
      go_upto_region 9 with (at_builtin; refine wpList_append_fits _ rfl _ _ 22 rfl w1.heap.size 9 i0 1 Try.underlying22 hi hz1 w1.heap.size 0 (n + 1) _ rfl (hown3.alloc _) ⟨w3.heap.size, 0, none⟩ 1 1 [.string ⟨#[120]⟩] rfl rfl (cell_one_new _ _ _) (fun u hu => by simp at hu; subst hu; rfl) (by omega) ?_; intro w4 hown4 hgrow4)
      have hb4' : Below w1.heap.size w1 w4 := (((Below.refl _ _).grown hgrow3 (Nat.le_refl _) (fun k h => by cases h)).alloc (hgrow3.size) _).grown hgrow4 (by have := hgrow3.size; simp; omega) (fun k h => by cases h; exact Nat.le_refl _)
      have hv4 := hid (hv1.out.below hb4')
      have hb4 := hid (hb4')
      clear hb4' hgrow3 hgrow4 hown3
      have hlt4 : w1.heap.size < w4.heap.size := (hown4.lt _ rfl).2
      go_upto_region 10 with (at_builtin; refine wpList_append_fits_any _ rfl _ _ 22 rfl w1.heap.size 9 i0 1 Try.underlying22 hi hz1 w1.heap.size 1 (n + 1) _ rfl hown4 a1 n c1 (ss.map Value.string) rfl (by rw [List.length_map, ← HN.out]; omega) hn1.out hv4.out.news (strs_oneCell ss) (by omega) ?_; intro w5 hown5 hgrow5)
      have hb5' : Below w1.heap.size w1 w5 := hb4.out.grown hgrow5 (Nat.le_of_lt hlt4) (fun k h => by cases h; exact Nat.le_refl _)
      have hv5 := hid (hv1.out.below hb5')
      have hb5 := hid (hb5')
      have hlt5 : w1.heap.size < w5.heap.size := (hown5.lt _ rfl).2
      clear hb5' hgrow5 hown4 hv4 hb4 hlt4
      go_upto_region 11 with (at_make; refine wpList_make_own _ rfl _ _ 22 rfl w1.heap.size 9 i0 (.string ByteArray.empty) 1 Try.underlying22 hi hz0 hz1 _ _ _ (n + 1) rfl rfl (by omega) (by rw [hz2]; omega) (by unfold maxLen; omega) (Nat.le_of_lt hlt5) ?_; intro w6 hown6 hgrow6)
      have hown5b := hown5.kept hgrow6 (.inr (by intro h; cases h))
      have hb6' : Below w1.heap.size w1 w6 := hb5.out.grown hgrow6 (Nat.le_of_lt hlt5) (fun k h => by cases h)
      have hv6 := hid (hv1.out.below hb6')
      have hb6 := hid (hb6')
      have hlt6 : w5.heap.size < w6.heap.size := (hown6.lt _ rfl).2
      clear hb6' hgrow6 hown5 hv5 hb5
      go_upto_region 12 with (at_builtin; refine wpList_append_fits_any _ rfl _ _ 22 rfl w1.heap.size 9 i0 1 Try.underlying22 hi hz1 w5.heap.size 0 (n + 1) _ rfl hown6 a1 n c1 (ss.map Value.string) rfl (by rw [List.length_map, ← HN.out]; omega) hn1.out hv6.out.news (strs_oneCell ss) (by omega) ?_; intro w7 hown7 hgrow7)
      have hown5c := hown5b.kept hgrow7 (.inr (by simp [Value.ownBlock]; omega))
      have hb7' : Below w1.heap.size w1 w7 := hb6.out.grown hgrow7 (by omega) (fun k h => by cases h; omega)
      have hb7 := hid (hb7')
      have hlt7 : w5.heap.size < w7.heap.size := (hown7.lt _ rfl).2
      clear hb7' hgrow7 hown6 hv6 hb6 hown5b
      go_upto_region 13 with (at_builtin; refine wpList_append_fits _ rfl _ _ 22 rfl w1.heap.size 9 i0 1 Try.underlying22 hi hz1 w5.heap.size n (n + 1) _ rfl ((by simpa using hown7 : w7.ownsRow w1.heap.size 9 1 (.slice (some ⟨w5.heap.size, 0, none⟩) n (n + 1)) n (ss.map Value.string)).alloc _) ⟨w7.heap.size, 0, none⟩ 1 1 [.string ⟨#[35]⟩] rfl rfl (cell_one_new _ _ _) (fun u hu => by simp at hu; subst hu; rfl) (by omega) ?_; intro w8 hown8 hgrow8)
      have hown5d := (hown5c.alloc _).kept hgrow8 (.inr (by simp [Value.ownBlock]; omega))
      have hb8 := hid ((hb7.out.alloc (by omega) _).grown hgrow8 (by simp; omega) (fun k h => by cases h; omega))
      have hpre := hid (Strs.of_own (⟨#[120]⟩ :: ss) hown5d (by simp))
      have hpost := hid (Strs.of_own (ss ++ [⟨#[35]⟩]) hown8 (by simp))
      clear hgrow8 hown7 hb7 hown5c hown5d hown8 hi hz0 hz1 hz2 hlt5 hlt6 hlt7
      go_wp2_with fail
      refine (zzindex_any _ _ _ hpre.out (by simp [← HN.out, maxLen]; omega) ?_).mono ?_
      · intro i
        match i with
        | 0 => show 1 ≤ maxLen; unfold maxLen; omega
        | i + 1 => exact hsz.out i
      rintro e w' ⟨rp, rfl, hrp', rfl⟩
      have hrp := hid hrp'
      clear hrp'
      go_wp2_with fail
      refine (zzindex_any _ _ _ hpost.out (by simp [← HN.out, maxLen]; omega) ?_).mono ?_
      · exact fun i => size_snoc _ _ _ (show 1 ≤ maxLen by unfold maxLen; omega) hsz.out
      rintro e w' ⟨rq, rfl, hrq', rfl⟩
      have hrq := hid hrq'
      clear hrq'
      have er := hr.out.bounds
      rw [← HN.out] at er
      have ep := hid (hrp.out.one (hr.out.cons _ hash_x))
      have eq := hid (hrq.out.one (hr.out.snoc _ hash_h))
      have hfin := hid (hb1.out.trans (hb8.out.mono hb1.out.size))
      by_cases h0r : 0 ≤ r
      · have e1 := ep.out
        have e2 := eq.out
        rw [if_pos h0r] at e1 e2
        clear ep eq hrp hrq
        subst e1 e2
        go_wp2_with fail
        go_ret
        exact ⟨by simp, hfin.out⟩
      · have e1 := ep.out
        have e2 := eq.out
        rw [if_neg h0r] at e1 e2
        rw [← HN.out] at e2
        have e3 : r = -1 := by omega
        clear ep eq hrp hrq
        subst e1 e2 e3
        go_wp2_with fail
        go_ret
        exact ⟨by simp, hfin.out⟩
    · go_wp2_with fail
      go_ret
      exact ⟨rfl, Below.refl _ _⟩
  · go_enter Try.func6, Try.ntmps6
    go_wp2_with fail
    refine (bytes18_any _ ss _ hv.out (by rw [← HN.out]; exact hl) hsz.out).mono ?_
    rintro e w' ⟨⟨r, rfl⟩, rfl⟩
    cases r <;>
    · go_wp2_with fail
      go_ret
      exact ⟨rfl, Below.refl _ _⟩
end Go.Proofs.Qxb6605371a
