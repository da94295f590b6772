import Derived.Test.Qxb6605371aCloneN
import Derived.Test.Qxb6605371aBlockNil
import Derived.Test.Qxb6605371aOut
import Derived.Deep.QuietTactic
import Derived.BigQuiet
import Derived.RegionTactic
namespace Go.Proofs.Qxb6605371a
open Go.ChangeShapes Go.WideShapes Go.ChangeAt Go.RowKit

theorem bytes12_nil (a : Option Addr) (c : Nat) (x1 : Int) (x2 : Bool) (w : World) :
    Calls Try.prog 12 #[.slice a 0 c, .int .i64 x1, .bool x2] w fun e w' => IsBool e ∧ w = w' := by
  go_enter Try.func12, Try.ntmps12
  go_wp2
  go_loop [7, 8] (fun n i => i = .int .i64 0 ∧ n = .int .i64 0) (fun _ _ => 0)
  case atStart => exact ⟨rfl, rfl⟩
  case round =>
    obtain ⟨rfl, rfl⟩ := hrel
    go_wp2
    go_ret
    exact ⟨⟨_, rfl⟩, rfl⟩

set_option maxHeartbeats 400000 in
theorem bytes12_row (b o n c : Nat) (ss : List ByteArray) (x1 : Int) (x2 : Bool) (w : World) (hl : n ≤ maxLen) (hsz : ∀ i, (at' ss i).size ≤ maxLen)
    (hc : ∀ i, i < n → w.cell? ⟨b, o + i, none⟩ = some (.string (at' ss i))) :
    Calls Try.prog 12 #[.slice (some ⟨b, o, none⟩) n c, .int .i64 x1, .bool x2] w fun e w' => IsBool e ∧ w = w' := by
  unfold maxLen at hl
  by_cases h1 : n ≤ 1048576
  · go_enter Try.func12, Try.ntmps12
    go_wp2
    go_loop [7, 8] (fun t i => ∃ k m : Nat, k ≤ n ∧ i = .int .i64 k ∧ t = .int .i64 m ∧ m ≤ 1048576) (fun _ i => n - (intOf i).toNat)
    case atStart => exact ⟨0, n, Nat.zero_le _, rfl, by go_num, by omega⟩
    case round =>
      obtain ⟨k, m, hk, rfl, rfl, hm⟩ := hrel
      by_cases hlt : k < n
      · have hcell := hc k hlt
        have hsk := hsz k
        unfold maxLen at hsk
        clear hc
        by_cases h2 : (at' ss k).size ≤ 1048576
        · by_cases h3 : m + (at' ss k).size ≤ 1048576
          · go_wp2
            go_round
            case rel => exact ⟨k + 1, m + (at' ss k).size, by omega, by go_num, by go_num, by omega⟩
            case measure => simp [intOf]; omega
          · go_wp2
            go_ret
            exact ⟨⟨_, rfl⟩, rfl⟩
        · go_wp2
          go_ret
          exact ⟨⟨_, rfl⟩, rfl⟩
      · go_wp2
        go_ret
        exact ⟨⟨_, rfl⟩, rfl⟩
  · go_enter Try.func12, Try.ntmps12
    go_wp2
    go_ret
    exact ⟨⟨_, rfl⟩, rfl⟩

theorem bytes12_any (v : Value) (ss : List ByteArray) (x1 : Int) (x2 : Bool) (w : World) (hv : Strs w v ss) (hl : ss.length ≤ maxLen) (hsz : ∀ i, (at' ss i).size ≤ maxLen) :
    Calls Try.prog 12 #[v, .int .i64 x1, .bool x2] w fun e w' => IsBool e ∧ w = w' := by
  obtain ⟨a, c, rfl, h⟩ := hv
  by_cases h0 : 0 < ss.length
  · obtain ⟨b, o, rfl, hc⟩ := h h0
    exact bytes12_row b o _ c ss x1 x2 w hl hsz hc
  · have e0 : ss.length = 0 := by omega
    rw [e0]
    exact bytes12_nil a c x1 x2 w


/-! ### zzNewlinesB1 -/
def Filled (n k : Nat) (xs : List Value) : Prop := xs.length = n ∧ ∀ j, j < k → xs[j]? = some (.int .u8 10)

theorem Filled.step {n k : Nat} {xs : List Value} (h : Filled n k xs) (hk : k < n) : Filled n (k + 1) (xs.set k (.int .u8 10)) := by
  refine ⟨by simpa using h.1, fun j hj => ?_⟩
  rw [List.getElem?_set]
  split
  · rename_i e; subst e; rw [if_pos (by rw [h.1]; omega)]
  · exact h.2 j (by omega)

theorem Filled.all {n : Nat} {xs : List Value} (h : Filled n n xs) : xs = Lib.byteCells (nls n) := by
  apply List.ext_getElem?
  intro j
  by_cases hj : j < n
  · rw [h.2 j hj]
    simp [Lib.byteCells, nls, hj]
  · rw [List.getElem?_eq_none (by rw [h.1]; omega), List.getElem?_eq_none (by rw [Lib.byteCells_length]; simp [nls]; omega)]

set_option maxHeartbeats 400000 in
theorem newlines_nat (n : Nat) (w : World) (hn : n ≤ 65536) :
    Calls Try.prog 13 #[.int .i64 n] w fun e w' => e = .returned (.string (S (nls n))) ∧ Below w.heap.size w w' := by
  obtain ⟨i0, hi, hz0, hz1, hz2⟩ := info_parts Try.info5
  go_enter Try.func13, Try.ntmps13
  go_wp2_with (first
    | (at_make; refine wpList_make_full _ rfl _ _ 32 rfl w.heap.size 5 i0 (.int .u8 0) 1 Try.underlying32 hi hz0 hz1 _ _ _ _ n rfl rfl rfl rfl (by rw [hz2]; omega) (by unfold maxLen; omega) (Nat.le_refl _) ?_; intro w1 hown hgrow))
  clear hi hz0 hz1 hz2
  have hbel : Below w.heap.size w w1 := (Below.refl _ _).grown hgrow (Nat.le_refl _) (fun k h => by cases h)
  have hcp : Filled n 0 (madeCells (Value.int .u8 0).cells (n * 1)).toList := ⟨by simpa using hown.1, fun j hj => by omega⟩
  clear hgrow
  go_loopw [4] (fun i wr => ∃ (k : Nat) (xs : List Value), k ≤ n ∧ i = .int .i64 k ∧ wr.ownsRow w.heap.size 5 1 (.slice (some ⟨w.heap.size, 0, none⟩) n n) n xs ∧ Filled n k xs ∧ Below w.heap.size w wr) (fun i _ => n - (intOf i).toNat)
  case atStart => exact ⟨0, _, Nat.zero_le _, rfl, hown, hcp, hbel⟩
  case round =>
    clear hown hcp hbel
    obtain ⟨k, xs, hk, rfl, hown, hcp, hbel⟩ := hrel
    by_cases hlt : k < n
    · have hcell2 : (wr.cell? ⟨w.heap.size, k, none⟩).isSome = true := by rw [hown.cellAt k (by omega)]; simp [hcp.1, hlt]
      have hfz := hown.frozenAt k
      obtain ⟨old, hold⟩ := Option.isSome_iff_exists.1 hcell2
      have HS := hown.stored k (.int .u8 10)
      have hcp' := hcp.step hlt
      clear hcell2 hown hcp
      go_wp2
      go_roundw
      case rel => exact ⟨k + 1, _, by omega, by go_num, HS.1, hcp', hbel.setCell (Nat.le_refl _) _⟩
      case measure => simp [intOf]; omega
    · obtain rfl : k = n := by omega
      have hx := hcp.all
      subst hx
      have hO : Out w.heap.size (.slice (some ⟨w.heap.size, 0, none⟩) k k) (nls k) wr := ⟨hbel.size, by rw [show (nls k).length = k by simp [nls]]; exact hown, by simp⟩
      have hconv := hO.conv
      have HB := hid hbel
      clear hO hown hcp hbel
      go_wp2
      go_ret
      exact ⟨rfl, HB.out⟩

theorem newlines_any (z : Int) (n : Nat) (w : World) (hz : z = n) (hn : n ≤ 65536) :
    Calls Try.prog 13 #[.int .i64 z] w fun e w' => e = .returned (.string (S (nls n))) ∧ Below w.heap.size w w' := by
  subst hz
  exact newlines_nat n w hn

/-! ### zzHasSuffixB1 -/
theorem drewN_below {B : Nat} {a w : World} (h : Below B a w) (n : Nat) : Below B a (w.drewN n) := h.trans ⟨rfl, rfl, rfl, Nat.le_refl _, fun _ _ => rfl⟩

/-- the i-th byte, as a number -/
def byteAt (s : ByteArray) (i : Nat) : Int := ((s.data.toList[i]?.getD 0).toNat : Int)

theorem run_index_at (s : ByteArray) (i : Nat) (h : i < s.size) (w : World) : (Instr.index 9 (.string s) (.int .i64 (i : Int))).run Try.prog w = .ok (.int .u8 (byteAt s i)) w := by
  rw [run_index_string w 9 s .i64 i Try.underlying9, dif_pos (by omega)]
  have e : s.data.toList[i]? = some s[i] := by rw [List.getElem?_eq_getElem (by simpa using h)]; rfl
  simp [byteAt, e]

set_option maxHeartbeats 400000 in
theorem suffix_any (s t : ByteArray) (off : Nat) (w : World) (hs : s.size ≤ 8388608) (hst : Hid (s.size = off + t.size)) (hb : Hid (∀ k, k < t.size → s.data.toList[off + k]? = t.data.toList[k]?)) :
    Calls Try.prog 14 #[.string s, .string t] w fun e w' => e = .returned (.bool true) ∧ Below w.heap.size w w' := by
  have h1 : t.size ≤ s.size := by have := hst.out; omega
  have hoff : (s.size : Int) - t.size = off := by have := hst.out; omega
  have hd0 : decide (s.size < t.size) = false := decide_eq_false (by omega)
  clear hoff
  go_enter Try.func14, Try.ntmps14
  go_wp2
  go_loopw [6] (fun i wr => ∃ k : Nat, k ≤ t.size ∧ i = .int .i64 k ∧ Hid (Below w.heap.size w wr)) (fun i _ => t.size - (intOf i).toNat)
  case atStart => exact ⟨0, Nat.zero_le _, rfl, Below.refl _ _⟩
  case round =>
    obtain ⟨k, hk, rfl, HB⟩ := hrel
    by_cases hlt : k < t.size
    · have hsz : off + k < s.size := by have := hst.out; omega
      have hwr : IntKind.i64.wrap ((s.size : Int) - t.size + k) = ((off + k : Nat) : Int) := by
        have := hst.out
        rw [IntKind.wrap_i64]
        omega
      have hidx := run_index_at s (off + k) hsz
      have hidx2 := run_index_at t k hlt
      rw [show ((off + k : Nat) : Int) = (off : Int) + k by omega] at hidx
      have hbe : (byteAt s (off + k) != byteAt t k) = false := by unfold byteAt; rw [hb.out k hlt]; simp
      go_wp2
      go_quiet (fail)
      go_wp2
      go_roundw
      case rel => exact ⟨k + 1, by omega, by go_num, drewN_below HB.out _⟩
      case measure => simp [intOf]; omega
    · go_wp2
      go_ret
      exact ⟨rfl, HB.out⟩

theorem S_append (a b : List UInt8) : S a ++ S b = S (a ++ b) := by
  apply ByteArray.ext
  simp [S]

/-- 'x' is the last line of text among the first k, or -1 -/
def LastIn (ss : List ByteArray) (k : Nat) (x : Int) : Prop :=
  (x = -1 ∨ ∃ j : Nat, x = j ∧ j < k ∧ 0 < (at' ss j).size) ∧ ∀ i : Nat, x < i → i < k → (at' ss i).size = 0

theorem LastIn.skip {ss : List ByteArray} {k : Nat} {x : Int} (h : LastIn ss k x) (hs : (at' ss k).size = 0) : LastIn ss (k + 1) x := by
  refine ⟨?_, fun i h1 h2 => ?_⟩
  · rcases h.1 with h | ⟨j, h1, h2, h3⟩
    · exact .inl h
    · exact .inr ⟨j, h1, by omega, h3⟩
  · rcases Nat.lt_succ_iff_lt_or_eq.1 h2 with h' | h'
    · exact h.2 i h1 h'
    · rw [h']; exact hs
theorem LastIn.text {ss : List ByteArray} {k : Nat} (hs : 0 < (at' ss k).size) : LastIn ss (k + 1) k :=
  ⟨.inr ⟨k, rfl, by omega, hs⟩, fun i h1 h2 => by omega⟩
theorem LastIn.bounds {ss : List ByteArray} {k : Nat} {x : Int} (h : LastIn ss k x) : -1 ≤ x ∧ x < k := by
  rcases h.1 with rfl | ⟨j, rfl, hj, _⟩ <;> omega


theorem bt_last {ss : List ByteArray} {f : Bool} {k : Nat} (hs : 0 < (at' ss k).size) : ∃ X, (bt ss f (k + 1)).1 = X ++ (at' ss k).data.toList := ⟨_, by rw [bt_text hs]⟩

set_option maxRecDepth 100000 in
set_option maxHeartbeats 1000000 in
theorem chomp_core (a : Option Addr) (n c : Nat) (br : Int) (f : Bool) (ss : List ByteArray) (w : World) (hv : Hid (Strs w (.slice a n c) ss)) (h0 : Hid (a = none → c = 0)) (HN : Hid (n = ss.length)) (hl : n ≤ maxLen) (hsz : Hid (∀ i, (at' ss i).size ≤ maxLen)) :
    Calls Try.prog 4 #[.slice a n c, .int .i64 br, .bool f] w fun e w' => e = .returned (.bool true) ∧ Below w.heap.size w w' := by
  unfold maxLen at hl
  by_cases h1 : n ≤ 65536
  · go_enter Try.func4, Try.ntmps4
    go_wp2_with fail
    refine (bytes12_any _ ss _ _ _ hv.out (by rw [← HN.out]; exact hl) hsz.out).mono ?_
    rintro e w' ⟨⟨r, rfl⟩, rfl⟩
    cases r
    · go_wp2_with fail
      go_ret
      exact ⟨rfl, Below.refl _ _⟩
    go_wp2_with fail
    refine (b1_any _ ss _ hv.out (by rw [← HN.out]; exact hl) hsz.out).mono ?_
    rintro e w' ⟨⟨m, rfl, hm'⟩, rfl⟩
    have HT := hid hm'
    clear hm'
    by_cases hm : m ≤ 1048576
    · have ht := hid (HT.out hm)
      by_cases hbr : 0 ≤ br ∧ br ≤ 65536
      · obtain ⟨q, rfl⟩ : ∃ q : Nat, br = q := ⟨br.toNat, by omega⟩
        obtain ⟨hb1, hb2⟩ := hbr
        go_wp2_with fail
        refine (clone_n _ _ _ ss _ hv.out HN.out h0.out h1).mono ?_
        rintro e w1 ⟨a1, rfl, hv1', ha1', hb1'⟩
        have hv1 := hid hv1'
        have ha1 := hid ha1'
        have HB1 := hid hb1'
        clear hv1' hb1' ha1'
        go_upto_block 0 with fail
        go_cut [7] (fun t wx => w1 = wx ∧ ∃ x, t = .int .i64 x ∧ Hid (IsLast ss x))
        case first =>
          rcases ha1.out with rfl | ⟨b, rfl⟩
          · obtain rfl : n = 0 := by
              obtain ⟨a2, c2, h2, hcc⟩ := hv1.out
              rcases Nat.eq_zero_or_pos ss.length with h | h
              · rw [HN.out]; exact h
              · obtain ⟨_, _, h3, _⟩ := hcc h
                subst h3
                cases h2
            have HL0 := hid HN.out.symm
            go_wp2_with fail
            go_loop [7, 8] (fun t i => i = .int .i64 0 ∧ t = .int .i64 (-1)) (fun _ _ => 0)
            case atStart => exact ⟨rfl, rfl⟩
            case round =>
              obtain ⟨rfl, rfl⟩ := hrel
              go_wp2_with fail
              go_meet
              exact ⟨rfl, -1, rfl, .inl rfl, fun i h1 h2 => by have := HL0.out; omega⟩
          · have HC : Hid (∀ i, i < n → w1.cell? ⟨b, 0 + i, none⟩ = some (.string (at' ss i))) := fun i hi => by
              obtain ⟨a2, c2, h2, hcc⟩ := hv1.out
              rw [HN.out] at hi
              obtain ⟨b', o', h3, hc⟩ := hcc (by omega)
              subst h3
              cases h2
              exact hc i hi
            go_wp2_with fail
            go_loop [7, 8] (fun t i => ∃ (k : Nat) (x : Int), k ≤ n ∧ i = .int .i64 k ∧ t = .int .i64 x ∧ Hid (LastIn ss k x)) (fun _ i => n - (intOf i).toNat)
            case atStart => exact ⟨0, -1, by omega, rfl, rfl, .inl rfl, fun i _ h => by omega⟩
            case round =>
              obtain ⟨k, x, hk, rfl, rfl, HX⟩ := hrel
              by_cases hlt : k < n
              · have hcell := HC.out k hlt
                rw [Nat.zero_add] at hcell
                by_cases hs : (at' ss k).size = 0
                · have hnil := nil_of_size _ hs
                  have HS := hid hs
                  clear hs
                  go_wp2_with fail
                  go_round
                  case rel => exact ⟨k + 1, x, by omega, by go_num, rfl, HX.out.skip HS.out⟩
                  case measure => simp [intOf]; omega
                · have hnn := ne_nil_of_size (at' ss k) (by omega)
                  have hne := isEmpty_of_size (at' ss k) (by omega)
                  have HS := hid (LastIn.text (show 0 < (at' ss k).size by omega))
                  clear hs
                  go_wp2_with fail
                  go_round
                  case rel => exact ⟨k + 1, k, by omega, by go_num, rfl, HS⟩
                  case measure => simp [intOf]; omega
              · go_wp2_with fail
                go_meet
                have hkn : k = ss.length := by have := HN.out; omega
                subst hkn
                exact ⟨rfl, x, rfl, HX.out⟩
        case rest =>
          obtain ⟨rfl, x, rfl, HL⟩ := hcut
          obtain ⟨T, HTt⟩ : ∃ T, Hid ((bt ss f (x + 1).toNat).1 = T) := ⟨_, rfl⟩
          have htx : ∀ ch, text ss f ch q x = T ++ tail ch q x := fun ch => by rw [text, HTt.out]
          have E45 : Hid (text ss f 45 q x = T) := by show _ = _; rw [htx, tail_none (.inl rfl), List.append_nil]
          have E43 : Hid (text ss f 43 q x = T ++ nls q) := by show _ = _; rw [htx, tail_keep rfl]
          have E0 := hid (htx 0)
          clear htx
          go_wp2_with fail
          refine (zzblock_any _ _ ss q f 45 _ hv1.out HN.out h1 (by rw [HN.out]; exact ht.out) (by omega) ha1.out).mono ?_
          rintro e w2 ⟨l1, hl1, rfl, hb2'⟩
          rw [hl1.one HL.out, E45.out]
          have hv2 := hid (hv1.out.below hb2')
          have HB2 := hid (HB1.out.trans (hb2'.mono HB1.out.size))
          clear hl1 hb2'
          go_wp2_with fail
          refine (zzblock_any _ _ ss q f 43 _ hv2.out HN.out h1 (by rw [HN.out]; exact ht.out) (by omega) ha1.out).mono ?_
          rintro e w3 ⟨l1, hl1, rfl, hb2'⟩
          rw [hl1.one HL.out, E43.out]
          have hv3 := hid (hv2.out.below hb2')
          have HB3 := hid (HB2.out.trans (hb2'.mono HB2.out.size))
          clear hl1 hb2' HB2
          go_wp2_with fail
          refine (zzblock_any _ _ ss q f 0 _ hv3.out HN.out h1 (by rw [HN.out]; exact ht.out) (by omega) ha1.out).mono ?_
          rintro e w4 ⟨l1, hl1, rfl, hb2'⟩
          rw [hl1.one HL.out, E0.out]
          have hv4 := hid (hv3.out.below hb2')
          have HB4 := hid (HB3.out.trans (hb2'.mono HB3.out.size))
          clear hl1 hb2' HB3
          go_wp2_with fail
          refine (newlines_any _ q _ rfl (by omega)).mono ?_
          rintro e w5 ⟨rfl, hb2'⟩
          have hv5 := hid (hv4.out.below hb2')
          have HB5 := hid (HB4.out.trans (hb2'.mono HB4.out.size))
          clear hb2' HB4
          have hx := HL.out.bounds
          rw [← HN.out] at hx
          have hTl : T.length ≤ 1114112 := by
            have h1 := bt_le ss f (x + 1).toNat
            have h2 := bt_prev ss f (x + 1).toNat
            have h3 := Nat.le_trans (tot_mono ss (show (x + 1).toNat ≤ n by omega)) (by rw [HN.out]; exact ht.out)
            rw [HTt.out] at h1
            omega
          have hzT : (S T).size ≤ 1114112 := by rw [S_size]; exact hTl
          have hz : ∀ y, (S (nls y)).size = y := nls_size
          have hk1 : ((S (T ++ nls q)).toList == (S T ++ S (nls q)).toList) = true := by rw [S_append]; simp
          have hsum : ¬ 9223372036854775807 < (S T).size + (S (nls q)).size := by rw [hz q]; omega
          clear hz
          by_cases hx0 : x < 0
          · obtain rfl : x = -1 := by omega
            have hT0 : T = [] := HTt.out.symm
            have hc0 : tail 0 q (-1) = [] := tail_none (.inr ⟨by omega, rfl⟩)
            have hS0 : (S T).toList = [] := by rw [hT0, ByteArray.toList_eq]; rfl
            have hS1 : (S (T ++ tail 0 q (-1))).toList = [] := by rw [hc0, List.append_nil, hT0, ByteArray.toList_eq]; rfl
            clear hT0 hc0 hx
            go_wp2_with fail
            go_ret
            exact ⟨rfl, HB5.out⟩
          · obtain ⟨lst, rfl⟩ : ∃ lst : Nat, x = lst := ⟨x.toNat, by omega⟩
            have HLt : 0 < (at' ss lst).size := by
              rcases HL.out.1 with h | ⟨j, h, _, h3⟩
              · omega
              · obtain rfl : lst = j := by omega
                exact h3
            obtain ⟨X, hX⟩ := bt_last (f := f) HLt
            have hTX : T = X ++ (at' ss lst).data.toList := by rw [← hX, ← HTt.out]; rfl
            have hzl : (at' ss lst).data.toList.length = (at' ss lst).size := Array.length_toList
            have HS1 : Hid ((S T).size = X.length + (at' ss lst).size) := by show _ = _; rw [S_size, hTX, List.length_append, hzl]
            have HS2 : Hid (∀ k, k < (at' ss lst).size → (S T).data.toList[X.length + k]? = (at' ss lst).data.toList[k]?) := fun k hk => by
              rw [S_data, hTX, List.getElem?_append_right (by omega)]
              congr 1
              omega
            obtain ⟨b, hcl⟩ : ∃ b, a1 = some ⟨b, 0, none⟩ ∧ w5.cell? ⟨b, lst, none⟩ = some (.string (at' ss lst)) := by
              obtain ⟨a2, c2, h2, hcc⟩ := hv5.out
              obtain ⟨b', o', h3, hc⟩ := hcc (by rw [← HN.out]; omega)
              subst h3
              cases h2
              rcases ha1.out with h | ⟨b, h⟩
              · cases h
              · cases h
                exact ⟨_, rfl, by have := hc lst (by have := HN.out; omega); rw [Nat.zero_add] at this; exact this⟩
            obtain ⟨rfl, hcell⟩ := hcl
            clear hX hTX hzl HLt
            have hlt : (lst : Int) < n := by omega
            go_wp2_with fail
            refine (suffix_any _ _ X.length _ (by omega) HS1 HS2).mono ?_
            rintro e w6 ⟨rfl, hb6⟩
            have HB6 := hid (HB5.out.trans (hb6.mono HB5.out.size))
            clear hb6 HB5 hk1 hsum hcell
            by_cases hq0 : 0 < q
            · have htl : tail 0 q (lst : Int) = nls 1 := tail_one (by omega) (by omega) hq0
              have hk3 : ((S (T ++ nls 1)).toList == (S T ++ S (nls 1)).toList) = true := by rw [S_append]; simp
              have hsum : ¬ 9223372036854775807 < (S T).size + (S (nls 1)).size := by rw [nls_size 1]; omega
              go_wp2_with fail
              refine (newlines_any _ 1 _ rfl (by omega)).mono ?_
              rintro e w7 ⟨rfl, hb7⟩
              have HB7 := hid (HB6.out.trans (hb7.mono HB6.out.size))
              clear hb7
              go_wp2_with fail
              go_ret
              exact ⟨rfl, HB7.out⟩
            · have htl : tail 0 q (lst : Int) = nls 0 := tail_zero (by omega) (by omega) hq0
              have hk3 : ((S (T ++ nls 0)).toList == (S T ++ S (nls 0)).toList) = true := by rw [S_append]; simp
              have hsum : ¬ 9223372036854775807 < (S T).size + (S (nls 0)).size := by rw [nls_size 0]; omega
              go_wp2_with fail
              refine (newlines_any _ 0 _ rfl (by omega)).mono ?_
              rintro e w7 ⟨rfl, hb7⟩
              have HB7 := hid (HB6.out.trans (hb7.mono HB6.out.size))
              clear hb7
              go_wp2_with fail
              go_ret
              exact ⟨rfl, HB7.out⟩
      · by_cases hb0 : br < 0
        · go_wp2_with fail
          go_ret
          exact ⟨rfl, Below.refl _ _⟩
        · have hb2 : 65536 < br := by omega
          go_wp2_with fail
          go_ret
          exact ⟨rfl, Below.refl _ _⟩
    · go_wp2_with fail
      go_ret
      exact ⟨rfl, Below.refl _ _⟩
  · go_enter Try.func4, Try.ntmps4
    go_wp2_with fail
    refine (bytes12_any _ ss _ _ _ hv.out (by rw [← HN.out]; exact hl) hsz.out).mono ?_
    rintro e w' ⟨⟨r, rfl⟩, rfl⟩
    cases r <;>
    · go_wp2_with fail
      go_ret
      exact ⟨rfl, Below.refl _ _⟩
end Go.Proofs.Qxb6605371a
