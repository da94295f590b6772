import Derived.Test.Qxb6605371aText
import Derived.Test.Qxb6605371aShelf
import Derived.Deep.DeepCutAuto
import Derived.Deep.CutBlock
namespace Go.Proofs.Qxb6605371a
open Go.ChangeShapes Go.WideShapes Go.ChangeAt Go.RowKit

/-- a string of bytes -/
def S (l : List UInt8) : ByteArray := ⟨l.toArray⟩
theorem S_data (l : List UInt8) : (S l).data.toList = l := by simp [S]
theorem S_size (l : List UInt8) : (S l).size = l.length := by show (l.toArray).size = _; simp

theorem repeat_nls (n : Nat) : Lib.repeatL [10] n = nls n := by
  have := Lib.repeatL_replicate 10 1 n
  simpa [nls] using this

/-- strings.Repeat of a line break -/
theorem rep_any (z : Int) (n : Nat) (w : World) (h0 : z = n) (h1 : n ≤ 2097152) :
    Calls Try.prog 23 #[.string ⟨#[10]⟩, .int .i64 z] w fun e w' => e = .returned (.string (S (nls n))) ∧ Below w.heap.size w w' := by
  subst h0
  refine (Try.strings_Repeat ⟨#[10]⟩ n w (by omega) (by show 1 * n ≤ _; omega)).mono ?_
  rintro e w' ⟨rfl, hb⟩
  refine ⟨?_, hb⟩
  rw [← repeat_nls]
  rfl

/-- THE BUILDER IN BLOCK b HOLDS THE BYTES l. -/
def Bld (b : Nat) (l : List UInt8) (w : World) : Prop := Lib.IsBuilder 35 5 b b (Lib.byteCells l) w

theorem Bld.lt {b : Nat} {l : List UInt8} {w : World} (h : Bld b l w) : b < w.heap.size := by
  rcases h with h | h <;> exact h.lt

theorem Bld.below {b : Nat} {l : List UInt8} {w w' : World} (h : Bld b l w) (hb : Below w.heap.size w w') : Bld b l w' := by
  have hlt := h.lt
  have hg : w.grownBy w' none := ⟨hb.os, hb.tape, hb.output, hb.size, fun k hk _ => hb.block k hk⟩
  rcases h with h | h
  · obtain ⟨h1, v, h2, h3, h4⟩ := h
    exact .inl ⟨h1, v, by rw [hb.block b hlt]; exact h2, h3.kept hg (by cases hv : v.ownBlock with | none => exact .inl rfl | some _ => exact .inr (by simp)), h4⟩
  · obtain ⟨h1, v, h2, h3, h4⟩ := h
    exact .inr ⟨h1, v, by rw [hb.block b hlt]; exact h2, h3.kept hg (by cases hv : v.ownBlock with | none => exact .inl rfl | some _ => exact .inr (by simp)), h4⟩

theorem wstr_any (b : Nat) (l : List UInt8) (s : ByteArray) (w : World) (h : Bld b l w) (hlen : l.length + s.size ≤ 8388608) :
    Calls Try.prog 22 #[.pointer (some ⟨b, 0, none⟩), .string s] w fun e w' => e = .returned (.tuple #[.int .i64 s.size, .nilIface]) ∧ Bld b (l ++ s.data.toList) w' ∧ Below b w w' := by
  refine (Try.Builder_WriteString b b (Lib.byteCells l) s w h (by rw [Lib.byteCells_length]; omega) (Nat.le_of_lt h.lt)).mono ?_
  rintro e w' ⟨rfl, h1, h2⟩
  refine ⟨rfl, .inr ?_, h2⟩
  rw [Lib.byteCells_append]
  exact h1

theorem wbyte_any (b : Nat) (l : List UInt8) (x : UInt8) (z : Int) (w : World) (h : Bld b l w) (hz : z = x.toNat) (hlen : l.length ≤ 8388608) :
    Calls Try.prog 25 #[.pointer (some ⟨b, 0, none⟩), .int .u8 z] w fun e w' => e = .returned .nilIface ∧ Bld b (l ++ [x]) w' ∧ Below b w w' := by
  subst hz
  refine (Try.Builder_WriteByte b b (Lib.byteCells l) x.toNat w h (by rw [Lib.byteCells_length]; omega) (Nat.le_of_lt h.lt)).mono ?_
  rintro e w' ⟨rfl, h1, h2⟩
  refine ⟨rfl, .inr ?_, h2⟩
  rw [Lib.byteCells_append]
  exact h1

theorem bstr_any (b : Nat) (l : List UInt8) (w : World) (h : Bld b l w) :
    Calls Try.prog 26 #[.pointer (some ⟨b, 0, none⟩)] w fun e w' => e = .returned (.string (S l)) ∧ Below b w w' :=
  Try.Builder_String_any b b l w h (Nat.le_of_lt h.lt)

theorem Bld.fresh (w : World) : Bld w.heap.size [] (w.alloc (.cells #[.pointer none, .slice none 0 0] 35)) :=
  .inl ⟨Nat.le_refl _, .slice none 0 0, heap_alloc_new w _, World.ownsRow_nil _ _ _ _, by simp [Value.ownBlock]⟩

theorem tot_mono (ss : List ByteArray) {a b : Nat} (h : a ≤ b) : tot ss a ≤ tot ss b := by
  induction b with
  | zero => rw [show a = 0 by omega]; exact Nat.le_refl _
  | succ b ih =>
    rcases Nat.lt_or_eq_of_le h with h' | h'
    · exact Nat.le_trans (ih (by omega)) (by show _ ≤ tot ss b + _; omega)
    · rw [h']; exact Nat.le_refl _

theorem gap_head {ss : List ByteArray} {f : Bool} {p : Int} {k q : Nat} (h : p < 0) (hq : (k : Int) - p - 1 = q) : gap ss f p k = nls q := by
  rw [gap, if_pos h, hq, Int.toNat_natCast]
theorem gap_break {ss : List ByteArray} {f : Bool} {p k q : Nat} (h2 : (!f || spB (at' ss k) || spB (at' ss p)) = true) (hq : (k : Int) - p - 1 = q) : gap ss f p k = nls (q + 1) := by
  rw [gap, if_neg (by omega), if_pos (by rw [Int.toNat_natCast]; exact h2), hq]
  rfl
theorem gap_blank {ss : List ByteArray} {f : Bool} {p k : Nat} (h2 : (!f || spB (at' ss k) || spB (at' ss p)) = false) (h3 : (k : Int) - p - 1 = 0) : gap ss f p k = [32] := by
  rw [gap, if_neg (by omega), if_neg (by rw [Int.toNat_natCast, h2]; decide), if_pos h3]
theorem gap_fold {ss : List ByteArray} {f : Bool} {p k q : Nat} (h2 : (!f || spB (at' ss k) || spB (at' ss p)) = false) (hq : (k : Int) - p - 1 = q) (h3 : 0 < q) : gap ss f p k = nls q := by
  rw [gap, if_neg (by omega), if_neg (by rw [Int.toNat_natCast, h2]; decide), if_neg (by omega), hq, Int.toNat_natCast]

theorem nls_size (q : Nat) : (S (nls q)).size = q := by
  rw [S_size]; simp [nls]

theorem tail_none {ch : Int} {br : Nat} {l : Int} (h : ch = 45 ∨ (l < 0 ∧ ch = 0)) : tail ch br l = [] := by rw [tail, if_pos h]
theorem tail_keep {ch : Int} {br : Nat} {l : Int} (h : ch = 43) : tail ch br l = nls br := by rw [tail, if_neg (by omega), if_pos h]
theorem tail_one {ch : Int} {br : Nat} {l : Int} (h : ¬ (ch = 45 ∨ (l < 0 ∧ ch = 0))) (h2 : ¬ ch = 43) (h3 : 0 < br) : tail ch br l = [10] := by rw [tail, if_neg h, if_neg h2, if_pos h3]
theorem tail_zero {ch : Int} {br : Nat} {l : Int} (h : ¬ (ch = 45 ∨ (l < 0 ∧ ch = 0))) (h2 : ¬ ch = 43) (h3 : ¬ 0 < br) : tail ch br l = [] := by rw [tail, if_neg h, if_neg h2, if_neg h3]

set_option maxRecDepth 100000 in
set_option maxHeartbeats 1000000 in
theorem block_row (b o n c : Nat) (ss : List ByteArray) (br : Nat) (f : Bool) (ch : Int) (w : World) (HN : Hid (n = ss.length)) (hnc : n ≤ c) (hl : n ≤ 65536) (ht : Hid (tot ss n ≤ 1048576)) (hbr : br ≤ 65536)
    (HC : Hid (∀ i, i < n → w.cell? ⟨b, o + i, none⟩ = some (.string (at' ss i)))) :
    Calls Try.prog 19 #[.slice (some ⟨b, o, none⟩) n c, .int .i64 br, .bool f, .int .u8 ch] w fun e w' => ∃ last, IsLast ss last ∧ e = .returned (.string ⟨(text ss f ch br last).toArray⟩) ∧ Below w.heap.size w w' := by
  go_enter Try.func19, Try.ntmps19
  go_upto_block 0 with fail
  go_cut [9] (fun t wx => w = wx ∧ ∃ x, t = .int .i64 x ∧ Hid (IsLast ss x))
  case first =>
    go_wp2_with fail
    go_loop [9] (fun t => ∃ x : Int, t = .int .i64 x ∧ -1 ≤ x ∧ x < n ∧ Hid (∀ i : Nat, x < i → i < n → (at' ss i).size = 0)) (fun t => (intOf t + 1).toNat)
    case atStart => exact ⟨_, rfl, by omega, by omega, fun i h1 h2 => by omega⟩
    case round =>
      obtain ⟨x, rfl, hx1, hx2, HX⟩ := hrel
      by_cases hx : 0 ≤ x
      · obtain ⟨k, rfl⟩ : ∃ k : Nat, x = k := ⟨x.toNat, by omega⟩
        have hcell := HC.out k (by omega)
        by_cases hs : (at' ss k).size = 0
        · have hnil := nil_of_size _ hs
          have HS := hid hs
          clear hs
          go_wp2
          go_round
          case rel => exact ⟨_, rfl, by omega, by omega, fun i h1 h2 => by rcases Int.lt_or_eq_of_le (show (k : Int) ≤ i by omega) with h | h; exact HX.out i h h2; rw [show i = k by omega]; exact HS.out⟩
          case measure => simp [intOf]
        · have hnn := ne_nil_of_size (at' ss k) (by omega)
          have hne := isEmpty_of_size (at' ss k) (by omega)
          have HS := hid hs
          clear hs
          go_wp2
          go_meet
          exact ⟨rfl, _, rfl, .inr ⟨k, rfl, by rw [← HN.out]; omega, by have := HS.out; omega⟩, fun i h1 h2 => HX.out i h1 (by rw [HN.out]; exact h2)⟩
      · obtain rfl : x = -1 := by omega
        go_wp2
        go_meet
        exact ⟨rfl, _, rfl, .inl rfl, fun i h1 h2 => HX.out i h1 (by rw [HN.out]; exact h2)⟩
  case rest =>
    obtain ⟨rfl, x, rfl, HL⟩ := hcut
    have hx := HL.out.bounds
    rw [← HN.out] at hx
    obtain ⟨m, rfl⟩ : ∃ m : Nat, x = (m : Int) - 1 := ⟨(x + 1).toNat, by omega⟩
    have hm : m ≤ n := by omega
    clear hx
    go_upto_region 7 with fail
    go_loopw [11, 34] (fun p i wr => ∃ k : Nat, k ≤ m ∧ i = .int .i64 k ∧ p = .int .i64 (bt ss f k).2 ∧ Hid (Bld w.heap.size (bt ss f k).1 wr) ∧ Hid (Below w.heap.size w wr)) (fun _ i _ => m - (intOf i).toNat)
    case atStart => exact ⟨0, Nat.zero_le _, rfl, rfl, Bld.fresh w, (Below.refl _ _).alloc (Nat.le_refl _) _⟩
    case round =>
      obtain ⟨k, hk, rfl, rfl, HB, HBel⟩ := hrel
      by_cases hlt : k < m
      · have hcell := (HBel.out.cell (p := ⟨b, o + k, none⟩) (World.block_lt_of_cell? _ _ (HC.out k (by omega)))).trans (HC.out k (by omega))
        by_cases hs : (at' ss k).size = 0
        · have hnil := nil_of_size _ hs
          have HS := hid (bt_skip (folded := f) hs)
          clear hs
          go_wp2
          go_roundw
          case rel => exact ⟨k + 1, by omega, by go_num, by rw [HS.out], by rw [HS.out]; exact HB, HBel⟩
          case measure => simp [intOf]; omega
        · have hnn := ne_nil_of_size (at' ss k) (by omega)
          have hne := isEmpty_of_size (at' ss k) (by omega)
          have HS := hid (bt_text (folded := f) (show 0 < (at' ss k).size by omega))
          have hp := bt_prev ss f k
          have hble := bt_le ss f k
          generalize (bt ss f k).1 = out at *
          generalize (bt ss f k).2 = p at *
          have htk := Nat.le_trans (tot_mono ss (show k ≤ n by omega)) ht.out
          have htk1 := Nat.le_trans (tot_mono ss (show k + 1 ≤ n by omega)) ht.out
          have hsk : (at' ss k).size ≤ 1048576 := by have e : tot ss (k + 1) = tot ss k + (at' ss k).size := rfl; omega
          obtain ⟨hp1, hp2, _⟩ := hp
          have hout : out.length ≤ 1114112 := by omega
          have HK : Hid (tot ss k ≤ 1048576) := htk
          clear hs hble htk htk1
          go_upto_block 4 with fail
          go_cut [] (fun wx => Hid (Bld w.heap.size (out ++ gap ss f p k) wx) ∧ Hid (Below w.heap.size w wx))
          case first =>
            obtain ⟨q, hq⟩ : ∃ q : Nat, (k : Int) - p - 1 = q := ⟨((k : Int) - p - 1).toNat, by omega⟩
            have HQ := hid hq
            have hq2 : q ≤ 65536 := by omega
            have hz := nls_size q
            have hz1 := nls_size (q + 1)
            have HZ := hid (And.intro hz hz1)
            clear hq hz hz1
            by_cases hp : p < 0
            · go_wp2_with fail
              refine (rep_any _ q _ HQ.out (by omega)).mono ?_
              rintro e w1 ⟨rfl, hb1⟩
              have H1 := hid (HB.out.below hb1)
              have HB1 := hid (HBel.out.trans (hb1.mono HBel.out.size))
              clear hb1
              go_wp2_with fail
              refine (wstr_any _ _ _ _ H1.out (by rw [HZ.out.1]; omega)).mono ?_
              rintro e w2 ⟨rfl, hb2, hb3⟩
              have H2 := hid hb2
              have HB2 := hid (HB1.out.trans hb3)
              clear hb2 hb3
              go_wp2_with fail
              go_meet
              exact ⟨by show Bld _ _ _; rw [gap_head hp HQ.out]; have h := H2.out; rw [S_data] at h; exact h, HB2⟩
            · obtain ⟨P, rfl⟩ : ∃ P : Nat, p = P := ⟨p.toNat, by omega⟩
              have hcP := (HBel.out.cell (p := ⟨b, o + P, none⟩) (World.block_lt_of_cell? _ _ (HC.out P (by omega)))).trans (HC.out P (by omega))
              by_cases hbrk : (!f || spB (at' ss k) || spB (at' ss P)) = true
              · have HG := hid (gap_break hbrk HQ.out)
                cases f with
                | false =>
                  clear hbrk
                  go_wp2_with fail
                  refine (rep_any _ (q + 1) _ (by have := HQ.out; omega) (by omega)).mono ?_
                  rintro e w1 ⟨rfl, hb1⟩
                  have H1 := hid (HB.out.below hb1)
                  have HB1 := hid (HBel.out.trans (hb1.mono HBel.out.size))
                  clear hb1
                  go_wp2_with fail
                  refine (wstr_any _ _ _ _ H1.out (by rw [HZ.out.2]; omega)).mono ?_
                  rintro e w2 ⟨rfl, hb2, hb3⟩
                  have H2 := hid hb2
                  have HB2 := hid (HB1.out.trans hb3)
                  clear hb2 hb3
                  go_wp2_with fail
                  go_meet
                  exact ⟨by show Bld _ _ _; rw [HG.out]; have h := H2.out; rw [S_data] at h; exact h, HB2⟩
                | true =>
                  cases hsl : spB (at' ss k)
                  · have hsp : spB (at' ss P) = true := by simpa [hsl] using hbrk
                    clear hbrk
                    go_wp2_with fail
                    refine (spaced24 _ _).mono ?_
                    rw [hsl]
                    rintro e w' ⟨rfl, rfl⟩
                    go_wp2_with fail
                    refine (spaced24 _ _).mono ?_
                    rw [hsp]
                    rintro e w' ⟨rfl, rfl⟩
                    go_wp2_with fail
                    refine (rep_any _ (q + 1) _ (by have := HQ.out; omega) (by omega)).mono ?_
                    rintro e w1 ⟨rfl, hb1⟩
                    have H1 := hid (HB.out.below hb1)
                    have HB1 := hid (HBel.out.trans (hb1.mono HBel.out.size))
                    clear hb1
                    go_wp2_with fail
                    refine (wstr_any _ _ _ _ H1.out (by rw [HZ.out.2]; omega)).mono ?_
                    rintro e w2 ⟨rfl, hb2, hb3⟩
                    have H2 := hid hb2
                    have HB2 := hid (HB1.out.trans hb3)
                    clear hb2 hb3
                    go_wp2_with fail
                    go_meet
                    exact ⟨by show Bld _ _ _; rw [HG.out]; have h := H2.out; rw [S_data] at h; exact h, HB2⟩
                  · clear hbrk
                    go_wp2_with fail
                    refine (spaced24 _ _).mono ?_
                    rw [hsl]
                    rintro e w' ⟨rfl, rfl⟩
                    go_wp2_with fail
                    refine (rep_any _ (q + 1) _ (by have := HQ.out; omega) (by omega)).mono ?_
                    rintro e w1 ⟨rfl, hb1⟩
                    have H1 := hid (HB.out.below hb1)
                    have HB1 := hid (HBel.out.trans (hb1.mono HBel.out.size))
                    clear hb1
                    go_wp2_with fail
                    refine (wstr_any _ _ _ _ H1.out (by rw [HZ.out.2]; omega)).mono ?_
                    rintro e w2 ⟨rfl, hb2, hb3⟩
                    have H2 := hid hb2
                    have HB2 := hid (HB1.out.trans hb3)
                    clear hb2 hb3
                    go_wp2_with fail
                    go_meet
                    exact ⟨by show Bld _ _ _; rw [HG.out]; have h := H2.out; rw [S_data] at h; exact h, HB2⟩
              · have hbk2 : (!f || spB (at' ss k) || spB (at' ss P)) = false := by simpa using hbrk
                obtain ⟨⟨rfl, hsl⟩, hsp⟩ : (f = true ∧ spB (at' ss k) = false) ∧ spB (at' ss P) = false := by simpa using hbk2
                by_cases hq0 : k ≤ P + 1
                · have HG := hid (gap_blank hbk2 (by omega))
                  clear hbrk hbk2
                  go_wp2_with fail
                  refine (spaced24 _ _).mono ?_
                  rw [hsl]
                  rintro e w' ⟨rfl, rfl⟩
                  go_wp2_with fail
                  refine (spaced24 _ _).mono ?_
                  rw [hsp]
                  rintro e w' ⟨rfl, rfl⟩
                  go_wp2_with fail
                  refine (wbyte_any _ _ 32 _ _ HB.out rfl (by omega)).mono ?_
                  rintro e w2 ⟨rfl, hb2, hb3⟩
                  have H2 := hid hb2
                  have HB2 := hid (HBel.out.trans hb3)
                  clear hb2 hb3
                  go_wp2_with fail
                  go_meet
                  exact ⟨by show Bld _ _ _; rw [HG.out]; exact H2.out, HB2⟩
                · have HG := hid (gap_fold hbk2 HQ.out (by have := HQ.out; omega))
                  clear hbrk hbk2
                  go_wp2_with fail
                  refine (spaced24 _ _).mono ?_
                  rw [hsl]
                  rintro e w' ⟨rfl, rfl⟩
                  go_wp2_with fail
                  refine (spaced24 _ _).mono ?_
                  rw [hsp]
                  rintro e w' ⟨rfl, rfl⟩
                  go_wp2_with fail
                  refine (rep_any _ q _ HQ.out (by omega)).mono ?_
                  rintro e w1 ⟨rfl, hb1⟩
                  have H1 := hid (HB.out.below hb1)
                  have HB1 := hid (HBel.out.trans (hb1.mono HBel.out.size))
                  clear hb1
                  go_wp2_with fail
                  refine (wstr_any _ _ _ _ H1.out (by rw [HZ.out.1]; omega)).mono ?_
                  rintro e w2 ⟨rfl, hb2, hb3⟩
                  have H2 := hid hb2
                  have HB2 := hid (HB1.out.trans hb3)
                  clear hb2 hb3
                  go_wp2_with fail
                  go_meet
                  exact ⟨by show Bld _ _ _; rw [HG.out]; have h := H2.out; rw [S_data] at h; exact h, HB2⟩
          case rest =>
            obtain ⟨H2, HB2⟩ := hcut
            have hgl := gap_le ss f p k hp1 hp2
            clear HB HBel
            go_wp2_with fail
            refine (wstr_any _ _ _ _ H2.out (by rw [List.length_append]; omega)).mono ?_
            rintro e w3 ⟨rfl, hb2, hb3⟩
            have H3 := hid hb2
            have HB3 := hid (HB2.out.trans hb3)
            clear hb2 hb3 H2 HB2
            go_wp2_with fail
            go_roundw
            case rel => exact ⟨k + 1, by omega, by go_num, by rw [HS.out], by rw [HS.out]; exact H3, HB3⟩
            case measure => simp [intOf]; omega
      · obtain rfl : k = m := by omega
        have hble := bt_le ss f k
        have hp := bt_prev ss f k
        have htk := Nat.le_trans (tot_mono ss (show k ≤ n by omega)) ht.out
        have HT : Hid (text ss f ch br ((k : Int) - 1) = (bt ss f k).1 ++ tail ch br ((k : Int) - 1)) := by
          show _ = _
          rw [text, show ((k : Int) - 1 + 1).toNat = k by omega]
        generalize (bt ss f k).1 = out at *
        generalize (bt ss f k).2 = p at *
        have hout : out.length ≤ 1114112 := by omega
        clear hp htk hble
        go_upto_block 5 with fail
        go_cut [] (fun wx => Hid (Bld w.heap.size (out ++ tail ch br ((k : Int) - 1)) wx) ∧ Hid (Below w.heap.size w wx))
        case first =>
          by_cases h45 : ch = 45
          · have HX := hid (tail_none (br := br) (l := (k : Int) - 1) (.inl h45))
            subst h45
            go_wp2_with fail
            go_meet
            exact ⟨by show Bld _ _ _; rw [HX.out, List.append_nil]; exact HB.out, HBel⟩
          · by_cases hl0 : (k : Int) - 1 < 0 ∧ ch = 0
            · have HX := hid (tail_none (br := br) (l := (k : Int) - 1) (.inr hl0))
              obtain ⟨hk0, rfl⟩ := hl0
              go_wp2_with fail
              go_meet
              exact ⟨by show Bld _ _ _; rw [HX.out, List.append_nil]; exact HB.out, HBel⟩
            · by_cases h43 : ch = 43
              · have HX := hid (tail_keep (br := br) (l := (k : Int) - 1) h43)
                subst h43
                go_wp2_with fail
                all_goals
                  refine (rep_any _ br _ rfl (by omega)).mono ?_
                  rintro e w1 ⟨rfl, hb1⟩
                  have H1 := hid (HB.out.below hb1)
                  have HB1 := hid (HBel.out.trans (hb1.mono HBel.out.size))
                  clear hb1
                  go_wp2_with fail
                  refine (wstr_any _ _ _ _ H1.out (by rw [nls_size]; omega)).mono ?_
                  rintro e w2 ⟨rfl, hb2, hb3⟩
                  have H2 := hid hb2
                  have HB2 := hid (HB1.out.trans hb3)
                  clear hb2 hb3
                  go_wp2_with fail
                  go_meet
                  exact ⟨by show Bld _ _ _; rw [HX.out]; have h := H2.out; rw [S_data] at h; exact h, HB2⟩
              · by_cases hbr0 : 0 < br
                · have HX := hid (tail_one (br := br) (l := (k : Int) - 1) (by omega) h43 hbr0)
                  have hdec : ¬ ((k : Int) - 1 < 0) ∨ (ch == 0) = false := by
                    by_cases h : (k : Int) - 1 < 0
                    · exact .inr (by simp; omega)
                    · exact .inl h
                  clear hl0
                  rcases hdec with hd | hd
                  all_goals go_wp2_with fail
                  all_goals
                    refine (wbyte_any _ _ 10 _ _ HB.out rfl (by omega)).mono ?_
                    rintro e w2 ⟨rfl, hb2, hb3⟩
                    have H2 := hid hb2
                    have HB2 := hid (HBel.out.trans hb3)
                    clear hb2 hb3
                    go_wp2_with fail
                    go_meet
                    exact ⟨by show Bld _ _ _; rw [HX.out]; exact H2.out, HB2⟩
                · have HX := hid (tail_zero (br := br) (l := (k : Int) - 1) (by omega) h43 hbr0)
                  go_wp2_with fail
                  all_goals
                    go_meet
                    exact ⟨by show Bld _ _ _; rw [HX.out, List.append_nil]; exact HB.out, HBel⟩
        case rest =>
          obtain ⟨H2, HB2⟩ := hcut
          go_wp2_with fail
          refine (bstr_any _ _ _ H2.out).mono ?_
          rintro e w3 ⟨rfl, hb3⟩
          go_wp2_with fail
          go_ret
          exact ⟨_, HL.out, by rw [HT.out]; rfl, HB2.out.trans hb3⟩
end Go.Proofs.Qxb6605371a
