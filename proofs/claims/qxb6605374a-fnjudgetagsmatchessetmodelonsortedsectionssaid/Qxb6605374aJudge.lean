import Derived.Test.Qxb6605374aNextB
namespace Go.Proofs.Qxb6605374a
open Go.ChangeShapes Go.WideShapes Go.ChangeAt Go.RowKit

/-- 'a < b' on strings, as the model has it -/
def lessB (a b : ByteArray) : Bool := Op.bytesLess a.toList b.toList

/-- judgeTags over lists: none: it answers nil, false at once; else the others, and what of the stamp is left -/
def jd : List (ByteArray × Nat) → List (ByteArray × Nat) → Option (List (ByteArray × Nat) × List (ByteArray × Nat))
  | [], S => some ([], S)
  | t :: E, [] => (jd E []).map fun x => (t :: x.1, x.2)
  | t :: E, s :: S => if lessB s.1 t.1 = true then none else if (s.1.toList == t.1.toList) = true then (if s.2 = t.2 then jd E S else none) else (jd E (s :: S)).map fun x => (t :: x.1, x.2)

def tagCells (ts : List (ByteArray × Nat)) : List Value := ts.flatMap fun t => [.string t.1, .int .u64 t.2]

theorem tagCells_append (a b : List (ByteArray × Nat)) : tagCells (a ++ b) = tagCells a ++ tagCells b := by simp [tagCells]
theorem tagCells_length : ∀ ts : List (ByteArray × Nat), (tagCells ts).length = ts.length * 2
  | [] => rfl
  | t :: ts => by
    have h : tagCells (t :: ts) = .string t.1 :: .int .u64 t.2 :: tagCells ts := rfl
    rw [h]
    simp only [List.length_cons, tagCells_length ts]
    omega
theorem tagCells_get : ∀ (ts : List (ByteArray × Nat)) (i : Nat) (h : i < ts.length), (tagCells ts)[2 * i]? = some (.string ts[i].1) ∧ (tagCells ts)[2 * i + 1]? = some (.int .u64 ts[i].2)
  | t :: ts, 0, _ => ⟨rfl, rfl⟩
  | t :: ts, i + 1, h => by
    have e : tagCells (t :: ts) = .string t.1 :: .int .u64 t.2 :: tagCells ts := rfl
    obtain ⟨h1, h2⟩ := tagCells_get ts i (by simpa using h)
    rw [e, show 2 * (i + 1) = 2 * i + 1 + 1 by omega]
    simp only [List.getElem?_cons_succ, List.getElem_cons_succ]
    exact ⟨h1, h2⟩

/-- the i-th tag -/
def tg (ts : List (ByteArray × Nat)) (i : Nat) : ByteArray × Nat := ts.getD i (ByteArray.empty, 0)

/-- A SLICE OF TAGS IN MEMORY. -/
def Tags (w : World) (v : Value) (ts : List (ByteArray × Nat)) : Prop :=
  ∃ a c, v = .slice a ts.length c ∧ (0 < ts.length → ∃ b o, a = some ⟨b, o, none⟩ ∧ ∀ i, i < ts.length → w.cell? ⟨b, o + 2 * i, none⟩ = some (.string (tg ts i).1) ∧ w.cell? ⟨b, o + 2 * i + 1, none⟩ = some (.int .u64 (tg ts i).2))

theorem Tags.below {w w' : World} {v : Value} {ts : List (ByteArray × Nat)} (h : Tags w v ts) (hb : Below w.heap.size w w') : Tags w' v ts := by
  obtain ⟨a, c, rfl, h⟩ := h
  refine ⟨a, c, rfl, fun h0 => ?_⟩
  obtain ⟨b, o, rfl, hc⟩ := h h0
  exact ⟨b, o, rfl, fun i hi => ⟨(hb.cell (World.block_lt_of_cell? _ _ (hc i hi).1)).trans (hc i hi).1, (hb.cell (World.block_lt_of_cell? _ _ (hc i hi).2)).trans (hc i hi).2⟩⟩

theorem Tags.of_own {w : World} {base : Nat} {v : Value} {ts : List (ByteArray × Nat)} (h : w.ownsRow base 40 2 v ts.length (tagCells ts)) : ∃ a c, v = .slice a ts.length c ∧ Tags w (.slice a ts.length c) ts := by
  rcases h.2 with ⟨rfl, h0⟩ | ⟨g, cap, cur, rfl, _⟩
  · exact ⟨none, 0, by rw [h0], none, 0, rfl, fun h => by omega⟩
  · refine ⟨_, _, rfl, _, _, rfl, fun _ => ⟨g, 0, rfl, fun i hi => ?_⟩⟩
    obtain ⟨h1, h2⟩ := tagCells_get ts i hi
    rw [Nat.zero_add, h.cellAt (2 * i) (by omega), h.cellAt (2 * i + 1) (by omega), h1, h2]
    simp [tg, hi]

theorem Try.info40 : (Try.prog.info? 40).map (fun i => (i.zero, i.size, i.bytes)) = some (some (.agg #[.string ByteArray.empty, .int .u64 0]), 2, 24) := by kernel_rfl

theorem push_fold (l : List UInt8) : ∀ s : ByteArray, (l.map fun b => ((b.toNat : Nat) : Int)).foldl (fun r n => r.push (UInt8.ofNat n.toNat)) s = ⟨(s.data.toList ++ l).toArray⟩ := by
  induction l with
  | nil => intro s; simp
  | cons x l ih =>
    intro s
    rw [List.map_cons, List.foldl_cons, ih]
    have : (s.push (UInt8.ofNat ((x.toNat : Nat) : Int).toNat)).data.toList = s.data.toList ++ [x] := by
      simp [ByteArray.push]
    rw [this]
    simp

/-- string(b) of bytes in memory -/
theorem BRow.conv {w : World} {v : Value} {r : ByteArray} (h : BRow w v r) : (convert 23 9 v).run Try.prog w = .ok (.string r) w := by
  obtain ⟨a, c, rfl, h1, h2, h3⟩ := h
  rw [run_convert_bytes_string w 23 9 5 _ _ _ Try.underlying23 Try.underlying5 Try.underlying9]
  cases a with
  | none =>
    have h0 : r.size = 0 := by
      rcases Nat.eq_zero_or_pos r.size with h | h
      · exact h
      · obtain ⟨_, _, h4, _⟩ := h3 h; cases h4
    have e : r = ByteArray.empty := by
      apply ByteArray.ext
      exact Array.eq_empty_of_size_eq_zero h0
    rw [h0, e]
    simp [Conv.bytesToString]
  | some ad =>
    have hl : r.data.toList.length = r.size := Array.length_toList
    have hload : (loadCells ad r.size).run Try.prog w = .ok ((r.data.toList.map fun b => ((b.toNat : Nat) : Int)).map (Value.int .u8)).toArray w := by
      have := run_loadCells_list (P := Try.prog) (w := w) ad ((r.data.toList.map fun b => ((b.toNat : Nat) : Int)).map (Value.int .u8)) (fun j u hj => by
        have hlt : j < r.size := by have := (List.getElem?_eq_some_iff.1 hj).1; simpa using this
        obtain ⟨b, o, h4, hc⟩ := h3 (by omega)
        cases h4
        rw [Addr.add_lit, hc j hlt, ← hj]
        have e : r.data.toList[j]? = some r.data.toList[j] := List.getElem?_eq_getElem (by omega)
        simp only [byteN, List.getElem?_map, e, Option.map_some, Option.getD_some])
      simpa [hl] using this
    rw [run_bytesToString w ad r.size c _ hload, push_fold]
    congr 2

/-- how a slice's length is read off its value -/
def slen : Value → Nat | .slice _ n _ => n | _ => 0

/-- What judgeTags hands back. -/
def Judged (E S : List (ByteArray × Nat)) (B : Nat) (w : World) (e : Ending) (w' : World) : Prop :=
  ∃ (a : Option Addr) (c : Nat) (o : List (ByteArray × Nat)) (ok : Bool), e = .returned (.tuple #[.slice a o.length c, .bool ok]) ∧ Tags w' (.slice a o.length c) o ∧ Below B w w' ∧
    ((jd E S = none ∧ o = [] ∧ ok = false) ∨ ∃ S', jd E S = some (o, S') ∧ ok = S'.isEmpty)

theorem Judged.no {E S : List (ByteArray × Nat)} {B : Nat} {w w' : World} (h : jd E S = none) (hb : Below B w w') : Judged E S B w (.returned (.tuple #[.slice none 0 0, .bool false])) w' :=
  ⟨none, 0, [], false, rfl, ⟨none, 0, rfl, fun h => by simp at h⟩, hb, .inl ⟨h, rfl, rfl⟩⟩

abbrev Tg := ByteArray × Nat

theorem jd_nil (t : Tg) (E : List Tg) : jd (t :: E) [] = (jd E []).map fun x => (t :: x.1, x.2) := by rw [jd]
theorem jd_less {t s : Tg} {E S : List Tg} (h : lessB s.1 t.1 = true) : jd (t :: E) (s :: S) = none := by rw [jd, if_pos h]
theorem jd_gen {t s : Tg} {E S : List Tg} (h : lessB s.1 t.1 = false) (h2 : (s.1.toList == t.1.toList) = true) (h3 : ¬ s.2 = t.2) : jd (t :: E) (s :: S) = none := by
  rw [jd, if_neg (by rw [h]; decide), if_pos h2, if_neg h3]
theorem jd_same {t s : Tg} {E S : List Tg} (h : lessB s.1 t.1 = false) (h2 : (s.1.toList == t.1.toList) = true) (h3 : s.2 = t.2) : jd (t :: E) (s :: S) = jd E S := by
  rw [jd, if_neg (by rw [h]; decide), if_pos h2, if_pos h3]
theorem jd_other {t s : Tg} {E S : List Tg} (h : lessB s.1 t.1 = false) (h2 : (s.1.toList == t.1.toList) = false) : jd (t :: E) (s :: S) = (jd E (s :: S)).map fun x => (t :: x.1, x.2) := by
  rw [jd, if_neg (by rw [h]; decide), if_neg (by rw [h2]; decide)]

theorem jd_less' {n m : ByteArray} {g h : Nat} {E S : List Tg} (hl : Op.bytesLess m.toList n.toList = true) : jd ((n, g) :: E) ((m, h) :: S) = none := jd_less (t := (n, g)) (s := (m, h)) hl
theorem jd_gen' {n m : ByteArray} {g h : Nat} {E S : List Tg} (hl : Op.bytesLess m.toList n.toList = false) (h2 : (m.toList == n.toList) = true) (h3 : ¬ h = g) : jd ((n, g) :: E) ((m, h) :: S) = none := jd_gen (t := (n, g)) (s := (m, h)) hl h2 h3
theorem jd_same' {n m : ByteArray} {g h : Nat} {E S : List Tg} (hl : Op.bytesLess m.toList n.toList = false) (h2 : (m.toList == n.toList) = true) (h3 : h = g) : jd ((n, g) :: E) ((m, h) :: S) = jd E S := jd_same (t := (n, g)) (s := (m, h)) hl h2 h3
theorem jd_other' {n m : ByteArray} {g h : Nat} {E S : List Tg} (hl : Op.bytesLess m.toList n.toList = false) (h2 : (m.toList == n.toList) = false) : jd ((n, g) :: E) ((m, h) :: S) = (jd E ((m, h) :: S)).map fun x => ((n, g) :: x.1, x.2) := jd_other (t := (n, g)) (s := (m, h)) hl h2

theorem jd_push {E S E' S' acc : List Tg} {t : Tg} (h : jd E S = (jd (t :: E') S').map (fun x => (acc ++ x.1, x.2))) (h2 : jd (t :: E') S' = (jd E' S').map fun x => (t :: x.1, x.2)) : jd E S = (jd E' S').map (fun x => ((acc ++ [t]) ++ x.1, x.2)) := by
  rw [h, h2, Option.map_map]
  congr 1
  funext x
  simp

theorem own_below {w w' : World} {base e size : Nat} {v : Value} {n : Nat} {xs : List Value} (h : w.ownsRow base e size v n xs) (hb : Below w.heap.size w w') : w'.ownsRow base e size v n xs := by
  have hg : w.grownBy w' none := ⟨hb.os, hb.tape, hb.output, hb.size, fun k hk _ => hb.block k hk⟩
  exact h.kept hg (by cases hv : v.ownBlock with | none => exact .inl rfl | some _ => exact .inr (by simp))

/-- two cells of a new block -/
theorem news_two (w : World) (x y : Value) (t : TypeId) : ∀ (j : Nat) (u : Value), [x, y][j]? = some u → (w.alloc (.cells #[x, y] t)).cell? ((⟨w.heap.size, 0, none⟩ : Addr).add j) = some u := by
  intro j u hj
  match j, hj with
  | 0, hj => simp at hj; subst hj; simp [Addr.add]
  | 1, hj => simp at hj; subst hj; simp [Addr.add]

theorem tag_oneCell (s : ByteArray) (g : Nat) : ∀ u ∈ [Value.string s, Value.int .u64 g], u.oneCell' = true := by
  intro u hu
  simp at hu
  rcases hu with rfl | rfl <;> rfl

/-- behind an append of one tag -/
theorem tag_pushed {w w1 w2 : World} {base : Nat} {v v' : Value} {acc : List Tg} {t : Tg} {o : Obj} (hown : w1.ownsRow base 40 2 v acc.length (tagCells acc)) (hB : base ≤ w1.heap.size) (hbel : Below base w w1)
    (h2 : w2.ownsRow base 40 2 v' (acc.length + 1) (tagCells acc ++ [.string t.1, .int .u64 t.2])) (h3 : (w1.alloc o).grownBy w2 v.ownBlock) : w2.ownsRow base 40 2 v' (acc ++ [t]).length (tagCells (acc ++ [t])) ∧ Below base w w2 := by
  have hs := h3.size
  simp at hs
  refine ⟨?_, hbel.trans (((Below.refl base w1).alloc hB o).grown h3 (by simp; omega) fun k hk => (hown.lt k hk).1)⟩
  rw [tagCells_append, List.length_append]
  exact h2

set_option maxRecDepth 100000 in
set_option maxHeartbeats 1000000 in
theorem judge_core (a : Option Addr) (m c : Nat) (re st : ByteArray) (E S : List (ByteArray × Nat)) (w : World) (HM : Hid (m = re.size)) (hv : Hid (BRow w (.slice a m c) re)) (h1 : re.size ≤ 65536) (h2 : st.size ≤ 65536) (hE : Hid (Sec E re)) (hS : Hid (Sec S st)) :
    Calls Try.prog 19 #[.slice a m c, .string st] w fun e w' => Judged E S w.heap.size w e w' := by
  obtain ⟨i0, hi, hz0, hz1, hz2⟩ := info_parts Try.info40
  go_enter Try.func19, Try.ntmps19
  go_wp2_with fail
  go_loopw [0, 1, 4] (fun t0 t1 t4 wr => ∃ (a : Option Addr) (m c : Nat) (re st : ByteArray) (E' S' acc : List (ByteArray × Nat)), t0 = .slice a m c ∧ t1 = .string st ∧ Hid (m = re.size) ∧ Hid (BRow w (.slice a m c) re) ∧ re.size ≤ 65536 ∧ st.size ≤ 65536 ∧ Hid (Sec E' re) ∧ Hid (Sec S' st) ∧ Hid (wr.ownsRow w.heap.size 40 2 t4 acc.length (tagCells acc)) ∧ Hid (jd E S = (jd E' S').map (fun x => (acc ++ x.1, x.2))) ∧ 10 * acc.length + re.size ≤ 65536 ∧ Hid (Below w.heap.size w wr)) (fun t0 _ _ _ => slen t0)
  case atStart => exact ⟨a, m, c, re, st, E, S, [], rfl, rfl, HM, hv, h1, h2, hE, hS, World.ownsRow_nil _ _ _ _, by show _ = _; simp, by simpa using h1, Below.refl _ _⟩
  case round =>
    clear HM hv h1 h2 hE hS a m c re st
    obtain ⟨a, m, c, re, st, E', S', acc, rfl, rfl, HM, hv, h1, h2, hE, hS, HO, HJ, hacc, HB⟩ := hrel
    by_cases hm : 0 < m
    · obtain ⟨us, he, hok, hus⟩ := hE.out.pos (by rw [← HM.out]; exact hm)
      subst he
      have HOk := hidden hok
      have HUs := hidden hus
      clear hok hus
      have HW1 := hidden (hv.out.below HB.out)
      go_wp2_with fail
      refine (next_bytes _ re _ HW1.out HOk.out h1).mono ?_
      rintro e w1 ⟨v1, v3, rfl, hv1', hv3', hb1'⟩
      have HV1 := hidden hv1'
      have HB1 := hidden (HB.out.trans (hb1'.mono HB.out.size))
      have HO1 := hidden (own_below HO.out hb1')
      have hrs := rsB_size re HOk.out
      obtain ⟨a3, c3, hv3eq, _⟩ := hv3' w hv.out
      obtain ⟨m3, HM3⟩ : ∃ m3, Hid (m3 = (rsB re).size) := ⟨_, rfl⟩
      rw [← HM3.out] at hv3eq
      subst hv3eq
      have HV3 := hidden (hv3' w hv.out)
      have hm3 : (rsB re).size ≤ re.size - 10 := by omega
      have hacc2 : 10 * (acc.length + 1) + (rsB re).size ≤ 65536 := by have := HOk.out.2; omega
      have hmr : m3 < m := by rw [HM3.out, HM.out]; have := HOk.out.2; omega
      have HA := hidden hacc2
      clear hv1' hv3' hb1' hrs HW1 hE hacc2
      by_cases hst : 0 < st.size
      · obtain ⟨vs, hse, hsok, hvs⟩ := hS.out.pos hst
        subst hse
        have HSok := hidden hsok
        have HVs := hidden hvs
        have hrst := rsB_size st hsok
        have hrst2 : (rsB st).size ≤ 65536 := by omega
        clear hsok hvs hrst
        go_wp2_with fail
        refine (next_str st _ HSok h2).mono ?_
        rintro e w2 ⟨rfl, hb2'⟩
        have HB2 := hidden (HB1.out.trans (hb2'.mono HB1.out.size))
        have HO2 := hidden (own_below HO1.out hb2')
        have hconv := (HV1.out w2 (hv.out.below HB2.out)).conv
        clear hb2' HO1 HB1
        cases hls : Op.bytesLess (nmB st).toList (nmB re).toList
        · cases heq : ((nmB st).toList == (nmB re).toList)
          · have HJ2 : Hid (jd E S = (jd us ((nmB st, gnB st) :: vs)).map (fun x => ((acc ++ [(nmB re, gnB re)]) ++ x.1, x.2))) := jd_push HJ.out (jd_other' hls heq)
            have HOx := HO2
            have HBx := HB2
            go_wp2_with (at_builtin; refine wpList_append_own _ rfl _ _ 31 rfl w.heap.size 40 i0 (.agg #[.string ByteArray.empty, .int .u64 0]) 2 24 Try.underlying31 hi hz0 hz1 hz2 rfl (by decide) _ acc.length _ rfl (HOx.out.alloc _) ⟨w2.heap.size, 0, none⟩ 1 1 [.string (nmB re), .int .u64 (gnB re)] rfl rfl (news_two _ _ _ _) (tag_oneCell _ _) (by unfold maxLen; omega) (by omega) (by have := HBx.out.size; simp; omega) ?_; intro v5 w5 hown hgrow hnl)
            have hP := tag_pushed (t := (nmB re, gnB re)) HOx.out HBx.out.size HBx.out hown hgrow
            go_roundw
            case rel => exact ⟨a3, m3, c3, rsB re, st, us, _, acc ++ [(nmB re, gnB re)], rfl, rfl, HM3, HV3, by omega, h2, HUs, hS, hP.1, HJ2, by rw [List.length_append]; exact HA.out, hP.2⟩
            case measure => simp [slen]; have := HM3.out; have := HM.out; omega
          · by_cases hge : gnB st = gnB re
            · have HJ2 : Hid (jd E S = (jd us vs).map (fun x => (acc ++ x.1, x.2))) := by show _ = _; rw [HJ.out, jd_same' hls heq hge]
              have hgb : (((gnB st : Nat) : Int) != ((gnB re : Nat) : Int)) = false := by rw [hge]; simp
              have HG := hidden hge
              clear hge
              go_wp2_with fail
              go_roundw
              case rel => exact ⟨a3, m3, c3, rsB re, rsB st, us, vs, acc, rfl, rfl, HM3, HV3, by omega, hrst2, HUs, HVs, HO2, HJ2, by have := HA.out; omega, HB2⟩
              case measure => simp [slen]; have := HM3.out; have := HM.out; omega
            · have HN := hidden (show jd E S = none by rw [HJ.out, jd_gen' hls heq hge]; rfl)
              have hgb : (((gnB st : Nat) : Int) != ((gnB re : Nat) : Int)) = true := by simpa using (show ¬ ((gnB st : Nat) : Int) = ((gnB re : Nat) : Int) by omega)
              clear hge
              go_wp2_with fail
              go_ret2
              exact Judged.no HN.out HB2.out
        · have HN := hidden (show jd E S = none by rw [HJ.out, jd_less' hls]; rfl)
          go_wp2_with fail
          go_ret2
          exact Judged.no HN.out HB2.out
      · have HJ2 : Hid (jd E S = (jd us S').map (fun x => ((acc ++ [(nmB re, gnB re)]) ++ x.1, x.2))) := jd_push HJ.out (by rw [hS.out.zero (by omega)]; exact jd_nil _ _)
        have hconv := (HV1.out w1 (hv.out.below HB1.out)).conv
        have HOx := HO1
        have HBx := HB1
        go_wp2_with (at_builtin; refine wpList_append_own _ rfl _ _ 31 rfl w.heap.size 40 i0 (.agg #[.string ByteArray.empty, .int .u64 0]) 2 24 Try.underlying31 hi hz0 hz1 hz2 rfl (by decide) _ acc.length _ rfl (HOx.out.alloc _) ⟨w1.heap.size, 0, none⟩ 1 1 [.string (nmB re), .int .u64 (gnB re)] rfl rfl (news_two _ _ _ _) (tag_oneCell _ _) (by unfold maxLen; omega) (by omega) (by have := HBx.out.size; simp; omega) ?_; intro v5 w5 hown hgrow hnl)
        have hP := tag_pushed (t := (nmB re, gnB re)) HOx.out HBx.out.size HBx.out hown hgrow
        go_roundw
        case rel => exact ⟨a3, m3, c3, rsB re, st, us, _, acc ++ [(nmB re, gnB re)], rfl, rfl, HM3, HV3, by omega, h2, HUs, hS, hP.1, HJ2, by rw [List.length_append]; exact HA.out, hP.2⟩
        case measure => simp [slen]; have := HM3.out; have := HM.out; omega
    · obtain rfl : m = 0 := by omega
      have hE0 := hE.out.zero HM.out.symm
      subst hE0
      obtain ⟨a', c', e4, hT⟩ := Tags.of_own HO.out
      subst e4
      have HT := hidden hT
      clear hT
      have HJ2 : Hid (jd E S = some (acc, S')) := by show _ = _; rw [HJ.out]; simp [jd]
      have HS0 : Hid (((st.size : Int) == 0) = S'.isEmpty) := by
        show _ = _
        rcases Nat.eq_zero_or_pos st.size with h | h
        · rw [hS.out.zero h, h]; rfl
        · obtain ⟨vs, e, _⟩ := hS.out.pos h
          rw [e, beq_eq_false_iff_ne.2 (by omega)]; rfl
      go_wp2_with fail
      go_ret2
      exact ⟨a', c', acc, _, rfl, HT.out, HB.out, .inr ⟨S', HJ2.out, HS0.out⟩⟩
end Go.Proofs.Qxb6605374a
