import Derived.Test.Qxb6605374aParse
import Derived.Deep.RegionWith
import Derived.Lib.SliceRun
namespace Go.Proofs.Qxb6605374a
open Go.ChangeShapes Go.WideShapes Go.ChangeAt Go.RowKit

theorem tagname (s : ByteArray) (g : Nat) (w : World) :
    Calls Try.prog 16 #[.agg #[.string s, .int .u64 g]] w fun e w' => e = .returned (.string s) ∧ w' = w.alloc (.cells #[.string s, .int .u64 g] 40) := by
  go_enter Try.func16, Try.ntmps16
  go_wp2
  go_ret
  exact ⟨rfl, rfl⟩
theorem taggen (s : ByteArray) (g : Nat) (w : World) :
    Calls Try.prog 17 #[.agg #[.string s, .int .u64 g]] w fun e w' => e = .returned (.int .u64 g) ∧ w' = w.alloc (.cells #[.string s, .int .u64 g] 40) := by
  go_enter Try.func17, Try.ntmps17
  go_wp2
  go_ret
  exact ⟨rfl, rfl⟩

theorem zzjudge (a : Option Addr) (m c : Nat) (re st : ByteArray) (E S : List Tg) (w : World) (hm : m = re.size) (hv : BRow w (.slice a m c) re) (h1 : re.size ≤ 65536) (h2 : st.size ≤ 65536) (hE : Sec E re) (hS : Sec S st) :
    Calls Try.prog 11 #[.slice a m c, .string st] w fun e w' => Judged E S w.heap.size w e w' := by
  have HC := hidden (judge_core a m c re st E S w hm hv h1 h2 hE hS)
  clear hm hv hE hS
  go_enter Try.func11, Try.ntmps11
  go_wp2_with fail
  refine HC.out.mono ?_
  rintro e w' ⟨a', c', o, ok, rfl, h3, h4, h5⟩
  go_wp2_with fail
  go_ret2
  exact ⟨a', c', o, ok, rfl, h3, h4, h5⟩

/-! ### carries, namedIn -/
def carB (ts : List Tg) (nm : ByteArray) (g : Nat) : Bool := ts.any fun t => (t.1.toList == nm.toList) && (t.2 == g)

theorem tg_mem {ts : List Tg} {i : Nat} (h : i < ts.length) : tg ts i ∈ ts := by
  simp [tg, h]
theorem mem_tg {ts : List Tg} {t : Tg} (h : t ∈ ts) : ∃ i, i < ts.length ∧ tg ts i = t := by
  obtain ⟨i, hi, rfl⟩ := List.mem_iff_getElem.1 h
  exact ⟨i, hi, by simp [tg, hi]⟩

theorem carB_true {ts : List Tg} {nm : ByteArray} {g k : Nat} (hk : k < ts.length) (h1 : ((tg ts k).1.toList == nm.toList) = true) (h2 : (tg ts k).2 = g) : carB ts nm g = true := by
  rw [carB, List.any_eq_true]
  exact ⟨_, tg_mem hk, by simp [h1, h2]⟩
theorem carB_false {ts : List Tg} {nm : ByteArray} {g : Nat} (h : ∀ k, k < ts.length → ((tg ts k).1.toList == nm.toList && (tg ts k).2 == g) = false) : carB ts nm g = false := by
  rw [carB, List.any_eq_false]
  intro t ht
  obtain ⟨i, hi, rfl⟩ := mem_tg ht
  rw [h i hi]
  decide

set_option maxHeartbeats 400000 in
theorem carries_row (b1 o1 n c1 b2 o2 c2 : Nat) (ts : List Tg) (nm : ByteArray) (g : Nat) (w : World) (HN : Hid (n = ts.length)) (hl : n ≤ 65536)
    (H1 : Hid (∀ i, i < n → w.cell? ⟨b1, o1 + i, none⟩ = some (.string (tg ts i).1))) (H2 : Hid (∀ i, i < n → w.cell? ⟨b2, o2 + i, none⟩ = some (.int .u64 (tg ts i).2))) :
    Calls Try.prog 13 #[.slice (some ⟨b1, o1, none⟩) n c1, .slice (some ⟨b2, o2, none⟩) n c2, .string nm, .int .u64 g] w fun e w' => e = .returned (.bool (carB ts nm g)) ∧ w = w' := by
  obtain ⟨R, HR⟩ : ∃ R, Hid (carB ts nm g = R) := ⟨_, rfl⟩
  rw [HR.out]
  go_enter Try.func13, Try.ntmps13
  go_wp2_with fail
  go_loop [9] (fun i => ∃ k : Nat, k ≤ n ∧ i = .int .i64 k ∧ Hid (∀ j, j < k → ((tg ts j).1.toList == nm.toList && (tg ts j).2 == g) = false)) (fun i => n - (intOf i).toNat)
  case atStart => exact ⟨0, by omega, rfl, fun j hj => by omega⟩
  case round =>
    obtain ⟨k, hk, rfl, HK⟩ := hrel
    by_cases hlt : k < n
    · have hc1 := H1.out k hlt
      have hc2 := H2.out k hlt
      cases h1 : ((tg ts k).1.toList == nm.toList)
      · have HK2 : Hid (∀ j, j < k + 1 → ((tg ts j).1.toList == nm.toList && (tg ts j).2 == g) = false) := fun j hj => by
          rcases Nat.lt_succ_iff_lt_or_eq.1 hj with h | h
          · exact HK.out j h
          · rw [h, h1]; rfl
        go_wp2_with fail
        go_round
        case rel => exact ⟨k + 1, by omega, by go_num, HK2⟩
        case measure => simp [intOf]; omega
      · by_cases hg : (tg ts k).2 = g
        · have HT : Hid (R = true) := by show _ = _; rw [← HR.out]; exact carB_true (by rw [← HN.out]; exact hlt) h1 hg
          have hgb : ((((tg ts k).2 : Nat) : Int) == (g : Int)) = true := by rw [hg]; simp
          clear hg
          go_wp2_with fail
          go_ret
          exact ⟨by rw [HT.out]; rfl, rfl⟩
        · have hgb : ((((tg ts k).2 : Nat) : Int) == (g : Int)) = false := by simpa using (show ¬ (((tg ts k).2 : Nat) : Int) = (g : Int) by omega)
          have HK2 : Hid (∀ j, j < k + 1 → ((tg ts j).1.toList == nm.toList && (tg ts j).2 == g) = false) := fun j hj => by
            rcases Nat.lt_succ_iff_lt_or_eq.1 hj with h | h
            · exact HK.out j h
            · rw [h, h1]; simpa using hg
          clear hg
          go_wp2_with fail
          go_round
          case rel => exact ⟨k + 1, by omega, by go_num, HK2⟩
          case measure => simp [intOf]; omega
    · have HF : Hid (R = false) := by show _ = _; rw [← HR.out]; exact carB_false (fun j hj => HK.out j (by rw [← HN.out] at hj; omega))
      go_wp2_with fail
      go_ret
      exact ⟨by rw [HF.out]; rfl, rfl⟩

theorem carries_nil (a1 a2 : Option Addr) (c1 c2 : Nat) (nm : ByteArray) (g : Nat) (w : World) :
    Calls Try.prog 13 #[.slice a1 0 c1, .slice a2 0 c2, .string nm, .int .u64 g] w fun e w' => e = .returned (.bool false) ∧ w = w' := by
  go_enter Try.func13, Try.ntmps13
  go_wp2_with fail
  go_loop [9] (fun i => i = .int .i64 0) (fun _ => 0)
  case atStart => rfl
  case round =>
    subst hrel
    go_wp2_with fail
    go_ret
    exact ⟨rfl, rfl⟩

theorem carries_any (a1 a2 : Option Addr) (n c1 c2 : Nat) (ts : List Tg) (nm : ByteArray) (g : Nat) (w : World) (hn : n = ts.length) (hl : n ≤ 65536) (h1 : NamesOf w (.slice a1 n c1) ts) (h2 : GensOf w (.slice a2 n c2) ts) :
    Calls Try.prog 13 #[.slice a1 n c1, .slice a2 n c2, .string nm, .int .u64 g] w fun e w' => e = .returned (.bool (carB ts nm g)) ∧ w = w' := by
  subst hn
  obtain ⟨_, _, e1, h1⟩ := h1
  obtain ⟨_, _, e2, h2⟩ := h2
  cases e1; cases e2
  by_cases h0 : 0 < ts.length
  · obtain ⟨b1, o1, rfl, hc1⟩ := h1 h0
    obtain ⟨b2, o2, rfl, hc2⟩ := h2 h0
    exact carries_row b1 o1 _ c1 b2 o2 c2 ts nm g w rfl hl hc1 hc2
  · have e0 : ts.length = 0 := by omega
    have e1 : ts = [] := List.eq_nil_of_length_eq_zero e0
    rw [e0, show carB ts nm g = false by rw [e1]; rfl]
    exact carries_nil a1 a2 c1 c2 nm g w

/-! ### othersAre, where they are -/
theorem others_nil (a1 a2 a3 : Option Addr) (c1 c2 c3 : Nat) (w : World) :
    Calls Try.prog 14 #[.slice a1 0 c1, .slice a2 0 c2, .slice a3 0 c3] w fun e w' => e = .returned (.bool true) ∧ w = w' := by
  go_enter Try.func14, Try.ntmps14
  go_wp2_with fail
  go_loop [7] (fun i => i = .int .i64 0) (fun _ => 0)
  case atStart => rfl
  case round =>
    subst hrel
    go_wp2_with fail
    go_ret
    exact ⟨rfl, rfl⟩

set_option maxHeartbeats 1000000 in
theorem others_row (b1 o1 n c1 b2 o2 c2 b3 o3 c3 : Nat) (ts : List Tg) (w : World) (hl : n ≤ 65536)
    (H1 : Hid (∀ i, i < n → w.cell? ⟨b1, o1 + 2 * i, none⟩ = some (.string (tg ts i).1) ∧ w.cell? ⟨b1, o1 + 2 * i + 1, none⟩ = some (.int .u64 (tg ts i).2))) (H2 : Hid (∀ i, i < n → w.cell? ⟨b2, o2 + i, none⟩ = some (.string (tg ts i).1))) (H3 : Hid (∀ i, i < n → w.cell? ⟨b3, o3 + i, none⟩ = some (.int .u64 (tg ts i).2))) :
    Calls Try.prog 14 #[.slice (some ⟨b1, o1, none⟩) n c1, .slice (some ⟨b2, o2, none⟩) n c2, .slice (some ⟨b3, o3, none⟩) n c3] w fun e w' => e = .returned (.bool true) ∧ Below w.heap.size w w' := by
  go_enter Try.func14, Try.ntmps14
  go_wp2_with fail
  go_loopw [7] (fun i wr => ∃ k : Nat, k ≤ n ∧ i = .int .i64 k ∧ Hid (Below w.heap.size w wr)) (fun i _ => n - (intOf i).toNat)
  case atStart => exact ⟨0, by omega, rfl, Below.refl _ _⟩
  case round =>
    obtain ⟨k, hk, rfl, HB⟩ := hrel
    by_cases hlt : k < n
    · have hx : ∀ (p : Addr) (v : Value), w.cell? p = some v → wr.cell? p = some v ∧ ∀ o, (wr.alloc o).cell? p = some v := fun p v hp => by
        have h1 : wr.cell? p = some v := (HB.out.cell (World.block_lt_of_cell? _ _ hp)).trans hp
        exact ⟨h1, fun o => by rw [World.cell?_alloc_lt _ _ _ (World.block_lt_of_cell? _ _ h1)]; exact h1⟩
      obtain ⟨ca, ca'⟩ := hx _ _ (H1.out k hlt).1
      obtain ⟨cb, cb'⟩ := hx _ _ (H1.out k hlt).2
      rw [Nat.mul_comm 2 k] at ca cb
      simp only [Nat.mul_comm 2 k] at ca' cb'
      obtain ⟨cc, cc'⟩ := hx _ _ (H2.out k hlt)
      obtain ⟨cd, cd'⟩ := hx _ _ (H3.out k hlt)
      clear hx
      have hn0 : (0 : Int) ≤ (k : Int) := by omega
      have hn1 : (k : Int) < (n : Int) := by omega
      go_upto_region 6 with fail
      go_cut [28] (fun t wx => t = .bool false ∧ Hid (Below wr.heap.size wr wx))
      case first =>
        go_region_with (go_at_call 16; refine (tagname _ _ _).mono ?_; rintro e w' ⟨rfl, rfl⟩)
        all_goals
          go_wp2_with fail
          go_meet
          exact ⟨by simp, by show Below _ _ _; repeat (first | exact Below.refl _ _ | apply Below.drew | refine Below.alloc ?_ (Nat.le_refl _) _)⟩
      case rest =>
        obtain ⟨rfl, HB1⟩ := hcut
        have HB2 := hidden (HB.out.trans (HB1.out.mono HB.out.size))
        clear ca ca' cb cb' cc cc' cd cd' HB1 HB
        have hx : ∀ (p : Addr) (v : Value), w.cell? p = some v → wc.cell? p = some v ∧ ∀ o, (wc.alloc o).cell? p = some v := fun p v hp => by
          have h1 : wc.cell? p = some v := (HB2.out.cell (World.block_lt_of_cell? _ _ hp)).trans hp
          exact ⟨h1, fun o => by rw [World.cell?_alloc_lt _ _ _ (World.block_lt_of_cell? _ _ h1)]; exact h1⟩
        obtain ⟨ca, ca'⟩ := hx _ _ (H1.out k hlt).1
        obtain ⟨cb, cb'⟩ := hx _ _ (H1.out k hlt).2
        rw [Nat.mul_comm 2 k] at ca cb
        simp only [Nat.mul_comm 2 k] at ca' cb'
        obtain ⟨cd, cd'⟩ := hx _ _ (H3.out k hlt)
        clear hx
        go_upto_region 8 with fail
        go_cut [38] (fun t wx => t = .bool false ∧ Hid (Below wc.heap.size wc wx))
        case first =>
          go_region_with (go_at_call 17; refine (taggen _ _ _).mono ?_; rintro e w' ⟨rfl, rfl⟩)
          all_goals
            go_wp2_with fail
            go_meet
            exact ⟨by simp, by show Below _ _ _; repeat (first | exact Below.refl _ _ | apply Below.drew | refine Below.alloc ?_ (Nat.le_refl _) _)⟩
        case rest =>
          obtain ⟨rfl, HB3⟩ := hcut
          have HB4 := hidden (HB2.out.trans (HB3.out.mono HB2.out.size))
          clear ca ca' cb cb' cd cd' HB3 HB2
          go_wp2_with fail
          go_roundw
          case rel => exact ⟨k + 1, by omega, by go_num, HB4⟩
          case measure => simp [intOf]; omega
    · go_wp2_with fail
      go_ret
      exact ⟨rfl, HB.out⟩
end Go.Proofs.Qxb6605374a
