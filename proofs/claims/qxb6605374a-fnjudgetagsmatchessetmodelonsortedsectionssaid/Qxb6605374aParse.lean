import Derived.Test.Qxb6605374aJudge
namespace Go.Proofs.Qxb6605374a
open Go.ChangeShapes Go.WideShapes Go.ChangeAt Go.RowKit

/-- A SLICE OF THE TAGS' NAMES. -/
def NamesOf (w : World) (v : Value) (ts : List Tg) : Prop :=
  ∃ a c, v = .slice a ts.length c ∧ (0 < ts.length → ∃ b o, a = some ⟨b, o, none⟩ ∧ ∀ i, i < ts.length → w.cell? ⟨b, o + i, none⟩ = some (.string (tg ts i).1))
/-- A SLICE OF THE TAGS' GENERATIONS. -/
def GensOf (w : World) (v : Value) (ts : List Tg) : Prop :=
  ∃ a c, v = .slice a ts.length c ∧ (0 < ts.length → ∃ b o, a = some ⟨b, o, none⟩ ∧ ∀ i, i < ts.length → w.cell? ⟨b, o + i, none⟩ = some (.int .u64 (tg ts i).2))

theorem NamesOf.below {w w' : World} {v : Value} {ts : List Tg} (h : NamesOf w v ts) (hb : Below w.heap.size w w') : NamesOf w' v ts := by
  obtain ⟨a, c, rfl, h⟩ := h
  refine ⟨a, c, rfl, fun h0 => ?_⟩
  obtain ⟨b, o, rfl, hc⟩ := h h0
  exact ⟨b, o, rfl, fun i hi => (hb.cell (World.block_lt_of_cell? _ _ (hc i hi))).trans (hc i hi)⟩
theorem GensOf.below {w w' : World} {v : Value} {ts : List Tg} (h : GensOf w v ts) (hb : Below w.heap.size w w') : GensOf w' v ts := by
  obtain ⟨a, c, rfl, h⟩ := h
  refine ⟨a, c, rfl, fun h0 => ?_⟩
  obtain ⟨b, o, rfl, hc⟩ := h h0
  exact ⟨b, o, rfl, fun i hi => (hb.cell (World.block_lt_of_cell? _ _ (hc i hi))).trans (hc i hi)⟩

def nameCells (ts : List Tg) : List Value := ts.map fun t => .string t.1
def genCells (ts : List Tg) : List Value := ts.map fun t => .int .u64 t.2

theorem NamesOf.of_own {w : World} {base : Nat} {v : Value} {ts : List Tg} (h : w.ownsRow base 9 1 v ts.length (nameCells ts)) : ∃ a c, v = .slice a ts.length c ∧ NamesOf w (.slice a ts.length c) ts := by
  rcases h.2 with ⟨rfl, h0⟩ | ⟨g, cap, cur, rfl, _⟩
  · exact ⟨none, 0, by rw [h0], none, 0, rfl, fun h => by omega⟩
  · refine ⟨_, _, rfl, _, _, rfl, fun _ => ⟨g, 0, rfl, fun i hi => ?_⟩⟩
    rw [Nat.zero_add, h.cellAt i (by omega)]
    simp [nameCells, tg, hi]
theorem GensOf.of_own {w : World} {base : Nat} {v : Value} {ts : List Tg} (h : w.ownsRow base 35 1 v ts.length (genCells ts)) : ∃ a c, v = .slice a ts.length c ∧ GensOf w (.slice a ts.length c) ts := by
  rcases h.2 with ⟨rfl, h0⟩ | ⟨g, cap, cur, rfl, _⟩
  · exact ⟨none, 0, by rw [h0], none, 0, rfl, fun h => by omega⟩
  · refine ⟨_, _, rfl, _, _, rfl, fun _ => ⟨g, 0, rfl, fun i hi => ?_⟩⟩
    rw [Nat.zero_add, h.cellAt i (by omega)]
    simp [genCells, tg, hi]

/-- two owned rows of different element types lie apart -/
theorem own_ne {w : World} {base e e' s s' : Nat} {v v' : Value} {n n' : Nat} {xs ys : List Value} (h : w.ownsRow base e s v n xs) (k : w.ownsRow base e' s' v' n' ys) (hne : e ≠ e') : v.ownBlock = none ∨ v.ownBlock ≠ v'.ownBlock := by
  rcases h.2 with ⟨rfl, _⟩ | ⟨g, cap, cur, rfl, _, hg, _⟩
  · exact .inl rfl
  · rcases k.2 with ⟨rfl, _⟩ | ⟨g', cap', cur', rfl, _, hg', _⟩
    · exact .inr (by simp [Value.ownBlock])
    · refine .inr fun hh => ?_
      simp only [Value.ownBlock, Option.some.injEq] at hh
      subst hh
      rw [hg] at hg'
      simp only [Option.some.injEq, Obj.cells.injEq] at hg'
      exact hne hg'.2.1

theorem Try.info9 : (Try.prog.info? 9).map (fun i => (i.zero, i.size, i.bytes)) = some (some (.string ByteArray.empty), 1, 16) := by kernel_rfl
theorem Try.info35 : (Try.prog.info? 35).map (fun i => (i.zero, i.size, i.bytes)) = some (some (.int .u64 0), 1, 8) := by kernel_rfl

/-- how long a string is -/
def ssize : Value → Nat | .string s => s.size | _ => 0

/-- behind an append of one cell -/
theorem one_pushed {w w1 w2 : World} {base e : Nat} {v v' : Value} {n : Nat} {xs : List Value} {x : Value} {o : Obj} (hown : w1.ownsRow base e 1 v n xs) (hB : base ≤ w1.heap.size) (hbel : Below base w w1)
    (_h2 : w2.ownsRow base e 1 v' (n + 1) (xs ++ [x])) (h3 : (w1.alloc o).grownBy w2 v.ownBlock) : Below base w w2 := by
  have hs := h3.size
  simp at hs
  exact hbel.trans (((Below.refl base w1).alloc hB o).grown h3 (by simp; omega) fun k hk => (hown.lt k hk).1)

theorem nameCells_snoc (ts : List Tg) (t : Tg) : nameCells (ts ++ [t]) = nameCells ts ++ [.string t.1] := by simp [nameCells]
theorem genCells_snoc (ts : List Tg) (t : Tg) : genCells (ts ++ [t]) = genCells ts ++ [.int .u64 t.2] := by simp [genCells]

/-- What tagSectionParse hands back. -/
def Parsed (st : ByteArray) (B : Nat) (w : World) (e : Ending) (w' : World) : Prop :=
  (e = .returned (.tuple #[.slice none 0 0, .slice none 0 0, .bool false]) ∧ Below B w w') ∨
  ∃ (ts : List Tg) (a1 : Option Addr) (c1 : Nat) (a2 : Option Addr) (c2 : Nat), e = .returned (.tuple #[.slice a1 ts.length c1, .slice a2 ts.length c2, .bool true]) ∧ Sec ts st ∧ NamesOf w' (.slice a1 ts.length c1) ts ∧ GensOf w' (.slice a2 ts.length c2) ts ∧ Below B w w'

theorem Sec.grow {ts : List Tg} {r st : ByteArray} (h : ∀ us, Sec us r → Sec (ts ++ us) st) (hok : Ok1 r) : ∀ us, Sec us (rsB r) → Sec ((ts ++ [(nmB r, gnB r)]) ++ us) st := by
  intro us hus
  have := h ((nmB r, gnB r) :: us) ⟨hok, rfl, hus⟩
  simpa using this

set_option maxRecDepth 100000 in
set_option maxHeartbeats 1000000 in
theorem parse_any (st : ByteArray) (w : World) (hs : st.size ≤ 65536) :
    Calls Try.prog 8 #[.string st] w fun e w' => Parsed st w.heap.size w e w' := by
  obtain ⟨i9, hi9, hz90, hz91, hz92⟩ := info_parts Try.info9
  obtain ⟨i35, hi35, hz350, hz351, hz352⟩ := info_parts Try.info35
  go_enter Try.func8, Try.ntmps8
  go_wp2_with fail
  go_loopw [0, 5, 6] (fun t0 t5 t6 wr => ∃ (r : ByteArray) (ts : List Tg), t0 = .string r ∧ 10 * ts.length + r.size ≤ 65536 ∧ Hid (∀ us, Sec us r → Sec (ts ++ us) st) ∧ Hid (wr.ownsRow w.heap.size 9 1 t5 ts.length (nameCells ts)) ∧ Hid (wr.ownsRow w.heap.size 35 1 t6 ts.length (genCells ts)) ∧ Hid (Below w.heap.size w wr)) (fun t0 _ _ _ => ssize t0)
  case atStart => exact ⟨st, [], rfl, by simpa using hs, fun us h => h, World.ownsRow_nil _ _ _ _, World.ownsRow_nil _ _ _ _, Below.refl _ _⟩
  case round =>
    obtain ⟨r, ts, rfl, hts, HS, HN, HG, HB⟩ := hrel
    by_cases h0 : 0 < r.size
    · by_cases h2 : 2 ≤ r.size
      · have hi0 := run_index_at r 0 (by omega)
        have hi1 := run_index_at r 1 (by omega)
        rw [show ((0 : Nat) : Int) = 0 from rfl] at hi0
        rw [show ((1 : Nat) : Int) = 1 from rfl] at hi1
        have hb0 := byteN_lt r 0
        have hb1 := byteN_lt r 1
        obtain ⟨n, HNl⟩ : ∃ n, Hid (nlB r = n) := ⟨_, rfl⟩
        have hn : n < 65536 := by rw [← HNl.out]; exact nlB_lt r
        go_upto_region 6 with fail
        go_cut [7] (fun t wx => Hid (Below wr.heap.size wr wx) ∧ t = .int .i64 n)
        case first =>
          go_quiet (fail)
          go_wp2_with fail
          go_meet
          exact ⟨drewN_below (Below.refl _ _) _, by rw [← HNl.out, nlB]; go_num⟩
        case rest =>
          obtain ⟨HBc, rfl⟩ := hcut
          have HN1 := hidden (own_below HN.out HBc.out)
          have HG1 := hidden (own_below HG.out HBc.out)
          have HB1 := hidden (HB.out.trans (HBc.out.mono HB.out.size))
          clear hi0 hi1 hb0 hb1 HBc HN HG HB
          by_cases hok : n + 10 ≤ r.size
          · go_upto_region 12 with fail
            go_loop [9, 10] (fun g i => ∃ k q : Nat, k ≤ 8 ∧ Hid (q = 2 + n + k) ∧ q ≤ 10 + n ∧ i = .int .i64 q ∧ g = .int .u64 (genUp r (2 + n) k)) (fun _ i => 10 + n - (intOf i).toNat)
            case atStart => exact ⟨0, 2 + n, by omega, rfl, by omega, by go_num, rfl⟩
            case round =>
              obtain ⟨k, q, hk, HQ, hq, rfl, rfl⟩ := hrel
              by_cases hlt : q < 10 + n
              · have hk8 : k < 8 := by have := HQ.out; omega
                have hg := genUp_small r (2 + n) k hk8
                have hidx := run_index_at r q (by omega)
                have hbk := byteN_lt r q
                have HB := hidden (show byteN r q = byteN r (2 + n + k) by rw [HQ.out])
                go_wp2_with fail
                go_round
                case rel => exact ⟨k + 1, q + 1, by omega, by have := HQ.out; show _ = _; omega, by omega, by go_num, by rw [genUp, ← HB.out]; go_num⟩
                case measure => simp [intOf]; omega
              · obtain rfl : k = 8 := by have := HQ.out; omega
                obtain ⟨g, hgg⟩ : ∃ g, genUp r (2 + n) 8 = g := ⟨_, rfl⟩
                obtain ⟨nm, hnm⟩ : ∃ nm, r.extract 2 (2 + n) = nm := ⟨_, rfl⟩
                rw [hgg, hnm]
                have HGn : Hid (g = gnB r) := by show _ = _; rw [gnB, HNl.out, hgg]
                have HNm : Hid (nm = nmB r) := by show _ = _; rw [nmB, HNl.out, hnm]
                clear hgg hnm
                go_upto_region 16 with (at_builtin; refine wpList_append_own _ rfl _ _ 25 rfl w.heap.size 9 i9 (.string ByteArray.empty) 1 16 Try.underlying25 hi9 hz90 hz91 hz92 rfl (by decide) _ ts.length _ rfl (HN1.out.alloc _) ⟨wc.heap.size, 0, none⟩ 1 1 [.string nm] rfl rfl (cell_one_new _ _ _) (fun u hu => by simp at hu; subst hu; rfl) (by unfold maxLen; omega) (by omega) (by have := HB1.out.size; simp; omega) ?_; intro v5 w5 hown5 hgrow5 hnl5)
                have HB5 := hidden (one_pushed HN1.out HB1.out.size HB1.out hown5 hgrow5)
                have HG5 := hidden ((HG1.out.alloc _).kept hgrow5 (own_ne HG1.out HN1.out (by decide)))
                rw [HNm.out] at hown5
                have HN5 := hidden hown5
                clear hown5 hgrow5 hnl5
                go_upto_region 17 with (at_builtin; refine wpList_append_own _ rfl _ _ 26 rfl w.heap.size 35 i35 (.int .u64 0) 1 8 Try.underlying26 hi35 hz350 hz351 hz352 rfl (by decide) _ ts.length _ rfl (HG5.out.alloc _) ⟨w5.heap.size, 0, none⟩ 1 1 [.int .u64 g] rfl rfl (cell_one_new _ _ _) (fun u hu => by simp at hu; subst hu; rfl) (by unfold maxLen; omega) (by omega) (by have := HB5.out.size; simp; omega) ?_; intro v6 w6 hown6 hgrow6 hnl6)
                have HB6 := hidden (one_pushed HG5.out HB5.out.size HB5.out hown6 hgrow6)
                have HN6 := hidden ((HN5.out.alloc _).kept hgrow6 (own_ne HN5.out HG5.out (by decide)))
                rw [HGn.out] at hown6
                have HG6 := hidden hown6
                clear hown6 hgrow6 hnl6 HGn HNm
                go_wp2_with fail
                have hOk : Ok1 r := ⟨h2, by rw [HNl.out]; exact hok⟩
                have hrs := rsB_size r hOk
                have hre : r.extract (10 + n) r.size = rsB r := by rw [rsB, HNl.out]
                rw [HNl.out] at hrs
                have hSg := Sec.grow HS.out hOk
                rw [hre]
                go_roundw
                case rel => exact ⟨rsB r, ts ++ [(nmB r, gnB r)], rfl, by rw [List.length_append, hrs]; simp only [List.length_singleton]; omega, hSg, by show World.ownsRow _ _ _ _ _ _ _; rw [nameCells_snoc, List.length_append]; exact HN6.out, by show World.ownsRow _ _ _ _ _ _ _; rw [genCells_snoc, List.length_append]; exact HG6.out, HB6.out⟩
                case measure => simp [ssize]; omega
          · go_wp2_with fail
            go_ret3
            exact .inl ⟨rfl, HB1.out⟩
      · go_wp2_with fail
        go_ret3
        exact .inl ⟨rfl, HB.out⟩
    · have hSt := HS.out [] (by show r.size = 0; omega)
      rw [List.append_nil] at hSt
      have HSt := hidden hSt
      obtain ⟨a1, c1, e1, hn1⟩ := NamesOf.of_own HN.out
      obtain ⟨a2, c2, e2, hg2⟩ := GensOf.of_own HG.out
      subst e1 e2
      have HN1 := hidden hn1
      have HG1 := hidden hg2
      clear hn1 hg2 hSt
      go_wp2_with fail
      go_ret3
      exact .inr ⟨ts, a1, c1, a2, c2, rfl, HSt.out, HN1.out, HG1.out, HB.out⟩
end Go.Proofs.Qxb6605374a
