import Derived.Test.Qxb6601090aGroup3
import Derived.StringKeys
namespace Go.Proofs.Qxb6601090a
open Go.ChangeShapes Go.WideShapes Go.ChangeAt Go.RowKit Go.Maps Go.ChangeMaps

theorem S1.start (W : World) (n : Nat) (ss : List ByteArray) {w1 w2 w3 : World} {zs : List Value}
    (r1 : w1.ownsRow W.heap.size 9 1 (.slice (some ⟨W.heap.size + 1, 0, none⟩) 0 0) 0 []) (g1 : (W.alloc (.map #[] 0)).grownBy w1 none)
    (r2 : w2.ownsRow W.heap.size 3 1 (.slice (some ⟨w1.heap.size, 0, none⟩) 0 0) 0 []) (g2 : w1.grownBy w2 none)
    (r3 : w3.ownsRow W.heap.size 3 1 (.slice (some ⟨w2.heap.size, 0, none⟩) n n) n zs) (g3 : w2.grownBy w3 none) :
    S1 W W.heap.size n ss w3 W.heap.size w2.heap.size (W.heap.size + 1) 0 w1.heap.size 0 0 0 0 [] (fun _ => 0) := by
  have hm := World.ownsMap_made (H := Unit) W Try.prog 9 (plainElem Try.prog 3)
  have l1 := (ltSl r1).2
  have l2 := (ltSl r2).2
  have l3 := (ltSl r3).2
  have e0 : (W.alloc (.map #[] 0)).heap.size = W.heap.size + 1 := by simp
  have hm3 := ((hm.kept g1 (by simp)).kept g2 (by simp)).kept g3 (by simp)
  have s1 := g2.size
  have s2 := g3.size
  refine ⟨by simpa using keepNo (keepNo r1 g2) g3, ⟨_, keepNo r2 g3, ⟨rfl, fun m hm => by omega⟩⟩, ⟨_, r3, ⟨?_, fun j hj => by omega⟩⟩, ⟨_, hm3, Dmap.nil⟩, rfl, Nat.le_refl _, by omega, by omega, by omega, by omega, by omega, by omega, Grp.nil ss, ?_, by omega⟩
  · have := r3.1
    simpa using this
  · exact ((((Below.refl _ _).alloc (Nat.le_refl _) _).grown g1 (by omega) (fun k h => by cases h)).grown g2 (by omega) (fun k h => by cases h)).grown g3 (by omega) (fun k h => by cases h)

theorem results_tmp4 {fn : Func} {t u v x : Tmp} (h : fn.results = #[.tmp t, .tmp u, .tmp v, .tmp x]) (tmps : Array Value) (P : Program) (w : World) :
    (results fn tmps).run P w = .ok (.tuple #[tmps.getD t undef, tmps.getD u undef, tmps.getD v undef, tmps.getD x undef]) w := by
  simp [results, h]

theorem wf64 (m : Nat) (h : m ≤ 65536) : (Lit.int .i64 (m : Int)).wf = true := by
  simp [Lit.wf, IntKind.min, IntKind.max, IntKind.signed, IntKind.bits]; omega

set_option maxRecDepth 100000 in
set_option maxHeartbeats 4000000 in
theorem group (a : Option Addr) (b o n c : Nat) (ss : List ByteArray) (W : World) (hl : n ≤ 65536) (hsz : ∀ i, (at' ss i).size ≤ maxLen)
    (ha : 0 < n → a = some ⟨b, o, none⟩) (hb : 0 < n → b < W.heap.size)
    (hc : ∀ i, i < n → W.cell? ⟨b, o + i, none⟩ = some (.string (at' ss i))) :
    Calls Try.prog 9 #[.slice a n c] W fun e w' => ∃ (M gi ci bm gr gf : Nat) (ids : List ByteArray) (f : Nat → Nat), e = .returned (.tuple #[.slice (some ⟨gi, 0, none⟩) M ci, .map (some bm), .slice (some ⟨gr, 0, none⟩) n n, .slice (some ⟨gf, 0, none⟩) (M + 1) (M + 1)]) ∧ M ≤ n ∧ GR W W.heap.size n ss w' bm gi ci M gr gf ids f := by
  obtain ⟨i9, hi9, hz90, hz91, hz92⟩ := info_parts Try.info9
  obtain ⟨i3, hi3, hz30, hz31, hz32⟩ := info_parts Try.info3
  have hmm := @run_makeMap Try.prog
  go_enter Try.func9, Try.ntmps9
  go_upto_region 4 with (first
    | (at_make; refine wpList_make_own _ rfl _ _ 23 rfl W.heap.size 9 i9 (.string ByteArray.empty) 1 Try.underlying23 hi9 hz90 hz91 _ _ _ 0 rfl rfl rfl (by omega) (by unfold maxLen; omega) (by simp) ?_; intro w1 hown1 hg1)
    | (at_make; refine wpList_make_own _ rfl _ _ 27 rfl W.heap.size 3 i3 (.int .i64 0) 1 Try.underlying27 hi3 hz30 hz31 _ _ _ 0 rfl rfl rfl (by omega) (by unfold maxLen; omega) (by have := hg1.size; simp at this; omega) ?_; intro w2 hown2 hg2))
  go_upto_block 0 with (first
    | (at_make; refine wpList_make_full _ rfl _ _ 27 rfl W.heap.size 3 i3 (.int .i64 0) 1 Try.underlying27 hi3 hz30 hz31 _ _ _ _ n rfl rfl rfl rfl (by rw [hz32]; omega) (by unfold maxLen; omega) (by have := hg1.size; have := hg2.size; simp at *; omega) ?_; intro w3 hown3 hg3))
  have HS := hidden (S1.start W n ss (by simpa using hown1) hg1 hown2 hg2 hown3 hg3)
  clear hown1 hg1 hown2 hg2 hown3 hg3 hmm
  generalize w2.heap.size = gm at *
  generalize w1.heap.size = gc0 at *
  go_cut [7, 8] (fun s7 s8 wx => ∃ (M gi ci gc cc : Nat) (ids : List ByteArray) (f : Nat → Nat), M ≤ n ∧ s7 = .slice (some ⟨gi, 0, none⟩) M ci ∧ s8 = .slice (some ⟨gc, 0, none⟩) M cc ∧ Hid (S1 W W.heap.size n ss wx W.heap.size gm gi ci gc cc M n n ids f))
  case first =>
    go_wp2_with fail
    go_loopw [7, 8, 10] (fun s7 s8 s10 wr => ∃ (k M gi ci gc cc : Nat) (ids : List ByteArray) (f : Nat → Nat), k ≤ n ∧ M ≤ k ∧ s10 = .int .i64 k ∧ s7 = .slice (some ⟨gi, 0, none⟩) M ci ∧ s8 = .slice (some ⟨gc, 0, none⟩) M cc ∧ Hid (S1 W W.heap.size n ss wr W.heap.size gm gi ci gc cc M k k ids f)) (fun _ _ s10 _ => n - (intOf s10).toNat)
    case atStart => exact ⟨0, 0, _, _, _, _, [], _, Nat.zero_le _, Nat.zero_le _, rfl, rfl, rfl, HS⟩
    case round =>
      clear HS
      obtain ⟨k, M, gi, ci, gc, cc, ids, f, hk, hM, rfl, rfl, rfl, HS⟩ := hrel
      by_cases hlt : k < n
      · obtain rfl := ha (by omega)
        have hcell : wr.cell? ⟨b, o + k, none⟩ = some (.string (at' ss k)) := (HS.out.below.cell (hb (by omega))).trans (hc k hlt)
        have hsk := hsz k
        clear hc ha hb hsz
        obtain ⟨D, hD', hDm'⟩ := HS.out.map
        have hD := hidden hD'
        have hDm := hidden hDm'
        clear hD' hDm'
        have hkey : Hid (keyOf Try.prog 9 (.string (at' ss k)) = some (ky (at' ss k))) := hidden (Go.WideMaps.keyOf_string_mk Try.underlying9 hsk)
        clear hsk
        go_upto_if 44 with (at_lookup; refine wpList_lookup_own_ok_int _ rfl _ _ 26 rfl 9 3 .i64 law Try.underlying26 Try.underlying3 (zeroE _) W.heap.size k D rfl hD.out _ _ rfl hkey.out ?_; intro x hat' hwx'; have hat := hidden hat'; clear hat' hwx')
        go_cut [7, 8, 12, 13] (fun s7 s8 s12 _ wx => ∃ (M gi ci gc cc m : Nat) (ids : List ByteArray), M ≤ k + 1 ∧ m < M ∧ s7 = .slice (some ⟨gi, 0, none⟩) M ci ∧ s8 = .slice (some ⟨gc, 0, none⟩) M cc ∧ s12 = .int .i64 m ∧ Hid (at' ids m = at' ss k) ∧ Hid (S1 W W.heap.size n ss wx W.heap.size gm gi ci gc cc M (k + 1) k ids f))
        case first =>
          clear hcell
          cases hh : Maps.has D (ky (at' ss k))
          · have hs : Hid (at' ss k ∉ ids) := hidden (fun hin => by rw [(hDm.out.has _).2 hin] at hh; cases hh)
            obtain ⟨xs, hxo', hxc'⟩ := HS.out.cnt
            have hxo := hidden hxo'
            have hxc := hidden hxc'
            clear hxo' hxc' hh hat
            go_wp2_with (first
              | (at_mapUpdate; refine wpList_mapUpdate_own _ rfl _ _ _ 26 rfl 9 3 law Try.underlying26 _ W.heap.size k D rfl hD.out (by unfold maxLen; omega) _ _ _ rfl rfl hkey.out _ [] (plainElem_int Try.underlying3 (wf64 M (by omega))) ?_; intro w1 hm1 hg1)
              | (at_builtin; refine wpList_append_lies _ rfl _ _ 23 rfl W.heap.size 9 i9 (.string ByteArray.empty) 1 16 Try.underlying23 hi9 hz90 hz91 hz92 rfl (by decide) _ M _ rfl ((keepSl HS.out.own hg1 HS.out.ib).alloc _) ⟨w1.heap.size, 0, none⟩ 1 1 [.string (at' ss k)] rfl rfl (cell_one_new _ _ _) (fun u hu => by simp at hu; subst hu; rfl) (by decide) (by unfold maxLen; omega) (by omega) (by have := HS.out.size; have := hg1.size; simp; omega) (w1.heap.size + 1) (by simp) ?_; intro g2 c2 w2 hr2 hg2 hat2 hlt2)
              | (at_builtin; refine wpList_append_lies _ rfl _ _ 27 rfl W.heap.size 3 i3 (.int .i64 0) 1 8 Try.underlying27 hi3 hz30 hz31 hz32 rfl (by decide) _ M xs rfl ((keepSl ((keepSl hxo.out hg1 HS.out.cb).alloc _) hg2 (Ne.symm HS.out.ic)).alloc _) ⟨w2.heap.size, 0, none⟩ 1 1 [.int .i64 0] rfl rfl (cell_one_new _ _ _) (fun u hu => by simp at hu; subst hu; rfl) (by decide) (by unfold maxLen; omega) (by omega) (by have := HS.out.size; have := hg1.size; have := hg2.size; simp at *; omega) (w2.heap.size + 1) (by simp) ?_; intro g3 c3 w3 hr3 hg3 hat3 hlt3))
            go_meet
            exact ⟨M + 1, _, _, _, _, M, _, by omega, by omega, rfl, rfl, rfl, hidden (by rw [HS.out.len]; exact at_append_right _ _), hidden (HS.out.new hDm.out hs.out hm1 hg1 hr2 hg2 hat2 hxc.out hr3 hg3 hat3)⟩
          · obtain ⟨m, hm, em⟩ := mem_at ((hDm.out.has _).1 hh)
            have hx : x = (m : Int) := by
              have h1 := hDm.out.val m hm
              rw [em] at h1
              have h2 := hat.out.symm.trans h1
              injection h2 with h2
              injection h2
            subst hx
            have HE := hidden em
            have hm' : m < M := by rw [HS.out.len]; exact hm
            clear em hm hat
            go_wp2_with fail
            go_meet
            exact ⟨M, _, _, _, _, m, _, by omega, hm', rfl, rfl, rfl, HE, hidden (HS.out.more (Nat.le_succ _))⟩
        case rest =>
          clear HS hD hDm hcell hat hkey
          obtain ⟨M, gi, ci, gc, cc, m, ids, hM, hm, rfl, rfl, rfl, HE, HS⟩ := hcut
          obtain ⟨xc', hco, hcc⟩ := HS.out.cnt
          obtain ⟨xm', hmo, hmm⟩ := HS.out.mem
          have hcl : Proofs.Qxb6601090a.cnt f k m ≤ k := cnt_le f k m
          have hcx : wc.cell? ⟨gc, m, none⟩ = some (.int .i64 (Proofs.Qxb6601090a.cnt f k m)) := by rw [hco.cellAt m (by omega)]; exact hcc.2 m hm
          have hmx : (wc.cell? ⟨gm, k, none⟩).isSome = true := by rw [hmo.cellAt k (by omega)]; simp [hmm.1, hlt]
          have hc1 : ∀ u, (wc.setCell ⟨gm, k, none⟩ u).cell? ⟨gc, m, none⟩ = some (.int .i64 (Proofs.Qxb6601090a.cnt f k m)) := fun u => by
            rw [(setSl hco HS.out.cm u).cellAt m (by omega)]; exact hcc.2 m hm
          have hf1 := hmo.frozenAt k
          have hf2 := hco.frozenAt m
          have hf3 : ∀ u, (wc.setCell ⟨gm, k, none⟩ u).frozen? ⟨gc, m, none⟩ = false := fun u => (setSl hco HS.out.cm u).frozenAt m
          obtain ⟨oldm, holdm⟩ := Option.isSome_iff_exists.1 hmx
          have HB := hidden (HS.out.bump hlt hm HE.out)
          have hcm := HS.out.cm
          clear hco hcc hmo hmm hmx HE HS
          generalize Proofs.Qxb6601090a.cnt f k m = q at *
          go_wp2_with fail
          go_roundw
          case rel => exact ⟨k + 1, M, gi, ci, gc, cc, ids, _, by omega, by omega, by go_num, rfl, rfl, HB⟩
          case measure => simp [intOf]; omega
      · obtain rfl : k = n := by omega
        clear hc ha hb hsz
        go_wp2_with fail
        go_meet
        exact ⟨M, _, _, _, _, _, _, hM, rfl, rfl, HS⟩
  case rest =>
    clear hc ha hb hsz HS
    obtain ⟨M, gi, ci, gc, cc, ids, f, hM, rfl, rfl, HS⟩ := hcut
    go_upto_block 2 with (at_make; refine wpList_make_full _ rfl _ _ 27 rfl W.heap.size 3 i3 (.int .i64 0) 1 Try.underlying27 hi3 hz30 hz31 _ _ _ _ (M + 1) rfl rfl (by go_num) (by go_num) (by rw [hz32]; omega) (by unfold maxLen; omega) HS.out.size ?_; intro w4 hown4 hg4)
    have H2 := hidden (S2.start HS.out hown4 hg4)
    clear hown4 hg4 HS
    generalize wc.heap.size = gf at *
    go_cut [] (fun wx => Hid (S2 W W.heap.size n ss wx W.heap.size gm gi ci gc cc M gf M ids f))
    case first =>
      go_wp2_with fail
      go_loopw [15] (fun s wr => ∃ m : Nat, m ≤ M ∧ s = .int .i64 m ∧ Hid (S2 W W.heap.size n ss wr W.heap.size gm gi ci gc cc M gf m ids f)) (fun s _ => M - (intOf s).toNat)
      case atStart => exact ⟨0, Nat.zero_le _, rfl, H2⟩
      case round =>
        clear H2
        obtain ⟨m, hm, rfl, H2⟩ := hrel
        by_cases hlt : m < M
        · obtain ⟨xf, hfo, hff⟩ := H2.out.row
          obtain ⟨xc, hco, hcc⟩ := H2.out.s.cnt
          have h1 : wr.cell? ⟨gf, m, none⟩ = some (.int .i64 (fst' f n m)) := by rw [hfo.cellAt m (by omega)]; exact hff.2 m (Nat.le_refl _)
          have h2 : wr.cell? ⟨gc, m, none⟩ = some (.int .i64 (Proofs.Qxb6601090a.cnt f n m)) := by rw [hco.cellAt m (by omega)]; exact hcc.2 m hlt
          have h3 : (wr.cell? ⟨gf, m + 1, none⟩).isSome = true := by rw [hfo.cellAt (m + 1) (by omega)]; simp [hff.1, hlt]
          obtain ⟨old, hold⟩ := Option.isSome_iff_exists.1 h3
          have hfz := hfo.frozenAt (m + 1)
          have hle : fst' f n m + Proofs.Qxb6601090a.cnt f n m ≤ n := H2.out.s.grp.fst_le (m := m + 1) (by rw [← H2.out.s.len]; omega)
          have HX := hidden (H2.out.step hlt)
          clear hfo hff hco hcc h3 H2
          generalize fst' f n m = p at *
          generalize Proofs.Qxb6601090a.cnt f n m = q at *
          have hw1 : IntKind.i64.wrap ((m : Int) + 1) = ((m + 1 : Nat) : Int) := by rw [IntKind.wrap_i64]; omega
          have hw2 : IntKind.i64.wrap ((p : Int) + (q : Int)) = ((p + q : Nat) : Int) := by rw [IntKind.wrap_i64]; omega
          have hi1 : ¬ ((m : Int) < 0) := by omega
          have hi2 : ¬ (((m + 1 : Nat) : Int) < 0) := by omega
          go_upto_block 3 with fail
          go_cut [] (fun wx => Hid (S2 W W.heap.size n ss wx W.heap.size gm gi ci gc cc M gf (m + 1) ids f))
          case first =>
            go_upto_region 21 with fail
            go_region
            go_wp2_with fail
            go_meet
            have hx := HX.out.drew
            rw [Int.natCast_add] at hx
            exact hidden hx
          case rest =>
            clear HX
            go_wp2_with fail
            go_roundw
            case rel => exact ⟨m + 1, by omega, by go_num, hcut⟩
            case measure => simp [intOf]; omega
        · obtain rfl : m = M := by omega
          go_wp2_with fail
          go_meet
          exact H2
    case rest =>
      clear H2
      have H2 := hcut
      clear hcut
      go_upto_block 4 with (at_make; refine wpList_make_full _ rfl _ _ 27 rfl W.heap.size 3 i3 (.int .i64 0) 1 Try.underlying27 hi3 hz30 hz31 _ _ _ _ M rfl rfl rfl rfl (by rw [hz32]; omega) (by unfold maxLen; omega) H2.out.s.size ?_; intro w5 hown5 hg5)
      have H3 := hidden (S3.start H2.out hown5 hg5)
      clear hown5 hg5 H2
      generalize wc.heap.size = gx at *
      go_cut [] (fun wx => Hid (S3 W W.heap.size n ss wx W.heap.size gm gi ci gc cc M gf gx M 0 ids f))
      case first =>
        go_wp2_with fail
        go_loopw [17] (fun s wr => ∃ m : Nat, m ≤ M ∧ s = .int .i64 m ∧ Hid (S3 W W.heap.size n ss wr W.heap.size gm gi ci gc cc M gf gx m 0 ids f)) (fun s _ => M - (intOf s).toNat)
        case atStart => exact ⟨0, Nat.zero_le _, rfl, H3⟩
        case round =>
          clear H3
          obtain ⟨m, hm, rfl, H3⟩ := hrel
          by_cases hlt : m < M
          · obtain ⟨xf, hfo, hff⟩ := H3.out.s.row
            obtain ⟨xx, hxo, hxx⟩ := H3.out.row
            have h1 : wr.cell? ⟨gf, m, none⟩ = some (.int .i64 (fst' f n m)) := by rw [hfo.cellAt m (by omega)]; exact hff.2 m (by omega)
            have h3 : (wr.cell? ⟨gx, m, none⟩).isSome = true := by rw [hxo.cellAt m (by omega)]; simp [hxx.1, hlt]
            obtain ⟨old, hold⟩ := Option.isSome_iff_exists.1 h3
            have hfz := hxo.frozenAt m
            have hle : fst' f n m ≤ n := H3.out.s.s.grp.fst_le (m := m) (by rw [← H3.out.s.s.len]; omega)
            have HX := hidden (H3.out.step hlt)
            clear hfo hff hxo hxx h3 H3
            generalize fst' f n m = p at *
            go_wp2_with fail
            go_roundw
            case rel => exact ⟨m + 1, by omega, by go_num, HX⟩
            case measure => simp [intOf]; omega
          · obtain rfl : m = M := by omega
            go_wp2_with fail
            go_meet
            exact H3
      case rest =>
        clear H3
        have H3 := hcut
        clear hcut
        go_upto_block 6 with (at_make; refine wpList_make_full _ rfl _ _ 27 rfl W.heap.size 3 i3 (.int .i64 0) 1 Try.underlying27 hi3 hz30 hz31 _ _ _ _ n rfl rfl rfl rfl (by rw [hz32]; omega) (by unfold maxLen; omega) H3.out.s.s.size ?_; intro w6 hown6 hg6)
        have H4 := hidden (S4.start H3.out hown6 hg6)
        clear hown6 hg6 H3
        generalize wc.heap.size = gr at *
        go_cut [] (fun wx => Hid (S4 W W.heap.size n ss wx W.heap.size gm gi ci gc cc M gf gx gr n ids f))
        case first =>
          go_wp2_with fail
          go_loopw [19] (fun s wr => ∃ k : Nat, k ≤ n ∧ s = .int .i64 k ∧ Hid (S4 W W.heap.size n ss wr W.heap.size gm gi ci gc cc M gf gx gr k ids f)) (fun s _ => n - (intOf s).toNat)
          case atStart => exact ⟨0, Nat.zero_le _, rfl, H4⟩
          case round =>
            clear H4
            obtain ⟨k, hk, rfl, H4⟩ := hrel
            by_cases hlt : k < n
            · obtain ⟨xr, hro, hrr⟩ := H4.out.row
              obtain ⟨xx, hxo, hxx⟩ := H4.out.s.row
              obtain ⟨xm, hmo, hmm⟩ := H4.out.s.s.s.mem
              have hltM : ∀ j, j < n → f j < M := fun j hj => by rw [H4.out.s.s.s.len]; exact H4.out.s.s.s.grp.lt j hj
              have hfk := hltM k hlt
              have hpl := pos_lt hltM hlt
              have h1 : wr.cell? ⟨gm, k, none⟩ = some (.int .i64 (f k)) := by rw [hmo.cellAt k (by omega)]; exact hmm.2 k hlt
              have h2 : wr.cell? ⟨gx, f k, none⟩ = some (.int .i64 (pos f n k)) := by rw [hxo.cellAt (f k) (by omega)]; exact hxx.2 (f k) hfk
              have h3 : (wr.cell? ⟨gr, pos f n k, none⟩).isSome = true := by rw [hro.cellAt _ (by omega)]; simp [hrr.1, hpl]
              obtain ⟨old, hold⟩ := Option.isSome_iff_exists.1 h3
              have hfz := hro.frozenAt (pos f n k)
              have h4 : ∀ u, (wr.setCell ⟨gr, pos f n k, none⟩ u).cell? ⟨gx, f k, none⟩ = some (.int .i64 (pos f n k)) := fun u => by
                rw [(setSl hxo (Ne.symm H4.out.nx) u).cellAt (f k) (by omega)]; exact hxx.2 (f k) hfk
              have hfy : ∀ u, (wr.setCell ⟨gr, pos f n k, none⟩ u).frozen? ⟨gx, f k, none⟩ = false := fun u => (setSl hxo (Ne.symm H4.out.nx) u).frozenAt (f k)
              have hfw := hxo.frozenAt (f k)
              have hne := H4.out.nx
              have HX := hidden (H4.out.step hlt)
              clear hro hrr hxo hxx hmo hmm hltM h3 H4
              generalize pos f n k = p at *
              generalize f k = q at *
              go_wp2_with fail
              go_roundw
              case rel => exact ⟨k + 1, by omega, by go_num, HX⟩
              case measure => simp [intOf]; omega
            · obtain rfl : k = n := by omega
              go_wp2_with fail
              go_meet
              exact H4
        case rest =>
          clear H4
          go_wp2_with fail
          refine bodyPost_ret (results_tmp4 rfl _ _ _) rfl ?_
          exact ⟨M, gi, ci, _, gr, gf, ids, f, rfl, hM, hcut.out.out⟩
end Go.Proofs.Qxb6601090a
