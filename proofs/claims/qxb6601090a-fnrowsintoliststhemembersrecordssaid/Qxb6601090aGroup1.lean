import Derived.Test.Qxb6601090aPlain
import Derived.Deep.QuietTactic
import Derived.BigQuiet
import Derived.RegionTactic
import Derived.Deep.DeepCutAuto
import Derived.Deep.CutBlock
import Derived.Deep.RegionWith
import Derived.Deep.AppendLies
import Derived.OneCell
namespace Go.Proofs.Qxb6601090a
open Go.ChangeShapes Go.WideShapes Go.ChangeAt Go.RowKit Go.Maps

theorem Try.info3 : (Try.prog.info? 3).map (fun i => (i.zero, i.size, i.bytes)) = some (some (.int .i64 0), 1, 8) := by kernel_rfl
theorem law : Keyed Try.prog 9 := string_keyed Try.underlying9
theorem zeroE (w : World) : (zeroValue 3).run Try.prog w = .ok (.int .i64 0) w := by kernel_rfl

theorem keepSl {w w' : World} {base e size g n cap row : Nat} {xs : List Value} (h : w.ownsRow base e size (.slice (some ⟨g, 0, none⟩) n cap) n xs) (hg : w.grownBy w' (some row)) (hne : g ≠ row) : w'.ownsRow base e size (.slice (some ⟨g, 0, none⟩) n cap) n xs :=
  h.kept hg (.inr (by simpa [Value.ownBlock] using hne))
theorem keepNo {w w' : World} {base e size g n cap : Nat} {xs : List Value} (h : w.ownsRow base e size (.slice (some ⟨g, 0, none⟩) n cap) n xs) (hg : w.grownBy w' none) : w'.ownsRow base e size (.slice (some ⟨g, 0, none⟩) n cap) n xs :=
  h.kept hg (.inr (by simp [Value.ownBlock]))
theorem setSl {w : World} {base e size g n cap : Nat} {xs : List Value} (h : w.ownsRow base e size (.slice (some ⟨g, 0, none⟩) n cap) n xs) {a : Addr} (hne : g ≠ a.block) (u : Value) : (w.setCell a u).ownsRow base e size (.slice (some ⟨g, 0, none⟩) n cap) n xs :=
  ownsRow_setCell_other h (by simpa [Value.ownBlock] using hne) u
theorem ltSl {w : World} {base e size g n cap : Nat} {xs : List Value} (h : w.ownsRow base e size (.slice (some ⟨g, 0, none⟩) n cap) n xs) : base ≤ g ∧ g < w.heap.size := h.lt g rfl

/-- THE FIRST LOOP's STATE. -/
structure S1 (W : World) (B n : Nat) (ss : List ByteArray) (w : World) (bm gm gi ci gc cc M K k : Nat) (ids : List ByteArray) (f : Nat → Nat) : Prop where
  own : w.ownsRow B 9 1 (.slice (some ⟨gi, 0, none⟩) M ci) M (ids.map .string)
  cnt : ∃ xs, w.ownsRow B 3 1 (.slice (some ⟨gc, 0, none⟩) M cc) M xs ∧ Cnt f k M xs
  mem : ∃ xs, w.ownsRow B 3 1 (.slice (some ⟨gm, 0, none⟩) n n) n xs ∧ Mem f n k xs
  map : ∃ D, w.ownsMap Try.prog 9 (plainElem Try.prog 3) bm K D ∧ Dmap ids D
  len : M = ids.length
  bB : B ≤ bm
  ic : gi ≠ gc
  im : gi ≠ gm
  cm : gc ≠ gm
  ib : gi ≠ bm
  cb : gc ≠ bm
  mb : gm ≠ bm
  grp : Grp ss k ids f
  below : Below B W w
  size : B ≤ w.heap.size

variable {W : World} {B n : Nat} {ss : List ByteArray} {w : World} {bm gm gi ci gc cc M K k : Nat} {ids : List ByteArray} {f : Nat → Nat}

theorem S1.new (h : S1 W B n ss w bm gm gi ci gc cc M K k ids f) {D : DataW Unit} (hD : Dmap ids D) {s : ByteArray} (hs : s ∉ ids)
    {w1 : World} (m1 : w1.ownsMap Try.prog 9 (plainElem Try.prog 3) bm (K + 1) (D.put (ky s) (.lit (.int .i64 (M : Int))))) (g1 : w.grownBy w1 (some bm))
    {o1 : Obj} {w2 : World} {gi' ci' : Nat} (r2 : w2.ownsRow B 9 1 (.slice (some ⟨gi', 0, none⟩) (M + 1) ci') (M + 1) (ids.map .string ++ [.string s])) (g2 : (w1.alloc o1).grownBy w2 (some gi)) (hat2 : some gi = some gi' ∨ gi' = w1.heap.size + 1)
    {o2 : Obj} {w3 : World} {gc' cc' : Nat} {xs : List Value} (hx : Cnt f k M xs) (r3 : w3.ownsRow B 3 1 (.slice (some ⟨gc', 0, none⟩) (M + 1) cc') (M + 1) (xs ++ [.int .i64 0])) (g3 : (w2.alloc o2).grownBy w3 (some gc)) (hat3 : some gc = some gc' ∨ gc' = w2.heap.size + 1) :
    S1 W B n ss w3 bm gm gi' ci' gc' cc' (M + 1) (K + 1) k (ids ++ [s]) f := by
  obtain ⟨xm, hm, hmem⟩ := h.mem
  obtain ⟨xc, hc, _⟩ := h.cnt
  have e1 : (w1.alloc o1).heap.size = w1.heap.size + 1 := by simp
  have e2 : (w2.alloc o2).heap.size = w2.heap.size + 1 := by simp
  have l1 := g1.size
  have l2 := g2.size
  have l3 := g3.size
  rw [e1] at l2
  rw [e2] at l3
  have lgm := (ltSl hm).2
  have lgc := (ltSl hc).2
  have lgi := (ltSl h.own).2
  have lbm := m1.lt
  have hm1 := keepSl hm g1 h.mb
  have hm2 := keepSl (hm1.alloc o1) g2 (Ne.symm h.im)
  have hm3 := keepSl (hm2.alloc o2) g3 (Ne.symm h.cm)
  have d2 := (m1.alloc o1).kept g2 (by simpa using Ne.symm h.ib)
  have d3 := (d2.alloc o2).kept g3 (by simpa using Ne.symm h.cb)
  have hi' : gi' = gi ∨ gi' = w1.heap.size + 1 := by rcases hat2 with e | e; left; cases e; rfl; right; exact e
  have hc' : gc' = gc ∨ gc' = w2.heap.size + 1 := by rcases hat3 with e | e; left; cases e; rfl; right; exact e
  have li' := (ltSl r2).2
  have bgc := (ltSl hc).1
  have bgi := (ltSl h.own).1
  have ic' : gi' ≠ gc' := by
    have := h.ic
    rcases hi' with e | e <;> rcases hc' with e' | e' <;> omega
  have im' : gi' ≠ gm := by have := h.im; rcases hi' with e | e <;> omega
  have cm' : gc' ≠ gm := by have := h.cm; rcases hc' with e | e <;> omega
  have ib' : gi' ≠ bm := by have := h.ib; rcases hi' with e | e <;> omega
  have cb' : gc' ≠ bm := by have := h.cb; rcases hc' with e | e <;> omega
  have hsz := h.size
  refine ⟨?_, ⟨_, r3, hx.grow (fun j hj => by rw [h.len]; exact h.grp.lt j hj)⟩, ⟨xm, hm3, hmem⟩, ⟨_, d3, ?_⟩, by simp [h.len], h.bB, ic', im', cm', ib', cb', h.mb, h.grp.push hs, ?_, by omega⟩
  · rw [List.map_append]
    refine keepSl (r2.alloc o2) g3 ?_
    rcases hi' with e | e
    · rw [e]; exact h.ic
    · omega
  · have := hD.new hs
    rw [← h.len] at this
    exact this
  · refine (((((h.below.grown g1 hsz ?_).alloc (by omega) o1).grown g2 (by omega) ?_).alloc (by omega) o2).grown g3 (by omega) ?_)
    · intro k hk; cases hk; exact h.bB
    · intro k hk; cases hk; exact bgi
    · intro k hk; cases hk; exact bgc

theorem S1.bump (h : S1 W B n ss w bm gm gi ci gc cc M K k ids f) (hk : k < n) {m : Nat} (hm : m < M) (e : at' ids m = at' ss k) :
    S1 W B n ss ((w.setCell ⟨gm, k, none⟩ (.int .i64 m)).setCell ⟨gc, m, none⟩ (.int .i64 ((Proofs.Qxb6601090a.cnt f k m + 1 : Nat)))) bm gm gi ci gc cc M K (k + 1) ids (upd f k m) := by
  obtain ⟨xm, hmo, hmem⟩ := h.mem
  obtain ⟨xc, hco, hcnt⟩ := h.cnt
  obtain ⟨D, hD, hDm⟩ := h.map
  refine ⟨setSl (setSl h.own h.im _) h.ic _, ⟨_, ((setSl hco h.cm _).stored m _).1, hcnt.bump hm⟩, ⟨_, setSl (hmo.stored k _).1 (Ne.symm h.cm) _, hmem.step hk⟩, ⟨D, (hD.setCell (Ne.symm h.mb) _).setCell (Ne.symm h.cb) _, hDm⟩, h.len, h.bB, h.ic, h.im, h.cm, h.ib, h.cb, h.mb, h.grp.old (by rw [← h.len]; exact hm) e, ?_, by simpa using h.size⟩
  exact (h.below.setCell (ltSl hmo).1 _).setCell (ltSl hco).1 _

theorem S1.more (h : S1 W B n ss w bm gm gi ci gc cc M K k ids f) {K' : Nat} (hK : K ≤ K') : S1 W B n ss w bm gm gi ci gc cc M K' k ids f := by
  obtain ⟨D, hD, hDm⟩ := h.map
  exact { h with map := ⟨D, hD.mono hK, hDm⟩ }

end Go.Proofs.Qxb6601090a
