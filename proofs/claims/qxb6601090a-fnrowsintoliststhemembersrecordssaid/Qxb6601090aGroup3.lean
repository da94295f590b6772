import Derived.Test.Qxb6601090aGroup1
namespace Go.Proofs.Qxb6601090a
open Go.ChangeShapes Go.WideShapes Go.ChangeAt Go.RowKit Go.Maps Go.ChangeMaps

structure Far (gi gc gm bm g : Nat) : Prop where
  i : g ≠ gi
  c : g ≠ gc
  m : g ≠ gm
  b : g ≠ bm

variable {W : World} {B n : Nat} {ss : List ByteArray} {w : World} {bm gm gi ci gc cc M K k : Nat} {ids : List ByteArray} {f : Nat → Nat}

theorem S1.far (h : S1 W B n ss w bm gm gi ci gc cc M K k ids f) : Far gi gc gm bm w.heap.size := by
  obtain ⟨_, h1, _⟩ := h.cnt
  obtain ⟨_, h2, _⟩ := h.mem
  obtain ⟨_, h3, _⟩ := h.map
  have a1 := (ltSl h.own).2
  have a2 := (ltSl h1).2
  have a3 := (ltSl h2).2
  have a4 := h3.lt
  exact ⟨by omega, by omega, by omega, by omega⟩

theorem S1.kept (h : S1 W B n ss w bm gm gi ci gc cc M K k ids f) {w' : World} (hg : w.grownBy w' none) : S1 W B n ss w' bm gm gi ci gc cc M K k ids f := by
  obtain ⟨xc, h1, c1⟩ := h.cnt
  obtain ⟨xm, h2, c2⟩ := h.mem
  obtain ⟨D, h3, c3⟩ := h.map
  exact { h with own := keepNo h.own hg, cnt := ⟨xc, keepNo h1 hg, c1⟩, mem := ⟨xm, keepNo h2 hg, c2⟩, map := ⟨D, h3.kept hg (by simp), c3⟩, below := h.below.grown hg h.size (fun k h => by cases h), size := Nat.le_trans h.size hg.size }

theorem S1.set (h : S1 W B n ss w bm gm gi ci gc cc M K k ids f) {a : Addr} (hB : B ≤ a.block) (hf : Far gi gc gm bm a.block) (u : Value) : S1 W B n ss (w.setCell a u) bm gm gi ci gc cc M K k ids f := by
  obtain ⟨xc, h1, c1⟩ := h.cnt
  obtain ⟨xm, h2, c2⟩ := h.mem
  obtain ⟨D, h3, c3⟩ := h.map
  exact { h with own := setSl h.own (Ne.symm hf.i) u, cnt := ⟨xc, setSl h1 (Ne.symm hf.c) u, c1⟩, mem := ⟨xm, setSl h2 (Ne.symm hf.m) u, c2⟩, map := ⟨D, h3.setCell (Ne.symm hf.b) u, c3⟩, below := h.below.setCell hB u, size := by simpa using h.size }

theorem S1.drew (h : S1 W B n ss w bm gm gi ci gc cc M K k ids f) : S1 W B n ss w.drew bm gm gi ci gc cc M K k ids f :=
  { h with own := h.own, cnt := h.cnt, mem := h.mem, map := h.map, below := h.below.drew, size := h.size }

theorem made_get (n j : Nat) (h : j < n) : (madeCells (Value.int .i64 0).cells (n * 1)).toList[j]? = some (.int .i64 0) := by
  have e : (Value.int .i64 0).cells = #[.int .i64 0] := rfl
  rw [e, toList_madeCells_one]
  simp [h]

/-- THE SECOND LOOP's STATE. -/
structure S2 (W : World) (B n : Nat) (ss : List ByteArray) (w : World) (bm gm gi ci gc cc M gf m : Nat) (ids : List ByteArray) (f : Nat → Nat) : Prop where
  s : S1 W B n ss w bm gm gi ci gc cc M n n ids f
  far : Far gi gc gm bm gf
  row : ∃ xs, w.ownsRow B 3 1 (.slice (some ⟨gf, 0, none⟩) (M + 1) (M + 1)) (M + 1) xs ∧ Fst f n (M + 1) m xs

theorem S2.start (h : S1 W B n ss w bm gm gi ci gc cc M n n ids f) {w' : World} (r : w'.ownsRow B 3 1 (.slice (some ⟨w.heap.size, 0, none⟩) (M + 1) (M + 1)) (M + 1) (madeCells (Value.int .i64 0).cells ((M + 1) * 1)).toList) (g : w.grownBy w' none) :
    S2 W B n ss w' bm gm gi ci gc cc M w.heap.size 0 ids f :=
  ⟨h.kept g, h.far, ⟨_, r, ⟨by simpa using r.1, fun j hj => (made_get (M + 1) j (by omega)).trans (by rw [Nat.le_zero.1 hj]; rfl)⟩⟩⟩

theorem S2.step {gf m : Nat} (h : S2 W B n ss w bm gm gi ci gc cc M gf m ids f) (hm : m < M) : S2 W B n ss (w.setCell ⟨gf, m + 1, none⟩ (.int .i64 (fst' f n m + Proofs.Qxb6601090a.cnt f n m : Nat))) bm gm gi ci gc cc M gf (m + 1) ids f := by
  obtain ⟨xs, hr, hf⟩ := h.row
  exact ⟨h.s.set (ltSl hr).1 h.far _, h.far, ⟨_, (hr.stored (m + 1) _).1, hf.step (by omega)⟩⟩

theorem S2.drew {gf m : Nat} (h : S2 W B n ss w bm gm gi ci gc cc M gf m ids f) : S2 W B n ss w.drew bm gm gi ci gc cc M gf m ids f := ⟨h.s.drew, h.far, h.row⟩

theorem S2.kept {gf m : Nat} (h : S2 W B n ss w bm gm gi ci gc cc M gf m ids f) {w' : World} (hg : w.grownBy w' none) : S2 W B n ss w' bm gm gi ci gc cc M gf m ids f := by
  obtain ⟨xs, hr, hf⟩ := h.row
  exact ⟨h.s.kept hg, h.far, ⟨xs, keepNo hr hg, hf⟩⟩

theorem S2.set {gf m : Nat} (h : S2 W B n ss w bm gm gi ci gc cc M gf m ids f) {a : Addr} (hB : B ≤ a.block) (hf : Far gi gc gm bm a.block) (hg : a.block ≠ gf) (u : Value) : S2 W B n ss (w.setCell a u) bm gm gi ci gc cc M gf m ids f := by
  obtain ⟨xs, hr, hx⟩ := h.row
  exact ⟨h.s.set hB hf u, h.far, ⟨xs, setSl hr (Ne.symm hg) u, hx⟩⟩

theorem S2.ne {gf m : Nat} (h : S2 W B n ss w bm gm gi ci gc cc M gf m ids f) : w.heap.size ≠ gf := by
  obtain ⟨xs, hr, hx⟩ := h.row
  have := (ltSl hr).2
  omega

theorem Grp.fst_le (h : Grp ss n ids f) {m : Nat} (hm : m ≤ ids.length) : fst' f n m ≤ n := by
  have := fst_mono f n hm
  rw [fst_all f ids.length n h.lt] at this
  exact this

/-- THE THIRD LOOP's STATE. -/
structure S3 (W : World) (B n : Nat) (ss : List ByteArray) (w : World) (bm gm gi ci gc cc M gf gx m k : Nat) (ids : List ByteArray) (f : Nat → Nat) : Prop where
  s : S2 W B n ss w bm gm gi ci gc cc M gf M ids f
  far : Far gi gc gm bm gx
  ne : gx ≠ gf
  row : ∃ xs, w.ownsRow B 3 1 (.slice (some ⟨gx, 0, none⟩) M M) M xs ∧ Nxt f n M m k xs

theorem S3.start {gf : Nat} (h : S2 W B n ss w bm gm gi ci gc cc M gf M ids f) {zs : List Value} {w' : World} (r : w'.ownsRow B 3 1 (.slice (some ⟨w.heap.size, 0, none⟩) M M) M zs) (g : w.grownBy w' none) :
    S3 W B n ss w' bm gm gi ci gc cc M gf w.heap.size 0 0 ids f :=
  ⟨h.kept g, h.s.far, h.ne, ⟨_, r, ⟨by simpa using r.1, fun j hj => by omega⟩⟩⟩

theorem S3.step {gf gx m : Nat} (h : S3 W B n ss w bm gm gi ci gc cc M gf gx m 0 ids f) (hm : m < M) : S3 W B n ss (w.setCell ⟨gx, m, none⟩ (.int .i64 (fst' f n m : Nat))) bm gm gi ci gc cc M gf gx (m + 1) 0 ids f := by
  obtain ⟨xs, hr, hf⟩ := h.row
  exact ⟨h.s.set (ltSl hr).1 h.far h.ne _, h.far, h.ne, ⟨_, (hr.stored m _).1, hf.step hm⟩⟩

theorem S3.kept {gf gx m k : Nat} (h : S3 W B n ss w bm gm gi ci gc cc M gf gx m k ids f) {w' : World} (hg : w.grownBy w' none) : S3 W B n ss w' bm gm gi ci gc cc M gf gx m k ids f := by
  obtain ⟨xs, hr, hf⟩ := h.row
  exact ⟨h.s.kept hg, h.far, h.ne, ⟨xs, keepNo hr hg, hf⟩⟩

/-- THE FOURTH LOOP's STATE. -/
structure S4 (W : World) (B n : Nat) (ss : List ByteArray) (w : World) (bm gm gi ci gc cc M gf gx gr k : Nat) (ids : List ByteArray) (f : Nat → Nat) : Prop where
  s : S3 W B n ss w bm gm gi ci gc cc M gf gx M k ids f
  far : Far gi gc gm bm gr
  nf : gr ≠ gf
  nx : gr ≠ gx
  row : ∃ xs, w.ownsRow B 3 1 (.slice (some ⟨gr, 0, none⟩) n n) n xs ∧ Rec f n k xs

theorem S4.start {gf gx : Nat} (h : S3 W B n ss w bm gm gi ci gc cc M gf gx M 0 ids f) {w' : World} (r : w'.ownsRow B 3 1 (.slice (some ⟨w.heap.size, 0, none⟩) n n) n (madeCells (Value.int .i64 0).cells (n * 1)).toList) (g : w.grownBy w' none) :
    S4 W B n ss w' bm gm gi ci gc cc M gf gx w.heap.size 0 ids f := by
  refine ⟨h.kept g, h.s.s.far, h.s.ne, ?_, ⟨_, r, ⟨by simpa using r.1, fun _ => 0, fun p hp => (made_get n p hp).trans rfl, fun j hj => by omega⟩⟩⟩
  obtain ⟨xs, hr, hf⟩ := h.row
  have := (ltSl hr).2
  omega

theorem S4.step {gf gx gr : Nat} (h : S4 W B n ss w bm gm gi ci gc cc M gf gx gr k ids f) (hk : k < n) :
    S4 W B n ss ((w.setCell ⟨gr, pos f n k, none⟩ (.int .i64 k)).setCell ⟨gx, f k, none⟩ (.int .i64 (pos f n k + 1 : Nat))) bm gm gi ci gc cc M gf gx gr (k + 1) ids f := by
  obtain ⟨xs, hr, hrec⟩ := h.row
  obtain ⟨ys, hy, hn⟩ := h.s.row
  have hlt : ∀ j, j < n → f j < M := fun j hj => by rw [h.s.s.s.len]; exact h.s.s.s.grp.lt j hj
  refine ⟨⟨(h.s.s.set (ltSl hr).1 h.far h.nf _).set (ltSl hy).1 h.s.far h.s.ne _, h.s.far, h.s.ne, ⟨_, ((setSl hy (Ne.symm h.nx) _).stored (f k) _).1, hn.bump (hlt k hk)⟩⟩, h.far, h.nf, h.nx, ⟨_, setSl (hr.stored _ _).1 h.nx _, hrec.step hk⟩⟩

/-- WHAT zzGroup LEAVES. -/
structure GR (W : World) (B n : Nat) (ss : List ByteArray) (w : World) (bm gi ci M gr gf : Nat) (ids : List ByteArray) (f : Nat → Nat) : Prop where
  own : w.ownsRow B 9 1 (.slice (some ⟨gi, 0, none⟩) M ci) M (ids.map .string)
  map : ∃ D, w.ownsMap Try.prog 9 (plainElem Try.prog 3) bm n D ∧ Dmap ids D
  recs : ∃ xs, w.ownsRow B 3 1 (.slice (some ⟨gr, 0, none⟩) n n) n xs ∧ Rec f n n xs
  first : ∃ xs, w.ownsRow B 3 1 (.slice (some ⟨gf, 0, none⟩) (M + 1) (M + 1)) (M + 1) xs ∧ Fst f n (M + 1) M xs
  len : M = ids.length
  grp : Grp ss n ids f
  below : Below B W w
  size : B ≤ w.heap.size

theorem S4.out {gf gx gr : Nat} (h : S4 W B n ss w bm gm gi ci gc cc M gf gx gr n ids f) : GR W B n ss w bm gi ci M gr gf ids f :=
  ⟨h.s.s.s.own, h.s.s.s.map, h.row, h.s.s.row, h.s.s.s.len, h.s.s.s.grp, h.s.s.s.below, h.s.s.s.size⟩

end Go.Proofs.Qxb6601090a
