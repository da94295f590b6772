import Derived.Test.Qxb6605371aPlain
namespace Go.Proofs.Qxb6605371a
open Go.ChangeShapes Go.WideShapes Go.ChangeAt Go.RowKit

theorem Try.info5 : (Try.prog.info? 5).map (fun i => (i.zero, i.size, i.bytes)) = some (some (.int .u8 0), 1, 1) := by kernel_rfl

/-- 'v' IS A SLICE OF BYTES OF THE CALL's OWN, NOT NIL, HOLDING L. -/
def Out (B : Nat) (v : Value) (L : List UInt8) (w : World) : Prop :=
  B ≤ w.heap.size ∧ w.ownsRow B 5 1 v L.length (Lib.byteCells L) ∧ v ≠ .slice none 0 0

theorem Out.str {B : Nat} {v v' : Value} {L : List UInt8} {s : ByteArray} {w w' : World} (h : Out B v L w) (h2 : w'.ownsRow B 5 1 v' (L.length + s.size) (Lib.byteCells L ++ Lib.strCells s)) (h3 : w.grownBy w' v.ownBlock)
    (h4 : v' = .slice none 0 0 ↔ v = .slice none 0 0 ∧ s.size = 0) : Out B v' (L ++ s.data.toList) w' ∧ Below B w w' := by
  refine ⟨⟨Nat.le_trans h.1 h3.size, ?_, fun e => h.2.2 (h4.1 e).1⟩, (Below.refl _ _).grown h3 h.1 fun k hk => (h.2.1.lt k hk).1⟩
  have hs : s.data.toList.length = s.size := Array.length_toList
  rw [List.length_append, hs, Lib.byteCells_append]
  exact h2

theorem Out.byte {B : Nat} {v v' : Value} {L : List UInt8} {x : UInt8} {o : Obj} {w w' : World} (h : Out B v L w) (h2 : w'.ownsRow B 5 1 v' (L.length + 1) (Lib.byteCells L ++ [.int .u8 x.toNat])) (h3 : (w.alloc o).grownBy w' v.ownBlock)
    (h4 : v' = .slice none 0 0 ↔ v = .slice none 0 0 ∧ 1 = 0) : Out B v' (L ++ [x]) w' ∧ Below B w w' := by
  have hs := h3.size
  simp at hs
  refine ⟨⟨by have := h.1; omega, ?_, fun e => h.2.2 (h4.1 e).1⟩, ((Below.refl B w).alloc h.1 o).grown h3 (by have := h.1; simp; omega) fun k hk => (h.2.1.lt k hk).1⟩
  rw [List.length_append, Lib.byteCells_append]
  exact h2

theorem push_fold (l : List UInt8) : ∀ s : ByteArray, (l.map fun b => ((b.toNat : Nat) : Int)).foldl (fun r n => r.push (UInt8.ofNat n.toNat)) s = ⟨(s.data.toList ++ l).toArray⟩ := by
  induction l with
  | nil => intro s; simp
  | cons x l ih =>
    intro s
    rw [List.map_cons, List.foldl_cons, ih]
    have : (s.push (UInt8.ofNat ((x.toNat : Nat) : Int).toNat)).data.toList = s.data.toList ++ [x] := by
      simp [ByteArray.push]
    rw [this]
    simp

theorem Out.conv {B : Nat} {v : Value} {L : List UInt8} {w : World} (h : Out B v L w) : (convert 32 9 v).run Try.prog w = .ok (.string (S L)) w := by
  obtain ⟨_, hown, hne⟩ := h
  rcases hown.2 with ⟨hv, _⟩ | ⟨g, cap, cur, rfl, hb, hg, hnc, hcm, hcs, htake⟩
  · have hl : L.length = 0 := by
      have := hown.1; simp_all
    exact absurd hv hne
  · rw [run_convert_bytes_string w 32 9 5 _ _ _ Try.underlying32 Try.underlying5 Try.underlying9]
    have hl : L.length = (Lib.byteCells L).length := (Lib.byteCells_length L).symm
    have e : Lib.byteCells L = (L.map fun b => ((b.toNat : Nat) : Int)).map (Value.int .u8) := by simp [Lib.byteCells]
    have hload : (loadCells ⟨g, 0, none⟩ L.length).run Try.prog w = .ok (Lib.byteCells L).toArray w := by
      have := run_loadCells_list (P := Try.prog) (w := w) ⟨g, 0, none⟩ (Lib.byteCells L) (hown.cells rfl)
      rw [← hl] at this
      exact this
    rw [e] at hload
    rw [run_bytesToString w ⟨g, 0, none⟩ L.length cap _ hload, push_fold]
    simp [S]
end Go.Proofs.Qxb6605371a
