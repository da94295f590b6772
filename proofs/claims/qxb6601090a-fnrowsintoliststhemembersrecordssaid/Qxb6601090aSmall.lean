import Derived.Test.Qxb6601090aGroup2
namespace Go.Proofs.Qxb6601090a
open Go.ChangeShapes Go.WideShapes Go.ChangeAt Go.RowKit Go.Maps Go.ChangeMaps

/-- WHAT A POINTER TO memberRows HOLDS. -/
structure Mr (w : World) (bs bt : Nat) (vi vm vr vf : Value) : Prop where
  c0 : w.cell? ⟨bs, 0, none⟩ = some (.pointer (some ⟨bt, 0, none⟩))
  c1 : w.cell? ⟨bs, 1, none⟩ = some vi
  c2 : w.cell? ⟨bs, 2, none⟩ = some vm
  c3 : w.cell? ⟨bs, 3, none⟩ = some vr
  c4 : w.cell? ⟨bs, 4, none⟩ = some vf

theorem make_mr (a1 : Option Addr) (n1 c1 : Nat) (b2 : Option Nat) (a3 : Option Addr) (n3 c3 : Nat) (a4 : Option Addr) (n4 c4 : Nat) (w : World) :
    Calls Try.prog 10 #[.slice a1 n1 c1, .map b2, .slice a3 n3 c3, .slice a4 n4 c4] w fun e w' => ∃ bs bt, e = .returned (.pointer (some ⟨bs, 0, none⟩)) ∧ Mr w' bs bt (.slice a1 n1 c1) (.map b2) (.slice a3 n3 c3) (.slice a4 n4 c4) ∧ bs < w'.heap.size ∧ Below w.heap.size w w' := by
  go_enter Try.func10, Try.ntmps10
  go_wp2
  go_ret
  generalize (Obj.cells #[Value.string { data := #[] }, Value.slice none 0 0, Value.map none, Value.int IntKind.i64 0, Value.slice none 0 0, Value.int IntKind.i64 0, Value.slice none 0 0, Value.int IntKind.i64 0, Value.slice none 0 0, Value.int IntKind.i64 0, Value.map none, Value.slice none 0 0] 54) = o1
  have e1 : (w.alloc o1).heap.size = w.heap.size + 1 := by simp
  refine ⟨w.heap.size + 1, w.heap.size, rfl, ?_, ?_, ((Below.refl _ _).alloc (Nat.le_refl _) _).alloc (by rw [e1]; omega) _⟩
  · rw [← e1]
    exact ⟨cell_of_row _ _ 0 _ _ _ (heap_alloc_new _ _), cell_of_row _ _ 1 _ _ _ (heap_alloc_new _ _), cell_of_row _ _ 2 _ _ _ (heap_alloc_new _ _), cell_of_row _ _ 3 _ _ _ (heap_alloc_new _ _), cell_of_row _ _ 4 _ _ _ (heap_alloc_new _ _)⟩
  · rw [← e1]
    simp

theorem member_file (bs bt : Nat) (vi vm vr vf : Value) (w : World) (h : Mr w bs bt vi vm vr vf) :
    Calls Try.prog 11 #[.pointer (some ⟨bs, 0, none⟩)] w fun e w' => e = .returned (.pointer (some ⟨bt, 0, none⟩)) ∧ w = w' := by
  have h0 := h.c0
  go_enter Try.func11, Try.ntmps11
  go_wp2
  go_ret
  exact ⟨rfl, rfl⟩

theorem row_record (p : Value) (r : Int) (w : World) :
    Calls Try.prog 13 #[.agg #[p, .int .i64 r]] w fun e w' => e = .returned (.int .i64 r) ∧ Below w.heap.size w w' := by
  go_enter Try.func13, Try.ntmps13
  go_wp2
  go_ret
  exact ⟨rfl, (Below.refl _ _).alloc (Nat.le_refl _) _⟩

theorem row_table (a : Option Addr) (r : Int) (w : World) :
    Calls Try.prog 14 #[.agg #[.pointer a, .int .i64 r]] w fun e w' => e = .returned (.pointer a) ∧ Below w.heap.size w w' := by
  go_enter Try.func14, Try.ntmps14
  go_wp2
  go_ret
  exact ⟨rfl, (Below.refl _ _).alloc (Nat.le_refl _) _⟩

end Go.Proofs.Qxb6601090a
