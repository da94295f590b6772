import Derived.Test.Qxb6605371aClone
namespace Go.Proofs.Qxb6605371a
open Go.ChangeShapes Go.WideShapes Go.ChangeAt Go.RowKit

/-- Is a line more indented than its text? -/
def spB (s : ByteArray) : Bool := decide (0 < s.size) && (((s.data.toList.getD 0 0).toNat : Int) == 32 || ((s.data.toList.getD 0 0).toNat : Int) == 9)

theorem spB_some (s : ByteArray) (h : 0 < s.size) : spB s = ((s[0].toNat : Int) == 32 || (s[0].toNat : Int) == 9) := by
  obtain ⟨⟨l⟩⟩ := s
  match l, h with
  | x :: t, h => simp [spB]; rfl

theorem spB_none (s : ByteArray) (h : s.size = 0) : spB s = false := by simp [spB, h]

theorem nil_of_size (s : ByteArray) (h : s.size = 0) : s.toList = [] := by
  rw [ByteArray.toList_eq]
  have : s.data = #[] := Array.eq_empty_of_size_eq_zero h
  rw [this]
theorem ne_nil_of_size (s : ByteArray) (h : 0 < s.size) : ¬ s.toList = [] := by
  rw [ByteArray.toList_eq]
  intro e
  have : s.data.toList.length = s.size := Array.length_toList
  rw [e] at this
  simp at this
  omega
theorem isEmpty_of_size (s : ByteArray) (h : 0 < s.size) : s.toList.isEmpty = false := by
  have := ne_nil_of_size s h
  cases hl : s.toList with
  | nil => exact absurd hl this
  | cons _ _ => rfl

theorem spaced20_some (s : ByteArray) (w : World) (h : 0 < s.size) :
    Calls Try.prog 20 #[.string s] w fun e w' => e = .returned (.bool (spB s)) ∧ w = w' := by
  have HS := hid (spB_some s h)
  by_cases h1 : (s[0].toNat : Int) = 32
  · have HT : Hid (spB s = true) := by show _ = _; rw [HS.out]; simp [h1]
    clear HS
    go_enter Try.func20, Try.ntmps20
    go_wp2
    go_ret
    exact ⟨by rw [HT.out]; rfl, rfl⟩
  · go_enter Try.func20, Try.ntmps20
    go_wp2
    go_ret
    exact ⟨by rw [HS.out]; rfl, rfl⟩

theorem spaced20_none (s : ByteArray) (w : World) (h : s.size = 0) :
    Calls Try.prog 20 #[.string s] w fun e w' => e = .returned (.bool false) ∧ w = w' := by
  go_enter Try.func20, Try.ntmps20
  go_wp2
  go_ret
  exact ⟨rfl, rfl⟩

theorem spaced20 (s : ByteArray) (w : World) :
    Calls Try.prog 20 #[.string s] w fun e w' => e = .returned (.bool (spB s)) ∧ w = w' := by
  by_cases h : 0 < s.size
  · exact spaced20_some s w h
  · rw [spB_none s (by omega)]; exact spaced20_none s w (by omega)

theorem spaced24_some (s : ByteArray) (w : World) (h : 0 < s.size) :
    Calls Try.prog 24 #[.string s] w fun e w' => e = .returned (.bool (spB s)) ∧ w = w' := by
  have HS := hid (spB_some s h)
  have hE := isEmpty_of_size s h
  have hN := ne_nil_of_size s h
  by_cases h1 : (s[0].toNat : Int) = 32
  · have HT : Hid (spB s = true) := by show _ = _; rw [HS.out]; simp [h1]
    clear HS
    go_enter Try.func24, Try.ntmps24
    go_wp2
    go_ret
    exact ⟨by rw [HT.out]; rfl, rfl⟩
  · go_enter Try.func24, Try.ntmps24
    go_wp2
    go_ret
    exact ⟨by rw [HS.out]; rfl, rfl⟩

theorem spaced24_none (s : ByteArray) (w : World) (h : s.toList = []) :
    Calls Try.prog 24 #[.string s] w fun e w' => e = .returned (.bool false) ∧ w = w' := by
  go_enter Try.func24, Try.ntmps24
  go_wp2
  go_ret
  exact ⟨rfl, rfl⟩

theorem spaced24 (s : ByteArray) (w : World) :
    Calls Try.prog 24 #[.string s] w fun e w' => e = .returned (.bool (spB s)) ∧ w = w' := by
  by_cases h : 0 < s.size
  · exact spaced24_some s w h
  · rw [spB_none s (by omega)]; exact spaced24_none s w (nil_of_size s (by omega))

/-! ### the plain function -/
/-- n line breaks -/
def nls (n : Nat) : List UInt8 := List.replicate n 10

/-- what stands between the line of text at p (or the head, p = -1) and the next one at k -/
def gap (ss : List ByteArray) (folded : Bool) (p : Int) (k : Nat) : List UInt8 :=
  if p < 0 then nls ((k : Int) - p - 1).toNat
  else if (!folded || spB (at' ss k) || spB (at' ss p.toNat)) = true then nls ((k : Int) - p - 1 + 1).toNat
  else if (k : Int) - p - 1 = 0 then [32]
  else nls ((k : Int) - p - 1).toNat

/-- what is written, and the last line of text, behind the first k lines -/
def bt (ss : List ByteArray) (folded : Bool) : Nat → List UInt8 × Int
  | 0 => ([], -1)
  | k + 1 =>
    if (at' ss k).size = 0 then bt ss folded k
    else ((bt ss folded k).1 ++ gap ss folded (bt ss folded k).2 k ++ (at' ss k).data.toList, k)

theorem bt_skip {ss : List ByteArray} {folded : Bool} {k : Nat} (h : (at' ss k).size = 0) : bt ss folded (k + 1) = bt ss folded k := by
  rw [bt, if_pos h]
theorem bt_text {ss : List ByteArray} {folded : Bool} {k : Nat} (h : 0 < (at' ss k).size) : bt ss folded (k + 1) = ((bt ss folded k).1 ++ gap ss folded (bt ss folded k).2 k ++ (at' ss k).data.toList, (k : Int)) := by
  rw [bt, if_neg (by omega)]

/-- the last line of text lies ahead, and is one -/
theorem bt_prev (ss : List ByteArray) (folded : Bool) (k : Nat) : -1 ≤ (bt ss folded k).2 ∧ (bt ss folded k).2 < k ∧ (0 ≤ (bt ss folded k).2 → 0 < (at' ss (bt ss folded k).2.toNat).size) := by
  induction k with
  | zero => simp [bt]
  | succ k ih =>
    by_cases h : (at' ss k).size = 0
    · rw [bt_skip h]; exact ⟨ih.1, by have := ih.2.1; omega, ih.2.2⟩
    · rw [bt_text (by omega)]
      refine ⟨by show -1 ≤ (k : Int); omega, by show (k : Int) < _; omega, fun _ => ?_⟩
      simp
      omega

theorem gap_le (ss : List ByteArray) (folded : Bool) (p : Int) (k : Nat) (h1 : -1 ≤ p) (h2 : p < k) : ((gap ss folded p k).length : Int) ≤ k - p := by
  unfold gap nls
  split
  · simp; omega
  · split
    · simp; omega
    · split
      · simp; omega
      · simp; omega

theorem bt_le (ss : List ByteArray) (folded : Bool) (k : Nat) : ((bt ss folded k).1.length : Int) ≤ tot ss k + ((bt ss folded k).2 + 1) := by
  induction k with
  | zero => simp [bt, tot]
  | succ k ih =>
    have e : tot ss (k + 1) = tot ss k + (at' ss k).size := rfl
    by_cases h : (at' ss k).size = 0
    · rw [bt_skip h]; omega
    · obtain ⟨p1, p2, _⟩ := bt_prev ss folded k
      have hg := gap_le ss folded _ k p1 p2
      have hs : (at' ss k).data.toList.length = (at' ss k).size := Array.length_toList
      rw [bt_text (by omega)]
      simp only [List.length_append, hs]
      omega

/-- 'x' IS THE LAST LINE OF TEXT, or -1. -/
def IsLast (ss : List ByteArray) (x : Int) : Prop :=
  (x = -1 ∨ ∃ k : Nat, x = k ∧ k < ss.length ∧ 0 < (at' ss k).size) ∧ ∀ i : Nat, x < i → i < ss.length → (at' ss i).size = 0

theorem IsLast.one {ss : List ByteArray} {x y : Int} (h : IsLast ss x) (k : IsLast ss y) : x = y := by
  obtain ⟨h1, h2⟩ := h
  obtain ⟨k1, k2⟩ := k
  rcases h1 with rfl | ⟨a, rfl, ha, ha'⟩ <;> rcases k1 with rfl | ⟨b, rfl, hb, hb'⟩
  · rfl
  · have := h2 b (by omega) hb; omega
  · have := k2 a (by omega) ha; omega
  · rcases Nat.lt_trichotomy a b with hab | hab | hab
    · have := h2 b (by omega) hb; omega
    · rw [hab]
    · have := k2 a (by omega) ha; omega

theorem IsLast.bounds {ss : List ByteArray} {x : Int} (h : IsLast ss x) : -1 ≤ x ∧ x < ss.length := by
  rcases h.1 with rfl | ⟨k, rfl, hk, _⟩ <;> omega

/-- what chomping leaves at the end -/
def tail (chomp : Int) (breaks : Nat) (last : Int) : List UInt8 :=
  if chomp = 45 ∨ (last < 0 ∧ chomp = 0) then [] else if chomp = 43 then nls breaks else if 0 < breaks then [10] else []

/-- THE WHOLE TEXT -/
def text (ss : List ByteArray) (folded : Bool) (chomp : Int) (breaks : Nat) (last : Int) : List UInt8 :=
  (bt ss folded (last + 1).toNat).1 ++ tail chomp breaks last

end Go.Proofs.Qxb6605371a
