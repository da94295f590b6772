import Derived.Test.Qxb6605371aBlock
namespace Go.Proofs.Qxb6605371a

/-- the next line of text behind k -/
def IsNext (ss : List ByteArray) (k m : Nat) : Prop := k < m ∧ 0 < (at' ss m).size ∧ ∀ i, k < i → i < m → (at' ss i).size = 0

/-- how the break behind the line of text at p is written: 0: dropped, 1: a line break, 2: a blank -/
def sepN (ss : List ByteArray) (f : Bool) (p m : Nat) : Nat := if (f && !spB (at' ss p) && !spB (at' ss m)) = true then (if m = p + 1 then 2 else 0) else 1

def sepL (s : Nat) : List UInt8 := if s = 1 then [10] else if s = 2 then [32] else []

theorem sepL_le (s : Nat) : (sepL s).length ≤ 1 := by
  unfold sepL
  split
  · simp
  · split <;> simp

theorem bt_head (ss : List ByteArray) (f : Bool) (k : Nat) (h : (bt ss f k).2 < 0) : (bt ss f k).1 = [] ∧ (bt ss f k).2 = -1 := by
  induction k with
  | zero => exact ⟨rfl, rfl⟩
  | succ k ih =>
    by_cases hs : (at' ss k).size = 0
    · rw [bt_skip hs] at h ⊢; exact ih h
    · rw [bt_text (by omega)] at h; simp at h; omega

/-- WHAT THE MODEL HAS WRITTEN BEHIND ITS FIRST k LINES. -/
def MInv (ss : List ByteArray) (f : Bool) (k : Nat) (L : List UInt8) : Prop :=
  ((bt ss f k).2 < 0 ∧ L = nls k) ∨ ∃ p m : Nat, (bt ss f k).2 = p ∧ p < k ∧ k ≤ m ∧ IsNext ss p m ∧ L = (bt ss f k).1 ++ sepL (sepN ss f p m) ++ nls (k - 1 - p)

theorem MInv.zero (ss : List ByteArray) (f : Bool) : MInv ss f 0 [] := .inl ⟨by simp [bt], rfl⟩

theorem nls_succ (n : Nat) : nls (n + 1) = nls n ++ [10] := by simp [nls, List.replicate_succ']
theorem nls_cons (n : Nat) : nls (n + 1) = [10] ++ nls n := by simp [nls, List.replicate_succ]

theorem MInv.skip {ss : List ByteArray} {f : Bool} {k : Nat} {L : List UInt8} (h : MInv ss f k L) (hs : (at' ss k).size = 0) : MInv ss f (k + 1) (L ++ [10]) := by
  rcases h with ⟨h1, rfl⟩ | ⟨p, m, h1, h2, h3, h4, rfl⟩
  · exact .inl ⟨by rw [bt_skip hs]; exact h1, by rw [nls_succ]⟩
  · have hkm : k ≠ m := fun e => by subst e; have := h4.2.1; omega
    refine .inr ⟨p, m, by rw [bt_skip hs]; exact h1, by omega, by omega, h4, ?_⟩
    rw [bt_skip hs, show k + 1 - 1 - p = (k - 1 - p) + 1 by omega, nls_succ, List.append_assoc _ _ [10]]

theorem brk_not (f x y : Bool) : (f && !x && !y) = !(!f || y || x) := by cases f <;> cases x <;> cases y <;> rfl

theorem sep_gap {ss : List ByteArray} {f : Bool} {p k : Nat} (h : p < k) : sepL (sepN ss f p k) ++ nls (k - 1 - p) = gap ss f p k := by
  obtain ⟨q, hq⟩ : ∃ q : Nat, (k : Int) - p - 1 = q := ⟨k - 1 - p, by omega⟩
  have eq : k - 1 - p = q := by omega
  rw [eq]
  by_cases hb : (!f || spB (at' ss k) || spB (at' ss p)) = true
  · rw [gap_break hb hq, nls_cons]
    have : ¬ ((f && !spB (at' ss p) && !spB (at' ss k)) = true) := by
      rw [brk_not, hb]; decide
    rw [sepN, if_neg this]
    rfl
  · have hb' : (!f || spB (at' ss k) || spB (at' ss p)) = false := by simpa using hb
    have : (f && !spB (at' ss p) && !spB (at' ss k)) = true := by
      rw [brk_not, hb']; rfl
    rw [sepN, if_pos this]
    by_cases h0 : k = p + 1
    · rw [if_pos h0, gap_blank hb' (by omega), show q = 0 by omega]
      rfl
    · rw [if_neg h0, gap_fold hb' hq (by omega)]
      rfl

theorem MInv.text {ss : List ByteArray} {f : Bool} {k : Nat} {L : List UInt8} (h : MInv ss f k L) (hs : 0 < (at' ss k).size) : L ++ (at' ss k).data.toList = (bt ss f (k + 1)).1 := by
  rw [bt_text hs]
  show _ = (bt ss f k).1 ++ gap ss f (bt ss f k).2 k ++ (at' ss k).data.toList
  rcases h with ⟨h1, rfl⟩ | ⟨p, m, h1, h2, h3, h4, rfl⟩
  · obtain ⟨e1, e2⟩ := bt_head ss f k h1
    rw [e1, e2, gap_head (q := k) (by omega) (by omega)]
    rfl
  · have hkm : k = m := by
      rcases Nat.lt_or_eq_of_le h3 with h | h
      · have := h4.2.2 k h2 h; omega
      · exact h
    subst hkm
    rw [h1, ← sep_gap h2, List.append_assoc (bt ss f k).1]

theorem MInv.step {ss : List ByteArray} {f : Bool} {k m : Nat} {L : List UInt8} (h : MInv ss f k L) (hs : 0 < (at' ss k).size) (hm : IsNext ss k m) : MInv ss f (k + 1) (L ++ (at' ss k).data.toList ++ sepL (sepN ss f k m)) := by
  refine .inr ⟨k, m, by rw [bt_text hs], by omega, hm.1, hm, ?_⟩
  rw [h.text hs, show k + 1 - 1 - k = 0 by omega]
  simp [nls]

/-- what chomping leaves, as a number of line breaks -/
def tailN (ch : Int) (br : Nat) (last : Int) : Nat := if ch = 43 then br else if ch = 45 then 0 else if ch = 0 ∧ last < 0 then 0 else if 0 < br then 1 else 0

theorem tail_nls (ch : Int) (br : Nat) (last : Int) : tail ch br last = nls (tailN ch br last) := by
  unfold tail tailN
  by_cases h43 : ch = 43
  · rw [if_neg (by omega), if_pos h43, if_pos h43]
  · by_cases h45 : ch = 45
    · rw [if_pos (.inl h45), if_neg h43, if_pos h45]; rfl
    · by_cases h0 : ch = 0 ∧ last < 0
      · rw [if_pos (.inr ⟨h0.2, h0.1⟩), if_neg h43, if_neg h45, if_pos h0]; rfl
      · rw [if_neg (by omega), if_neg h43, if_neg h43, if_neg h45, if_neg h0]
        by_cases hb : 0 < br
        · rw [if_pos hb, if_pos hb]; rfl
        · rw [if_neg hb, if_neg hb]; rfl
end Go.Proofs.Qxb6605371a
