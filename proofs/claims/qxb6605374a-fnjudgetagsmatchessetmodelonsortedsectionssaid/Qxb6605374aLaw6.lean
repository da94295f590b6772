import Derived.Test.Qxb6605374aCopy
namespace Go.Proofs.Qxb6605374a

theorem less_irrefl : ∀ l : List UInt8, Op.bytesLess l l = false
  | [] => rfl
  | x :: l => by
    have h : (x < x) = False := by simp
    simp [Op.bytesLess, less_irrefl l]

theorem lessB_irrefl (a : ByteArray) : lessB a a = false := less_irrefl _

theorem jd_empty : ∀ E : List Tg, jd E [] = some (E, [])
  | [] => rfl
  | t :: E => by rw [jd_nil, jd_empty E]; rfl

theorem jd_self : ∀ E : List Tg, jd E E = some ([], [])
  | [] => rfl
  | t :: E => by rw [jd_same (lessB_irrefl _) (by simp) rfl, jd_self E]

/-- e is t, as the law asks it -/
def isT (e t : Tg) : Bool := (e.1.toList == t.1.toList) && (e.2 == t.2)

theorem isT_self (t : Tg) : isT t t = true := by simp [isT]

theorem carB_cons (t : Tg) (E : List Tg) (nm : ByteArray) (g : Nat) : carB (t :: E) nm g = (((t.1.toList == nm.toList) && (t.2 == g)) || carB E nm g) := by simp [carB]

theorem jd_sound : ∀ (E S o : List Tg), jd E S = some (o, []) → o.length + S.length = E.length ∧ (∀ s ∈ S, carB E s.1 s.2 = true) ∧ o.Sublist E
  | [], S, o, h => by
    simp only [jd, Option.some.injEq, Prod.mk.injEq] at h
    obtain ⟨rfl, rfl⟩ := h
    exact ⟨rfl, fun s hs => by simp at hs, List.Sublist.slnil⟩
  | t :: E, [], o, h => by
    rw [jd_empty] at h
    simp only [Option.some.injEq, Prod.mk.injEq, and_true] at h
    subst h
    exact ⟨rfl, fun s hs => by simp at hs, List.Sublist.refl _⟩
  | t :: E, s :: S, o, h => by
    cases hl : lessB s.1 t.1
    · cases he : (s.1.toList == t.1.toList)
      · rw [jd_other hl he] at h
        obtain ⟨⟨o', r⟩, h1, h2⟩ := Option.map_eq_some_iff.1 h
        simp only [Prod.mk.injEq] at h2
        obtain ⟨rfl, rfl⟩ := h2
        obtain ⟨i1, i2, i3⟩ := jd_sound E (s :: S) o' h1
        refine ⟨by simp only [List.length_cons] at i1 ⊢; omega, fun u hu => by rw [carB_cons, i2 u hu, Bool.or_true], i3.cons_cons t⟩
      · by_cases hg : s.2 = t.2
        · rw [jd_same hl he hg] at h
          obtain ⟨i1, i2, i3⟩ := jd_sound E S o h
          refine ⟨by simp only [List.length_cons] at i1 ⊢; omega, fun u hu => ?_, i3.cons t⟩
          rw [carB_cons]
          rcases List.mem_cons.1 hu with rfl | hu
          · have : (t.1.toList == u.1.toList) = true := by
              rw [beq_iff_eq] at he ⊢; exact he.symm
            rw [this, hg]
            simp
          · rw [i2 u hu, Bool.or_true]
        · rw [jd_gen hl he hg] at h; cases h
    · rw [jd_less hl] at h; cases h

/-! ### a subsequence, met from the left -/
theorem sub_skip {x e : Tg} {xs rest : List Tg} (h : (x :: xs).Sublist (e :: rest)) (hne : isT e x = false) : (x :: xs).Sublist rest := by
  cases h with
  | cons _ h => exact h
  | cons_cons _ h => rw [isT_self] at hne; cases hne
theorem sub_take {x e : Tg} {xs rest : List Tg} (h : (x :: xs).Sublist (e :: rest)) : xs.Sublist rest := by
  cases h with
  | cons _ h => exact (List.sublist_cons_self x xs).trans h
  | cons_cons _ h => exact h

theorem drop_tg {ts : List Tg} {i : Nat} (h : i < ts.length) : ts.drop i = tg ts i :: ts.drop (i + 1) := by
  rw [List.drop_eq_getElem_cons h]
  simp [tg, h]
end Go.Proofs.Qxb6605374a
