import Derived.Test.Qxb6605374aLaw6
namespace Go.Proofs.Qxb6605374a

theorem bl_trans : ∀ {x y z : List UInt8}, Op.bytesLess x y = true → Op.bytesLess y z = true → Op.bytesLess x z = true
  | _, [], _, h, _ => by cases h1 : (‹_› : List UInt8) <;> simp [Op.bytesLess] at h
  | _, _ :: _, [], _, h => by simp [Op.bytesLess] at h
  | [], _ :: _, _ :: _, _, _ => rfl
  | a :: x, b :: y, c :: z, h, k => by
    simp only [Op.bytesLess, Bool.or_eq_true, Bool.and_eq_true, decide_eq_true_eq, beq_iff_eq] at h k ⊢
    rcases h with h | ⟨rfl, h⟩ <;> rcases k with k | ⟨rfl, k⟩
    · exact .inl (UInt8.lt_trans h k)
    · exact .inl h
    · exact .inl k
    · exact .inr ⟨rfl, bl_trans h k⟩

theorem bl_tri : ∀ {x y : List UInt8}, Op.bytesLess x y = false → Op.bytesLess y x = false → x = y
  | [], [], _, _ => rfl
  | [], _ :: _, h, _ => by simp [Op.bytesLess] at h
  | _ :: _, [], _, h => by simp [Op.bytesLess] at h
  | a :: x, b :: y, h, k => by
    simp only [Op.bytesLess, Bool.or_eq_false_iff, Bool.and_eq_false_iff, decide_eq_false_iff_not, beq_eq_false_iff_ne, ne_eq] at h k
    have hab : a = b := by
      have h1 := UInt8.not_lt.1 h.1
      have h2 := UInt8.not_lt.1 k.1
      exact UInt8.le_antisymm h2 h1
    subst hab
    rw [bl_tri (h.2.resolve_left (fun n => n rfl)) (k.2.resolve_left (fun n => n rfl))]

/-- by name -/
def lt (a b : Tg) : Prop := lessB a.1 b.1 = true

theorem lt_trans {a b c : Tg} (h : lt a b) (k : lt b c) : lt a c := bl_trans h k
theorem lt_irrefl (a : Tg) : ¬ lt a a := fun h => by rw [lt, lessB_irrefl] at h; cases h
theorem lt_ne {a b : Tg} (h : lt a b) : (a.1.toList == b.1.toList) = false := by
  rw [beq_eq_false_iff_ne]
  intro e
  have : lessB a.1 b.1 = false := by unfold lessB; rw [e]; exact less_irrefl _
  rw [lt, this] at h
  cases h
theorem lt_asymm {a b : Tg} (h : lt a b) : lessB b.1 a.1 = false := by
  cases k : lessB b.1 a.1
  · rfl
  · exact absurd (lt_trans h k) (lt_irrefl a)
theorem lt_of_not {a b : Tg} (h : lessB a.1 b.1 = false) (k : (a.1.toList == b.1.toList) = false) : lt b a := by
  cases j : lessB b.1 a.1
  · have e := bl_tri h j
    rw [e] at k
    simp at k
  · exact j
theorem lt_congr_left {a b c : Tg} (h : (a.1.toList == b.1.toList) = true) (k : lt b c) : lt a c := by
  have e : a.1.toList = b.1.toList := by simpa using h
  show lessB a.1 c.1 = true
  unfold lessB
  rw [e]
  exact k

/-- names strictly ascend -/
def Asc (ts : List Tg) : Prop := ts.Pairwise lt

def namB (ts : List Tg) (nm : ByteArray) : Bool := ts.any fun t => t.1.toList == nm.toList

/-- the tags of E that S does not name -/
def want (E S : List Tg) : List Tg := E.filter fun t => !namB S t.1

theorem carB_far {E : List Tg} {u : Tg} (h : ∀ e ∈ E, lt u e) : carB E u.1 u.2 = false := by
  rw [carB, List.any_eq_false]
  intro e he
  have : (e.1.toList == u.1.toList) = false := by
    have := lt_ne (h e he)
    rw [beq_eq_false_iff_ne] at this ⊢
    exact fun k => this k.symm
  rw [this]
  simp

theorem carB_skip {t u : Tg} {E : List Tg} (h : lt t u) : carB (t :: E) u.1 u.2 = carB E u.1 u.2 := by
  rw [carB_cons, lt_ne h]
  rfl

theorem namB_cons_far {s e : Tg} {S : List Tg} (h : lt s e) : namB (s :: S) e.1 = namB S e.1 := by
  simp only [namB, List.any_cons, lt_ne h, Bool.false_or]
theorem namB_far {t : Tg} {S : List Tg} (h : ∀ s ∈ S, lt t s) : namB S t.1 = false := by
  rw [namB, List.any_eq_false]
  intro s hs
  have := lt_ne (h s hs)
  rw [beq_eq_false_iff_ne] at this
  simpa using fun k => this k.symm

theorem want_nil (E : List Tg) : want E [] = E := by
  unfold want
  rw [List.filter_eq_self]
  intro a _
  rfl
theorem want_keep {t : Tg} {E S : List Tg} (h : ∀ s ∈ S, lt t s) : want (t :: E) S = t :: want E S := by
  simp only [want, List.filter_cons, namB_far h, Bool.not_false, if_true]
theorem want_drop {t s : Tg} {E S : List Tg} (he : (s.1.toList == t.1.toList) = true) (hE : ∀ e ∈ E, lt t e) : want (t :: E) (s :: S) = want E S := by
  have h1 : namB (s :: S) t.1 = true := by simp only [namB, List.any_cons, he, Bool.true_or]
  simp only [want, List.filter_cons, h1, Bool.not_true, Bool.false_eq_true, if_false]
  apply List.filter_congr
  intro e hee
  rw [namB_cons_far (lt_congr_left he (hE e hee))]

/-- ALL OF THE STAMP IS CARRIED. -/
theorem jd_all : ∀ (E S : List Tg), Asc E → Asc S → (∀ s ∈ S, carB E s.1 s.2 = true) → jd E S = some (want E S, [])
  | [], S, _, _, h => by
    cases S with
    | nil => rfl
    | cons s S => have := h s (List.mem_cons_self ..); simp [carB] at this
  | t :: E, [], _, _, _ => by rw [jd_empty, want_nil]
  | t :: E, s :: S, hE, hS, h => by
    obtain ⟨hE1, hE2⟩ := List.pairwise_cons.1 hE
    obtain ⟨hS1, hS2⟩ := List.pairwise_cons.1 hS
    cases hl : lessB s.1 t.1
    · cases he : (s.1.toList == t.1.toList)
      · have hts : lt t s := lt_of_not hl he
        have hall : ∀ u ∈ s :: S, lt t u := fun u hu => by
          rcases List.mem_cons.1 hu with rfl | hu
          · exact hts
          · exact lt_trans hts (hS1 u hu)
        rw [jd_other hl he, jd_all E (s :: S) hE2 hS (fun u hu => by rw [← carB_skip (hall u hu)]; exact h u hu), want_keep hall]
        rfl
      · have hg : s.2 = t.2 := by
          have h1 := h s (List.mem_cons_self ..)
          rw [carB_cons] at h1
          rw [carB_far (fun e hee => lt_congr_left he (hE1 e hee)), Bool.or_false] at h1
          simp only [Bool.and_eq_true, beq_iff_eq] at h1
          exact h1.2.symm
        rw [jd_same hl he hg, jd_all E S hE2 hS2 (fun u hu => ?_), want_drop he hE1]
        have htu : lt t u := lt_congr_left (by rw [beq_iff_eq] at he ⊢; exact he.symm) (hS1 u hu)
        rw [← carB_skip htu]
        exact h u (List.mem_cons_of_mem _ hu)
    · have hst : lt s t := hl
      have h1 := h s (List.mem_cons_self ..)
      rw [carB_far (fun e hee => by
        rcases List.mem_cons.1 hee with rfl | hee
        · exact hst
        · exact lt_trans hst (hE1 e hee))] at h1
      cases h1

/-- A TAG OF THE STAMP IS NOT CARRIED, and the entry has a name at it or behind. -/
theorem jd_bad : ∀ (E S1 : List Tg) (b : Tg) (S2 : List Tg), Asc E → Asc (S1 ++ b :: S2) → (∀ s ∈ S1, carB E s.1 s.2 = true) → carB E b.1 b.2 = false → (∃ e ∈ E, lessB e.1 b.1 = false) → jd E (S1 ++ b :: S2) = none
  | [], _, _, _, _, _, _, _, ⟨e, he, _⟩ => by cases he
  | t :: E, [], b, S2, hE, _, _, hb, hx => by
    obtain ⟨hE1, hE2⟩ := List.pairwise_cons.1 hE
    show jd (t :: E) (b :: S2) = none
    cases hl : lessB b.1 t.1
    · cases he : (b.1.toList == t.1.toList)
      · have htb : lt t b := lt_of_not hl he
        have hx' : ∃ e ∈ E, lessB e.1 b.1 = false := by
          obtain ⟨e, he1, he2⟩ := hx
          rcases List.mem_cons.1 he1 with rfl | he1
          · rw [htb] at he2; cases he2
          · exact ⟨e, he1, he2⟩
        rw [jd_other hl he]
        have := jd_bad E [] b S2 hE2 ‹_› (fun s hs => by cases hs) (by rw [← carB_skip htb]; exact hb) hx'
        rw [show ([] : List Tg) ++ b :: S2 = b :: S2 from rfl] at this
        rw [this]
        rfl
      · have hg : ¬ b.2 = t.2 := fun hg => by
          rw [carB_cons] at hb
          have : (t.1.toList == b.1.toList) = true := by rw [beq_iff_eq] at he ⊢; exact he.symm
          rw [this, hg] at hb
          simp at hb
        exact jd_gen hl he hg
    · exact jd_less hl
  | t :: E, s :: S1, b, S2, hE, hS, hc, hb, hx => by
    obtain ⟨hE1, hE2⟩ := List.pairwise_cons.1 hE
    have hS' : Asc (s :: (S1 ++ b :: S2)) := hS
    obtain ⟨hS1, hS2⟩ := List.pairwise_cons.1 hS'
    have hsb : lt s b := hS1 b (by simp)
    show jd (t :: E) (s :: (S1 ++ b :: S2)) = none
    cases hl : lessB s.1 t.1
    · cases he : (s.1.toList == t.1.toList)
      · have hts : lt t s := lt_of_not hl he
        have htb : lt t b := lt_trans hts hsb
        have hx' : ∃ e ∈ E, lessB e.1 b.1 = false := by
          obtain ⟨e, he1, he2⟩ := hx
          rcases List.mem_cons.1 he1 with rfl | he1
          · rw [htb] at he2; cases he2
          · exact ⟨e, he1, he2⟩
        rw [jd_other hl he]
        have := jd_bad E (s :: S1) b S2 hE2 hS (fun u hu => by
          have htu : lt t u := by
            rcases List.mem_cons.1 hu with rfl | hu
            · exact hts
            · exact lt_trans hts (hS1 u (by simp [hu]))
          rw [← carB_skip htu]; exact hc u hu) (by rw [← carB_skip htb]; exact hb) hx'
        rw [show (s :: S1) ++ b :: S2 = s :: (S1 ++ b :: S2) from rfl] at this
        rw [this]
        rfl
      · have htb : lt t b := lt_congr_left (by rw [beq_iff_eq] at he ⊢; exact he.symm) hsb
        have hg : s.2 = t.2 := by
          have h1 := hc s (List.mem_cons_self ..)
          rw [carB_cons, carB_far (fun e hee => lt_congr_left he (hE1 e hee)), Bool.or_false] at h1
          simp only [Bool.and_eq_true, beq_iff_eq] at h1
          exact h1.2.symm
        have hx' : ∃ e ∈ E, lessB e.1 b.1 = false := by
          obtain ⟨e, he1, he2⟩ := hx
          rcases List.mem_cons.1 he1 with rfl | he1
          · rw [htb] at he2; cases he2
          · exact ⟨e, he1, he2⟩
        rw [jd_same hl he hg]
        refine jd_bad E S1 b S2 hE2 hS2 (fun u hu => ?_) (by rw [← carB_skip htb]; exact hb) hx'
        have htu : lt t u := lt_congr_left (by rw [beq_iff_eq] at he ⊢; exact he.symm) (hS1 u (by simp [hu]))
        rw [← carB_skip htu]
        exact hc u (List.mem_cons_of_mem _ hu)
    · exact jd_less hl

/-- A TAG OF THE STAMP IS NOT CARRIED, and all of the entry's names lie ahead of it. -/
theorem jd_end : ∀ (E S1 : List Tg) (b : Tg) (S2 : List Tg), Asc E → Asc (S1 ++ b :: S2) → (∀ s ∈ S1, carB E s.1 s.2 = true) → (∀ e ∈ E, lt e b) → jd E (S1 ++ b :: S2) = some (want E (S1 ++ b :: S2), b :: S2)
  | [], S1, b, S2, _, _, hc, _ => by
    cases S1 with
    | nil => rfl
    | cons s S1 => have := hc s (List.mem_cons_self ..); simp [carB] at this
  | t :: E, [], b, S2, hE, hS, _, hx => by
    obtain ⟨hE1, hE2⟩ := List.pairwise_cons.1 hE
    have htb := hx t (List.mem_cons_self ..)
    have hne : (b.1.toList == t.1.toList) = false := by
      have := lt_ne htb
      rw [beq_eq_false_iff_ne] at this ⊢
      exact fun k => this k.symm
    have hall : ∀ u ∈ b :: S2, lt t u := fun u hu => by
      rcases List.mem_cons.1 hu with rfl | hu
      · exact htb
      · exact lt_trans htb ((List.pairwise_cons.1 (show Asc (b :: S2) from hS)).1 u hu)
    show jd (t :: E) (b :: S2) = some (want (t :: E) (b :: S2), b :: S2)
    rw [jd_other (lt_asymm htb) hne, want_keep hall]
    have := jd_end E [] b S2 hE2 hS (fun s hs => by cases hs) (fun e he => hx e (List.mem_cons_of_mem _ he))
    rw [show ([] : List Tg) ++ b :: S2 = b :: S2 from rfl] at this
    rw [this]
    rfl
  | t :: E, s :: S1, b, S2, hE, hS, hc, hx => by
    obtain ⟨hE1, hE2⟩ := List.pairwise_cons.1 hE
    have hS' : Asc (s :: (S1 ++ b :: S2)) := hS
    obtain ⟨hS1, hS2⟩ := List.pairwise_cons.1 hS'
    show jd (t :: E) (s :: (S1 ++ b :: S2)) = some (want (t :: E) (s :: (S1 ++ b :: S2)), b :: S2)
    cases hl : lessB s.1 t.1
    · cases he : (s.1.toList == t.1.toList)
      · have hts : lt t s := lt_of_not hl he
        have hall : ∀ u ∈ s :: (S1 ++ b :: S2), lt t u := fun u hu => by
          rcases List.mem_cons.1 hu with rfl | hu
          · exact hts
          · exact lt_trans hts (hS1 u hu)
        rw [jd_other hl he, want_keep hall]
        have := jd_end E (s :: S1) b S2 hE2 hS (fun u hu => by
          rw [← carB_skip (hall u (by rcases List.mem_cons.1 hu with rfl | hu <;> simp [*]))]; exact hc u hu) (fun e hee => hx e (List.mem_cons_of_mem _ hee))
        rw [show (s :: S1) ++ b :: S2 = s :: (S1 ++ b :: S2) from rfl] at this
        rw [this]
        rfl
      · have hg : s.2 = t.2 := by
          have h1 := hc s (List.mem_cons_self ..)
          rw [carB_cons, carB_far (fun e hee => lt_congr_left he (hE1 e hee)), Bool.or_false] at h1
          simp only [Bool.and_eq_true, beq_iff_eq] at h1
          exact h1.2.symm
        rw [jd_same hl he hg, want_drop he hE1]
        refine jd_end E S1 b S2 hE2 hS2 (fun u hu => ?_) (fun e hee => hx e (List.mem_cons_of_mem _ hee))
        have htu : lt t u := lt_congr_left (by rw [beq_iff_eq] at he ⊢; exact he.symm) (hS1 u (by simp [hu]))
        rw [← carB_skip htu]
        exact hc u (List.mem_cons_of_mem _ hu)
    · have hst : lt s t := hl
      have h1 := hc s (List.mem_cons_self ..)
      rw [carB_far (fun e hee => by
        rcases List.mem_cons.1 hee with rfl | hee
        · exact hst
        · exact lt_trans hst (hE1 e hee))] at h1
      cases h1

/-- neighbours ascend: all ascend -/
theorem asc_of_adj : ∀ ts : List Tg, (∀ i, i + 1 < ts.length → lt (tg ts i) (tg ts (i + 1))) → Asc ts
  | [], _ => List.Pairwise.nil
  | [t], _ => List.pairwise_singleton ..
  | t :: u :: ts, h => by
    have h1 : lt t u := h 0 (by simp)
    have h2 : Asc (u :: ts) := asc_of_adj (u :: ts) (fun i hi => h (i + 1) (by simp at hi ⊢; omega))
    refine List.pairwise_cons.2 ⟨fun v hv => ?_, h2⟩
    rcases List.mem_cons.1 hv with rfl | hv
    · exact h1
    · exact lt_trans h1 ((List.pairwise_cons.1 h2).1 v hv)
end Go.Proofs.Qxb6605374a
