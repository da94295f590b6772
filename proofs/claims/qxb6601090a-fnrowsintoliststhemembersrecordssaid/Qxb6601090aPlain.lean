import Derived.Test.Qxb6601090aBase
import Derived.Maps.OwnSet
import Derived.Maps.OwnOps
import Derived.Maps.Views
namespace Go.Proofs.Qxb6601090a
open Go.Maps

/-- the key of a string -/
def ky (s : ByteArray) : Lit := .string s.data.toList

theorem ky_inj {s t : ByteArray} (h : ky s = ky t) : s = t := by
  unfold ky at h
  injection h with h
  exact ByteArray.ext (by simpa using h)

theorem ky_key (s : ByteArray) : WideAt.IsKeyLit (ky s) := by
  unfold ky WideAt.IsKeyLit
  trivial

/-- of the first k records, how many are member m's -/
def cnt (f : Nat → Nat) : Nat → Nat → Nat
  | 0, _ => 0
  | k + 1, m => cnt f k m + if f k = m then 1 else 0

/-- where member m's records begin -/
def fst' (f : Nat → Nat) (n : Nat) : Nat → Nat
  | 0 => 0
  | m + 1 => fst' f n m + cnt f n m

def upd (f : Nat → Nat) (k m : Nat) : Nat → Nat := fun j => if j = k then m else f j

theorem upd_same (f : Nat → Nat) (k m : Nat) : upd f k m k = m := by simp [upd]
theorem upd_other (f : Nat → Nat) (k m j : Nat) (h : j ≠ k) : upd f k m j = f j := by simp [upd, h]

theorem cnt_congr {f g : Nat → Nat} : ∀ k, (∀ j, j < k → f j = g j) → ∀ m, cnt f k m = cnt g k m
  | 0, _, _ => rfl
  | k + 1, h, m => by
    unfold cnt
    rw [cnt_congr k (fun j hj => h j (by omega)) m, h k (by omega)]

theorem cnt_upd (f : Nat → Nat) (k m x : Nat) : cnt (upd f k m) k x = cnt f k x :=
  cnt_congr k (fun j hj => upd_other f k m j (by omega)) x

theorem cnt_le (f : Nat → Nat) : ∀ k m, cnt f k m ≤ k
  | 0, _ => Nat.le_refl _
  | k + 1, m => by
    unfold cnt
    have := cnt_le f k m
    split <;> omega

theorem cnt_mono (f : Nat → Nat) (m : Nat) {j : Nat} : ∀ {k}, j ≤ k → cnt f j m ≤ cnt f k m
  | 0, h => by obtain rfl : j = 0 := by omega
               exact Nat.le_refl _
  | k + 1, h => by
    by_cases e : j = k + 1
    · subst e; exact Nat.le_refl _
    · have := cnt_mono f m (j := j) (k := k) (by omega)
      show _ ≤ cnt f k m + _
      omega

theorem cnt_lt (f : Nat → Nat) {j k : Nat} (h : j < k) : cnt f j (f j) < cnt f k (f j) := by
  have := cnt_mono f (f j) (j := j + 1) (k := k) (by omega)
  have e : cnt f (j + 1) (f j) = cnt f j (f j) + 1 := by show cnt f j (f j) + _ = _; simp
  omega

theorem fst_mono (f : Nat → Nat) (n : Nat) {a : Nat} : ∀ {b}, a ≤ b → fst' f n a ≤ fst' f n b
  | 0, h => by obtain rfl : a = 0 := by omega
               exact Nat.le_refl _
  | b + 1, h => by
    by_cases e : a = b + 1
    · subst e; exact Nat.le_refl _
    · have := fst_mono f n (a := a) (b := b) (by omega)
      show _ ≤ fst' f n b + _
      omega

theorem fst_zero (f : Nat → Nat) : ∀ m, fst' f 0 m = 0
  | 0 => rfl
  | m + 1 => by show fst' f 0 m + 0 = 0; rw [fst_zero f m]

/-- one record more: the sum over the members is one more where the record's member is among them. -/
theorem fst_succ (f : Nat → Nat) (n : Nat) : ∀ m, fst' f (n + 1) m = fst' f n m + if f n < m then 1 else 0
  | 0 => by simp [fst']
  | m + 1 => by
    show fst' f (n + 1) m + (cnt f n m + _) = fst' f n m + cnt f n m + _
    rw [fst_succ f n m]
    by_cases h1 : f n < m
    · rw [if_pos h1, if_neg (by omega), if_pos (by omega)]
      omega
    · by_cases h2 : f n = m
      · rw [if_neg h1, if_pos h2, if_pos (by omega)]
        omega
      · rw [if_neg h1, if_neg h2, if_neg (by omega)]
        omega

theorem fst_all (f : Nat → Nat) (M : Nat) : ∀ n, (∀ j, j < n → f j < M) → fst' f n M = n
  | 0, _ => fst_zero f M
  | n + 1, h => by rw [fst_succ, fst_all f M n (fun j hj => h j (by omega)), if_pos (h n (by omega))]

/-- where record k lies among the records, member by member -/
def pos (f : Nat → Nat) (n k : Nat) : Nat := fst' f n (f k) + cnt f k (f k)

theorem pos_lt {f : Nat → Nat} {n k M : Nat} (h : ∀ j, j < n → f j < M) (hk : k < n) : pos f n k < n := by
  have h1 := cnt_lt f hk
  have h2 : fst' f n (f k + 1) ≤ fst' f n M := fst_mono f n (h k hk)
  rw [fst_all f M n h] at h2
  have h3 : fst' f n (f k + 1) = fst' f n (f k) + cnt f n (f k) := rfl
  unfold pos
  omega

theorem pos_inj {f : Nat → Nat} {n j k : Nat} (hj : j < k) (hk : k < n) : pos f n j ≠ pos f n k := by
  unfold pos
  intro h
  by_cases e : f j = f k
  · rw [e] at h
    have := cnt_lt f hj
    rw [e] at this
    omega
  · have a1 := cnt_lt f (show j < n by omega)
    have a2 := cnt_lt f hk
    rcases Nat.lt_or_gt_of_ne e with hl | hl
    · have : fst' f n (f j + 1) ≤ fst' f n (f k) := fst_mono f n hl
      have e3 : fst' f n (f j + 1) = fst' f n (f j) + cnt f n (f j) := rfl
      omega
    · have : fst' f n (f k + 1) ≤ fst' f n (f j) := fst_mono f n hl
      have e3 : fst' f n (f k + 1) = fst' f n (f k) + cnt f n (f k) := rfl
      omega

/-! ### what the grouping is -/
structure Grp (ss : List ByteArray) (k : Nat) (ids : List ByteArray) (f : Nat → Nat) : Prop where
  nodup : ids.Nodup
  lt : ∀ j, j < k → f j < ids.length
  eq : ∀ j, j < k → at' ids (f j) = at' ss j

theorem Grp.nil (ss : List ByteArray) : Grp ss 0 [] (fun _ => 0) :=
  ⟨List.nodup_nil, fun j hj => by omega, fun j hj => by omega⟩

theorem at_append_left (ids : List ByteArray) (s : ByteArray) (m : Nat) (h : m < ids.length) : at' (ids ++ [s]) m = at' ids m := by
  unfold at'
  simp [List.getD_eq_getElem?_getD, List.getElem?_append_left h]

theorem at_append_right (ids : List ByteArray) (s : ByteArray) : at' (ids ++ [s]) ids.length = s := by
  unfold at'
  simp

theorem at_mem {ids : List ByteArray} {m : Nat} (h : m < ids.length) : at' ids m ∈ ids := by
  unfold at'
  simp [List.getD_eq_getElem?_getD, List.getElem?_eq_getElem h]

theorem mem_at {ids : List ByteArray} {s : ByteArray} (h : s ∈ ids) : ∃ m, m < ids.length ∧ at' ids m = s := by
  obtain ⟨m, hm, e⟩ := List.mem_iff_getElem.1 h
  exact ⟨m, hm, by unfold at'; simp [List.getD_eq_getElem?_getD, List.getElem?_eq_getElem hm, e]⟩

theorem at_inj {ids : List ByteArray} (hn : ids.Nodup) {a b : Nat} (ha : a < ids.length) (hb : b < ids.length) (h : at' ids a = at' ids b) : a = b := by
  unfold at' at h
  simp only [List.getD_eq_getElem?_getD, List.getElem?_eq_getElem ha, List.getElem?_eq_getElem hb, Option.getD_some] at h
  exact (List.getElem_inj hn).1 h

theorem Grp.old {ss : List ByteArray} {k m : Nat} {ids : List ByteArray} {f : Nat → Nat} (h : Grp ss k ids f) (hm : m < ids.length) (e : at' ids m = at' ss k) : Grp ss (k + 1) ids (upd f k m) := by
  refine ⟨h.nodup, fun j hj => ?_, fun j hj => ?_⟩
  · by_cases ej : j = k
    · subst ej; rw [upd_same]; exact hm
    · rw [upd_other _ _ _ _ ej]; exact h.lt j (by omega)
  · by_cases ej : j = k
    · subst ej; rw [upd_same]; exact e
    · rw [upd_other _ _ _ _ ej]; exact h.eq j (by omega)

theorem Grp.push {ss : List ByteArray} {k : Nat} {ids : List ByteArray} {s : ByteArray} {f : Nat → Nat} (h : Grp ss k ids f) (hn : s ∉ ids) : Grp ss k (ids ++ [s]) f := by
  refine ⟨?_, fun j hj => ?_, fun j hj => ?_⟩
  · rw [List.nodup_append]
    refine ⟨h.nodup, by simp, fun a ha b hb => ?_⟩
    simp at hb
    subst hb
    intro e
    subst e
    exact hn ha
  · simp only [List.length_append, List.length_singleton]
    have := h.lt j hj
    omega
  · rw [at_append_left _ _ _ (h.lt j hj)]; exact h.eq j hj

/-- WHAT THE MAP SAYS: each id's place. -/
structure Dmap (ids : List ByteArray) (D : DataW Unit) : Prop where
  isMap : IsMap D
  has : ∀ s, Maps.has D (ky s) = true ↔ s ∈ ids
  val : ∀ m, m < ids.length → D.atKey (ky (at' ids m)) (.lit (.int .i64 0)) = .lit (.int .i64 m)

theorem Dmap.nil : Dmap [] (.map []) := ⟨isMap_empty, fun s => by simp [Maps.has_eq], fun m hm => by simp at hm⟩

theorem Dmap.new {ids : List ByteArray} {D : DataW Unit} {s : ByteArray} (h : Dmap ids D) (hs : s ∉ ids) : Dmap (ids ++ [s]) (D.put (ky s) (.lit (.int .i64 (ids.length : Int)))) := by
  refine ⟨h.isMap.put _ _, fun t => ?_, fun m hm => ?_⟩
  · by_cases e : t = s
    · subst e
      rw [has_put_same h.isMap (ky_key _)]
      simp
    · rw [has_put_other (fun hk => e (ky_inj hk)), h.has t]
      simp [e]
  · by_cases e : m = ids.length
    · subst e
      rw [at_append_right, atKey_put_same h.isMap (ky_key _)]
    · have hlt : m < ids.length := by simp at hm; omega
      rw [at_append_left _ _ _ hlt, atKey_put_other (fun hk => hs (by rw [← ky_inj hk]; exact at_mem hlt)), h.val m hlt]

/-! ### what the cells hold -/
/-- counts: of the first k records -/
def Cnt (f : Nat → Nat) (k M : Nat) (xs : List Value) : Prop := xs.length = M ∧ ∀ m, m < M → xs[m]? = some (.int .i64 (cnt f k m))
def Mem (f : Nat → Nat) (n k : Nat) (xs : List Value) : Prop := xs.length = n ∧ ∀ j, j < k → xs[j]? = some (.int .i64 (f j))
/-- first: what is laid up to m -/
def Fst (f : Nat → Nat) (n N m : Nat) (xs : List Value) : Prop := xs.length = N ∧ ∀ j, j ≤ m → xs[j]? = some (.int .i64 (fst' f n j))
/-- next: the first m members' -/
def Nxt (f : Nat → Nat) (n M m k : Nat) (xs : List Value) : Prop := xs.length = M ∧ ∀ j, j < m → xs[j]? = some (.int .i64 (fst' f n j + cnt f k j : Nat))
def Rec (f : Nat → Nat) (n k : Nat) (xs : List Value) : Prop := xs.length = n ∧ ∃ r : Nat → Nat, (∀ p, p < n → xs[p]? = some (.int .i64 (r p))) ∧ ∀ j, j < k → r (pos f n j) = j

theorem Mem.step {f : Nat → Nat} {n k m : Nat} {xs : List Value} (h : Mem f n k xs) (hk : k < n) : Mem (upd f k m) n (k + 1) (xs.set k (.int .i64 m)) := by
  refine ⟨by simpa using h.1, fun j hj => ?_⟩
  rw [List.getElem?_set]
  by_cases e : k = j
  · subst e; rw [if_pos rfl, if_pos (by rw [h.1]; exact hk), upd_same]
  · rw [if_neg e, upd_other _ _ _ _ (fun h => e h.symm)]; exact h.2 j (by omega)

theorem Cnt.bump {f : Nat → Nat} {k M m : Nat} {xs : List Value} (h : Cnt f k M xs) (hm : m < M) : Cnt (upd f k m) (k + 1) M (xs.set m (.int .i64 ((cnt f k m + 1 : Nat)))) := by
  refine ⟨by simpa using h.1, fun j hj => ?_⟩
  rw [List.getElem?_set]
  have e1 : cnt (upd f k m) (k + 1) j = cnt f k j + if m = j then 1 else 0 := by
    show cnt (upd f k m) k j + _ = _
    rw [cnt_upd, upd_same]
  by_cases e : m = j
  · subst e; rw [if_pos rfl, if_pos (by rw [h.1]; exact hm), e1, if_pos rfl]
  · rw [if_neg e, e1, if_neg e]; exact h.2 j hj

theorem cnt_far {f : Nat → Nat} {M : Nat} : ∀ k, (∀ j, j < k → f j < M) → cnt f k M = 0
  | 0, _ => rfl
  | k + 1, h => by
    show cnt f k M + _ = 0
    rw [cnt_far k (fun j hj => h j (by omega)), if_neg (by have := h k (by omega); omega)]

theorem Cnt.grow {f : Nat → Nat} {k M : Nat} {xs : List Value} (h : Cnt f k M xs) (hf : ∀ j, j < k → f j < M) : Cnt f k (M + 1) (xs ++ [.int .i64 0]) := by
  refine ⟨by simp [h.1], fun j hj => ?_⟩
  by_cases e : j = M
  · subst e
    rw [cnt_far k hf, ← h.1]
    simp
  · rw [List.getElem?_append_left (by rw [h.1]; omega)]
    exact h.2 j (by omega)

theorem Fst.step {f : Nat → Nat} {n N m : Nat} {xs : List Value} (h : Fst f n N m xs) (hm : m + 1 < N) : Fst f n N (m + 1) (xs.set (m + 1) (.int .i64 (fst' f n m + cnt f n m : Nat))) := by
  refine ⟨by simpa using h.1, fun j hj => ?_⟩
  rw [List.getElem?_set]
  by_cases e : m + 1 = j
  · subst e; rw [if_pos rfl, if_pos (by rw [h.1]; exact hm)]; rfl
  · rw [if_neg e]; exact h.2 j (by omega)

theorem Nxt.step {f : Nat → Nat} {n M m : Nat} {xs : List Value} (h : Nxt f n M m 0 xs) (hm : m < M) : Nxt f n M (m + 1) 0 (xs.set m (.int .i64 (fst' f n m : Nat))) := by
  refine ⟨by simpa using h.1, fun j hj => ?_⟩
  rw [List.getElem?_set]
  by_cases e : m = j
  · subst e; rw [if_pos rfl, if_pos (by rw [h.1]; exact hm)]; rfl
  · rw [if_neg e]; exact h.2 j (by omega)

theorem Nxt.bump {f : Nat → Nat} {n M k : Nat} {xs : List Value} (h : Nxt f n M M k xs) (hm : f k < M) : Nxt f n M M (k + 1) (xs.set (f k) (.int .i64 (pos f n k + 1 : Nat))) := by
  refine ⟨by simpa using h.1, fun j hj => ?_⟩
  rw [List.getElem?_set]
  by_cases e : f k = j
  · subst e; rw [if_pos rfl, if_pos (by rw [h.1]; exact hm)]
    have : cnt f (k + 1) (f k) = cnt f k (f k) + 1 := by show cnt f k (f k) + _ = _; simp
    unfold pos
    rw [this]
    rfl
  · rw [if_neg e]
    have : cnt f (k + 1) j = cnt f k j := by show cnt f k j + _ = _; simp [e]
    rw [this]
    exact h.2 j hj

theorem Rec.step {f : Nat → Nat} {n k : Nat} {xs : List Value} (h : Rec f n k xs) (hk : k < n) : Rec f n (k + 1) (xs.set (pos f n k) (.int .i64 k)) := by
  obtain ⟨h1, r, h2, h3⟩ := h
  refine ⟨by simpa using h1, upd r (pos f n k) k, fun p hp => ?_, fun j hj => ?_⟩
  · rw [List.getElem?_set]
    by_cases e : pos f n k = p
    · subst e; rw [if_pos rfl, if_pos (by rw [h1]; exact hp), upd_same]
    · rw [if_neg e, upd_other _ _ _ _ (fun h => e h.symm)]; exact h2 p hp
  · by_cases e : j = k
    · subst e; rw [upd_same]
    · rw [upd_other _ _ _ _ (pos_inj (f := f) (show j < k by omega) hk)]; exact h3 j (by omega)

end Go.Proofs.Qxb6601090a
