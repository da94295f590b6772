import Derived.Test.Qxb6605374aRows
import Derived.WalkKit
import Derived.ProofKit
import Derived.WalkSpells
import Derived.Deep.QuietTactic
import Derived.BigQuiet
import Derived.RegionTactic
import Derived.Deep.DeepCutAuto
import Derived.Deep.CutBlock
namespace Go.Proofs.Qxb6605374a
open Go.ChangeShapes Go.WideShapes Go.ChangeAt Go.RowKit

theorem hidden {p : Prop} (h : p) : Hid p := h

theorem drewN_below {B : Nat} {a w : World} (h : Below B a w) (n : Nat) : Below B a (w.drewN n) := h.trans ⟨rfl, rfl, rfl, Nat.le_refl _, fun _ _ => rfl⟩

/-- the i-th byte, as a number -/
def byteN (s : ByteArray) (i : Nat) : Nat := (s.data.toList[i]?.getD 0).toNat

theorem byteN_lt (s : ByteArray) (i : Nat) : byteN s i < 256 := (s.data.toList[i]?.getD 0).toNat_lt

/-- the length of the first tag's name -/
def nlB (r : ByteArray) : Nat := byteN r 0 * 256 + byteN r 1
/-- the first tag's name -/
def nmB (r : ByteArray) : ByteArray := r.extract 2 (2 + nlB r)
/-- k bytes from i on, big-endian -/
def genUp (r : ByteArray) (i : Nat) : Nat → Nat
  | 0 => 0
  | k + 1 => genUp r i k * 256 + byteN r (i + k)
/-- the first tag's generation -/
def gnB (r : ByteArray) : Nat := genUp r (2 + nlB r) 8
/-- what follows the first tag -/
def rsB (r : ByteArray) : ByteArray := r.extract (10 + nlB r) r.size
/-- the first tag is whole -/
def Ok1 (r : ByteArray) : Prop := 2 ≤ r.size ∧ nlB r + 10 ≤ r.size

/-- 'r' IS THE SECTION OF THE TAGS ts. -/
def Sec : List (ByteArray × Nat) → ByteArray → Prop
  | [], r => r.size = 0
  | t :: ts, r => Ok1 r ∧ t = (nmB r, gnB r) ∧ Sec ts (rsB r)

theorem nlB_lt (r : ByteArray) : nlB r < 65536 := by
  have h0 := byteN_lt r 0
  have h1 := byteN_lt r 1
  unfold nlB
  omega

theorem genUp_lt (r : ByteArray) (i : Nat) : ∀ k, genUp r i k < 256 ^ k
  | 0 => by simp [genUp]
  | k + 1 => by
    have h := genUp_lt r i k
    have hb := byteN_lt r (i + k)
    rw [genUp, Nat.pow_succ]
    omega

theorem rsB_size (r : ByteArray) (_h : Ok1 r) : (rsB r).size = r.size - (10 + nlB r) := by
  unfold rsB
  rw [ByteArray.size_extract]
  omega
theorem nmB_size (r : ByteArray) (h : Ok1 r) : (nmB r).size = nlB r := by
  unfold nmB
  rw [ByteArray.size_extract]
  have := h.2
  omega

theorem byteN_extract (r : ByteArray) (i j k : Nat) (h : k < j - i) (_hj : j ≤ r.size) : byteN (r.extract i j) k = byteN r (i + k) := by
  unfold byteN
  rw [ByteArray.data_extract, Array.toList_extract, List.extract_eq_take_drop, List.getElem?_take, if_pos (by omega), List.getElem?_drop]

theorem Sec.pos {ts : List (ByteArray × Nat)} {r : ByteArray} (h : Sec ts r) (hp : 0 < r.size) : ∃ us, ts = (nmB r, gnB r) :: us ∧ Ok1 r ∧ Sec us (rsB r) := by
  cases ts with
  | nil => have : r.size = 0 := h; omega
  | cons t us => obtain ⟨h1, rfl, h3⟩ := h; exact ⟨us, rfl, h1, h3⟩
theorem Sec.zero {ts : List (ByteArray × Nat)} {r : ByteArray} (h : Sec ts r) (hp : r.size = 0) : ts = [] := by
  cases ts with
  | nil => rfl
  | cons t us => have := h.1.1; omega

theorem Sec.one : ∀ {ts us : List (ByteArray × Nat)} {r : ByteArray}, Sec ts r → Sec us r → ts = us
  | [], us, r, h, k => (k.zero h).symm
  | t :: ts, us, r, h, k => by
    obtain ⟨vs, rfl, h1, h2⟩ := k.pos (by have := h.1.1; omega)
    obtain ⟨_, rfl, h3⟩ := h
    rw [Sec.one h3 h2]

theorem Sec.length_le : ∀ {ts : List (ByteArray × Nat)} {r : ByteArray}, Sec ts r → 10 * ts.length ≤ r.size
  | [], r, _ => by simp
  | t :: ts, r, h => by
    have h1 := Sec.length_le h.2.2
    have h2 := rsB_size r h.1
    have h3 := h.1.2
    simp only [List.length_cons]
    omega

/-- A SECTION IN BYTES THAT LIE IN MEMORY. -/
def BRow (w : World) (v : Value) (r : ByteArray) : Prop :=
  ∃ a c, v = .slice a r.size c ∧ r.size ≤ c ∧ c ≤ maxLen ∧ (0 < r.size → ∃ b o, a = some ⟨b, o, none⟩ ∧ ∀ i, i < r.size → w.cell? ⟨b, o + i, none⟩ = some (.int .u8 (byteN r i)))

theorem BRow.below {w w' : World} {v : Value} {r : ByteArray} (h : BRow w v r) (hb : Below w.heap.size w w') : BRow w' v r := by
  obtain ⟨a, c, rfl, h1, h2, h⟩ := h
  refine ⟨a, c, rfl, h1, h2, fun h0 => ?_⟩
  obtain ⟨b, o, rfl, hc⟩ := h h0
  exact ⟨b, o, rfl, fun i hi => (hb.cell (World.block_lt_of_cell? _ _ (hc i hi))).trans (hc i hi)⟩

theorem run_index_at (s : ByteArray) (i : Nat) (h : i < s.size) (w : World) : (Instr.index 9 (.string s) (.int .i64 (i : Int))).run Try.prog w = .ok (.int .u8 (byteN s i : Nat)) w := by
  rw [run_index_string w 9 s .i64 i Try.underlying9, dif_pos (by omega)]
  have e : s.data.toList[i]? = some s[i] := by rw [List.getElem?_eq_getElem (by simpa using h)]; rfl
  simp [byteN, e]
end Go.Proofs.Qxb6605374a
