/- Runes of a string as the model reads them, and rows of runes in memory. -/
import Derived.Test.Qxb6603229aRows
import Derived.Test.Qxb6603229aPlain
import Derived.WalkKit
import Derived.ProofKit
import Derived.WalkLawsBesides
import Derived.WalkSpells
import Derived.Laws.IdiomStrings
import Derived.Deep.AppendLies
import Derived.Deep.OwnRows
import Derived.Deep.DeepCutAuto
import Derived.Deep.CutBlock
namespace Go.Proofs.Qxb6603229a
open Go.ChangeShapes Go.WideShapes Go.ChangeAt Go.RowKit

theorem hide {p : Prop} (h : p) : Hid p := h
theorem unhide {p : Prop} (h : Hid p) : p := h

/-- The code points from place i on, at most b of them. -/
def rl (s : ByteArray) : Nat → Nat → List Int
  | 0, _ => []
  | b + 1, i => if i < s.size then ((Utf8.decode s i).1 : Int) :: rl s b (i + (Utf8.decode s i).2) else []
/-- The code points of a string. -/
def rn (s : ByteArray) : List Int := rl s s.size 0

def ics (xs : List Int) : List Value := xs.map (Value.int .i32)
theorem ics_length (xs : List Int) : (ics xs).length = xs.length := by simp [ics]
theorem ics_get (xs : List Int) (j : Nat) : (ics xs)[j]? = xs[j]?.map (Value.int .i32) := by simp [ics]

theorem runesFrom_eq (s : ByteArray) : ∀ (b i : Nat) (acc : Array Value), Conv.runesFrom s b i acc = acc ++ (ics (rl s b i)).toArray
  | 0, _, acc => by simp [Conv.runesFrom, rl, ics]
  | b + 1, i, acc => by
    unfold Conv.runesFrom rl
    split
    · show Conv.runesFrom s b (i + (Utf8.decode s i).2) (acc.push (.int .i32 (Int.ofNat (Utf8.decode s i).1))) = _
      rw [runesFrom_eq s b]
      simp [ics]
    · simp [ics]
theorem runes_eq (s : ByteArray) : Conv.runesFrom s s.size 0 #[] = (ics (rn s)).toArray := by rw [runesFrom_eq]; simp [rn]
theorem rl_length (s : ByteArray) : ∀ b i, (rl s b i).length ≤ b
  | 0, _ => by simp [rl]
  | b + 1, i => by
    unfold rl
    split
    · have := rl_length s b (i + (Utf8.decode s i).2)
      simp
      omega
    · simp
theorem rn_length (s : ByteArray) : (rn s).length ≤ s.size := rl_length s _ _

/-- Block b holds the runes xs from its head on. -/
def Runes (w : World) (b : Nat) (xs : List Int) : Prop := b < w.heap.size ∧ ∀ (j : Nat) (x : Int), xs[j]? = some x → w.cell? ⟨b, j, none⟩ = some (.int .i32 x)

theorem Runes.keep {w w' : World} {b : Nat} {xs : List Int} (h : Runes w b xs) (hb : ∀ k, k < w.heap.size → w'.heap[k]? = w.heap[k]?) (hs : w.heap.size ≤ w'.heap.size) : Runes w' b xs :=
  ⟨Nat.lt_of_lt_of_le h.1 hs, fun j x hx => (World.cell?_of_block (hb _ h.1)).trans (h.2 j x hx)⟩

/-- The world behind '[]rune(s)', its runes xs: one row more. Kept closed to the walk. -/
def afterRunes (w : World) (xs : List Int) : World :=
  w.drew.alloc (.cells ((ics xs).toArray ++ Array.replicate (grownCap w xs.length 0 21 - xs.length) (.int .i32 0)) 21)
def capRunes (w : World) (xs : List Int) : Nat := grownCap w xs.length 0 21

/-- '[]rune(s)'. -/
theorem conv_runes (s : ByteArray) (hs : s.size ≤ 1048576) (w : World) :
    (convert 9 45 (.string s)).run Try.prog w = .ok (.slice (some ⟨w.heap.size, 0, none⟩) (rn s).length (capRunes w (rn s))) (afterRunes w (rn s)) := by
  have hl := rn_length s
  have h := run_runes_of_string (P := Try.prog) w 9 45 21 s Try.underlying9 Try.underlying45 Try.underlying21 (by rw [runes_eq]; simp [ics_length]; omega)
  rw [runes_eq] at h
  simpa [ics_length, afterRunes, capRunes] using h

theorem after_size (w : World) (xs : List Int) : (afterRunes w xs).heap.size = w.heap.size + 1 := by simp [afterRunes]
theorem after_runes (w : World) (xs : List Int) : Runes (afterRunes w xs) w.heap.size xs := by
  refine ⟨by rw [after_size]; omega, fun j x hx => ?_⟩
  have hg : (afterRunes w xs).heap[w.heap.size]? = some (.cells ((ics xs).toArray ++ Array.replicate (grownCap w xs.length 0 21 - xs.length) (.int .i32 0)) 21 (0, 0)) := heap_alloc_new w.drew _
  rw [cell_of_row _ w.heap.size j _ 21 (0, 0) hg]
  have hlt := (List.getElem?_eq_some_iff.1 hx).1
  rw [Array.getElem?_append_left (by simpa [ics_length] using hlt)]
  simp [ics_get, hx]
theorem after_below (w : World) (xs : List Int) : Below w.heap.size w (afterRunes w xs) := by
  unfold afterRunes
  exact ((Below.refl _ _).drew).alloc (Nat.le_refl _) _

/-- Both rows of runes, made one behind the other. -/
theorem two_runes (w : World) (p r : List Int) : Runes (afterRunes (afterRunes w p) r) w.heap.size p ∧ Runes (afterRunes (afterRunes w p) r) (w.heap.size + 1) r ∧ Below w.heap.size w (afterRunes (afterRunes w p) r) := by
  have hb := after_below (afterRunes w p) r
  refine ⟨(after_runes w p).keep hb.block hb.size, ?_, (after_below w p).trans (hb.mono (by rw [after_size]; omega))⟩
  have := after_runes (afterRunes w p) r
  rw [after_size] at this
  exact this

end Go.Proofs.Qxb6603229a
