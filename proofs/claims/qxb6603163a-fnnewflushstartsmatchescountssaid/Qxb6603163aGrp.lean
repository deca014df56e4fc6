/- NewFlushStarts: the row of groups, told by its index, and the rows of 256 counts. -/
import Derived.Test.Qxb6603163aFlush
namespace Go.Proofs.Qxb6603163a
open Go.ChangeShapes Go.WideShapes Go.ChangeAt Go.RowKit

def z58 : Array Value := #[.int .u32 0, .int .u16 0, .int .u16 0, .int .u16 0, .int .u16 0, .int .u16 0, .int .u16 0, .int .u16 0, .int .u16 0]
def z41 : Array Value := Array.replicate 256 (.int .u32 0)
theorem Try.info58 : (Try.prog.info? 58).map (fun i => (i.zero, i.size, i.bytes)) = some (some (.agg z58), 9, 20) := by kernel_rfl
theorem Try.info41 : (Try.prog.info? 41).map (fun i => (i.zero, i.size)) = some (some (.agg z41), 256) := by kernel_rfl
theorem Try.info25 : (Try.prog.info? 25).map (fun i => (i.zero, i.size, i.bytes)) = some (some (.int .u32 0), 1, 4) := by kernel_rfl
theorem Try.info43 : (Try.prog.info? 43).map (fun i => (i.zero, i.size, i.bytes)) = some (some (.int .u16 0), 1, 2) := by kernel_rfl
theorem Try.size41 : (Try.prog.info? 41).map (·.size) = some 256 := (zero_of_info Try.info41).2
theorem zero41 : ∀ w, (zeroValue 41).run Try.prog w = .ok (.agg z41) w := (zero_of_info Try.info41).1

/-- The count of f ahead of boundary b. -/
def C (L : List Int) (s f b : Nat) : Nat := cnt L f (min (b * s) L.length)

/-- One cell of the groups' row: flush f, group g, cell r of nine, where the boundaries below lo are laid and ad is added to the first. -/
def gcell (L : List Int) (s f g r lo ad : Nat) : Value :=
  if r = 0 then .int .u32 (((if 8 * g < lo then C L s f (8 * g) else 0) + ad : Nat) : Int)
  else .int .u16 ((if 8 * g + (r - 1) < lo then C L s f (8 * g + (r - 1)) - C L s f (8 * g) else 0 : Nat) : Int)
def grpA (L : List Int) (s pf b f0 : Nat) (j : Nat) : Value := gcell L s (j / 9 / pf) (j / 9 % pf) (j % 9) (if j / 9 / pf < f0 then b + 1 else b) 0
def grpB (L : List Int) (s pf lo f0 g0 : Nat) (j : Nat) : Value :=
  gcell L s (j / 9 / pf) (j / 9 % pf) (j % 9) lo (if j / 9 / pf < f0 ∨ (j / 9 / pf = f0 ∧ j / 9 % pf < g0) then bas L (j / 9 / pf) else 0)

theorem grpA_zero (L : List Int) (s pf : Nat) (j : Nat) : grpA L s pf 0 0 j = if j % 9 = 0 then .int .u32 0 else .int .u16 0 := by
  simp [grpA, gcell]

theorem idx_iff {pf f g j : Nat} (hg : g < pf) : j / 9 = f * pf + g ↔ (j / 9 / pf = f ∧ j / 9 % pf = g) := by
  constructor
  · intro h
    rw [h]
    have hp : 0 < pf := by omega
    exact ⟨by rw [Nat.mul_comm, Nat.mul_add_div hp, Nat.div_eq_of_lt hg, Nat.add_zero], by rw [Nat.mul_comm, Nat.mul_add_mod, Nat.mod_eq_of_lt hg]⟩
  · rintro ⟨h1, h2⟩
    have := Nat.div_add_mod (j / 9) pf
    rw [h1, h2, Nat.mul_comm] at this
    exact this.symm

theorem grpA_step (L : List Int) (s pf b f q : Nat) (hg : b / 8 < pf) (hq : f * pf + b / 8 = q) (j : Nat) :
    (if j = 9 * q + 1 + b % 8 then Value.int .u16 ((C L s f b - C L s f (8 * (b / 8)) : Nat) : Int) else if j = 9 * q then .int .u32 ((C L s f (8 * (b / 8)) : Nat) : Int) else grpA L s pf b f j) = grpA L s pf b (f + 1) j := by
  have hi := idx_iff (j := j) (f := f) hg
  rw [hq] at hi
  unfold grpA gcell
  generalize j / 9 / pf = F at *
  generalize j / 9 % pf = G at *
  by_cases hj : j / 9 = q
  · obtain ⟨rfl, rfl⟩ := hi.1 hj
    rw [if_neg (Nat.lt_irrefl F), if_pos (Nat.lt_succ_self F)]
    by_cases hr : j % 9 = 0
    · rw [if_neg (by omega), if_pos (by omega), if_pos hr, if_pos (by omega)]
      rfl
    · rw [if_neg hr, if_neg hr]
      by_cases hb : j % 9 - 1 = b % 8
      · rw [if_pos (by omega), if_pos (by omega), hb]
        rw [show 8 * (b / 8) + b % 8 = b by omega]
      · rw [if_neg (by omega), if_neg (by omega)]
        by_cases hlo : 8 * (b / 8) + (j % 9 - 1) < b
        · rw [if_pos hlo, if_pos (by omega)]
        · rw [if_neg hlo, if_neg (by omega)]
  · have hn : ¬ (F = f ∧ G = b / 8) := fun h => hj (hi.2 h)
    rw [if_neg (by omega), if_neg (by omega)]
    by_cases hF : F = f
    · subst hF
      have hG : G ≠ b / 8 := fun h => hn ⟨rfl, h⟩
      rw [if_neg (Nat.lt_irrefl F), if_pos (Nat.lt_succ_self F)]
      by_cases hr : j % 9 = 0
      · rw [if_pos hr, if_pos hr]
        by_cases hlo : 8 * G < b
        · rw [if_pos hlo, if_pos (by omega)]
        · rw [if_neg hlo, if_neg (by omega)]
      · rw [if_neg hr, if_neg hr]
        by_cases hlo : 8 * G + (j % 9 - 1) < b
        · rw [if_pos hlo, if_pos (by omega)]
        · rw [if_neg hlo, if_neg (by omega)]
    · by_cases hlt : F < f
      · rw [if_pos hlt, if_pos (show F < f + 1 by omega)]
      · rw [if_neg hlt, if_neg (show ¬ F < f + 1 by omega)]

theorem div_lt_of {pf n j : Nat} (h : j < 9 * (n * pf)) : j / 9 / pf < n := by
  have h1 : j / 9 < n * pf := by omega
  have hp : 0 < pf := by
    rcases Nat.eq_zero_or_pos pf with rfl | h
    · simp at h1
    · exact h
  rw [Nat.div_lt_iff_lt_mul hp]
  exact h1

theorem grpA_row (L : List Int) (s pf b n : Nat) (j : Nat) (h : j < 9 * (n * pf)) : grpA L s pf b n j = grpA L s pf (b + 1) 0 j := by
  have := div_lt_of h
  unfold grpA
  rw [if_pos this, if_neg (Nat.not_lt_zero _)]

theorem grpA_grpB (L : List Int) (s pf b : Nat) (j : Nat) : grpA L s pf b 0 j = grpB L s pf b 0 0 j := by
  unfold grpA grpB
  rw [if_neg (Nat.not_lt_zero _), if_neg (fun h => h.elim (Nat.not_lt_zero _) fun h => Nat.not_lt_zero _ h.2)]

theorem grpB_row (L : List Int) (s pf b f : Nat) (j : Nat) (hp : 0 < pf) : grpB L s pf b f pf j = grpB L s pf b (f + 1) 0 j := by
  have h := Nat.mod_lt (j / 9) hp
  unfold grpB
  generalize j / 9 / pf = F at *
  generalize j / 9 % pf = G at *
  by_cases h1 : F < f ∨ F = f ∧ G < pf
  · rw [if_pos h1, if_pos (by omega)]
  · rw [if_neg h1, if_neg (by omega)]

/-- A group's first ahead of what is added. -/
def fst0 (L : List Int) (s f g lo : Nat) : Nat := if 8 * g < lo then C L s f (8 * g) else 0
theorem grpB_step (L : List Int) (s pf lo f g q : Nat) (hg : g < pf) (hq : f * pf + g = q) (j : Nat) :
    (if j = 9 * q then Value.int .u32 ((fst0 L s f g lo + bas L f : Nat) : Int) else grpB L s pf lo f g j) = grpB L s pf lo f (g + 1) j := by
  have hi := idx_iff (j := j) (f := f) hg
  rw [hq] at hi
  unfold grpB gcell fst0
  generalize j / 9 / pf = F at *
  generalize j / 9 % pf = G at *
  by_cases hj : j / 9 = q
  · obtain ⟨rfl, rfl⟩ := hi.1 hj
    by_cases hr : j % 9 = 0
    · rw [if_pos (by omega), if_pos hr]
      rw [if_pos (show F < F ∨ F = F ∧ G < G + 1 by omega)]
    · rw [if_neg (by omega), if_neg hr, if_neg hr]
  · have hn : ¬ (F = f ∧ G = g) := fun h => hj (hi.2 h)
    rw [if_neg (by omega)]
    have : (F < f ∨ F = f ∧ G < g) ↔ (F < f ∨ F = f ∧ G < g + 1) := by omega
    simp only [this]
theorem grpB_first (L : List Int) (s pf lo f g q : Nat) (hg : g < pf) (hq : f * pf + g = q) : grpB L s pf lo f g (9 * q) = .int .u32 ((fst0 L s f g lo : Nat) : Int) := by
  have hi := (idx_iff (j := 9 * q) (f := f) hg).1 (by omega)
  unfold grpB gcell fst0
  rw [hi.1, hi.2, if_pos (by omega), if_neg (show ¬ (f < f ∨ f = f ∧ g < g) by omega)]
  rfl

/-! ### bounds -/
theorem C_le (L : List Int) (s f b : Nat) : C L s f b ≤ L.length := by
  have := cnt_le L f (min (b * s) L.length)
  unfold C; omega
theorem C_zero (L : List Int) (s f : Nat) : C L s f 0 = 0 := by
  have := cnt_le L f (min (0 * s) L.length)
  unfold C; simp at this ⊢; exact this
theorem C_group (L : List Int) (s f b : Nat) (hs : s ≤ 4096) : C L s f (8 * (b / 8)) ≤ C L s f b ∧ C L s f b ≤ C L s f (8 * (b / 8)) + 28672 := by
  have h1 : 8 * (b / 8) * s ≤ b * s := Nat.mul_le_mul_right s (by omega)
  have h2 : b * s ≤ 8 * (b / 8) * s + 28672 := by
    have : b * s = 8 * (b / 8) * s + b % 8 * s := by rw [← Nat.add_mul]; congr 1; omega
    have h3 : b % 8 * s ≤ 7 * 4096 := Nat.mul_le_mul (by omega) hs
    omega
  unfold C
  have := cnt_mono L f (min (8 * (b / 8) * s) L.length) (min (b * s) L.length) (by omega)
  have := cnt_diff L f (min (8 * (b / 8) * s) L.length) (min (b * s) L.length) (by omega)
  omega
end Go.Proofs.Qxb6603163a
