/- Plain laws on LIKE patterns: tokens, the matcher by suffixes, and that the walk with one remembered star decides the same. No Go here. -/
import Derived.Below
namespace Go.Proofs.Qxb6603229a

/-- One character that is not an escape: its token (0: any run, 1: any one, 2: itself). -/
def tok1 (c : Int) : Int × Int := if c = 37 then (0, 0) else if c = 95 then (1, 0) else (2, c)
/-- The pattern's tokens. -/
def toks : List Int → List (Int × Int)
  | [] => []
  | [c] => [tok1 c]
  | c :: d :: rest => if c = 92 then (2, d) :: toks rest else tok1 c :: toks (d :: rest)

/-- Some suffix meets f. -/
def star (f : List Int → Bool) : List Int → Bool
  | [] => f []
  | x :: r => f (x :: r) || star f r
/-- One character that the token lets, then f. -/
def one (t : Int × Int) (f : List Int → Bool) : List Int → Bool
  | [] => false
  | x :: r => f r && (t.1 == 1 || x == t.2)
/-- Do the tokens match the whole text? -/
def mt : List (Int × Int) → List Int → Bool
  | [] => fun r => r.isEmpty
  | t :: ts => if t.1 = 0 then star (mt ts) else one t (mt ts)

theorem toks_nil : toks [] = [] := rfl
theorem drop_cons {l : List Int} {i : Nat} {c : Int} (h : l[i]? = some c) : l.drop i = c :: l.drop (i + 1) := by
  obtain ⟨hlt, rfl⟩ := List.getElem?_eq_some_iff.1 h
  exact List.drop_eq_getElem_cons hlt

theorem toks_esc {p : List Int} {i : Nat} {d : Int} (h : p[i]? = some 92) (h2 : p[i + 1]? = some d) : toks (p.drop i) = (2, d) :: toks (p.drop (i + 2)) := by
  rw [drop_cons h, drop_cons h2]
  simp [toks]
theorem toks_tok1 {p : List Int} {i : Nat} {c : Int} (h : p[i]? = some c) (h2 : c ≠ 92 ∨ p.length ≤ i + 1) : toks (p.drop i) = tok1 c :: toks (p.drop (i + 1)) := by
  rw [drop_cons h]
  by_cases hl : i + 1 < p.length
  · have hc : c ≠ 92 := by rcases h2 with h | h; exact h; omega
    rw [List.drop_eq_getElem_cons hl]
    simp [toks, hc]
  · rw [List.drop_eq_nil_of_le (by omega)]
    rfl
theorem toks_end {p : List Int} {i : Nat} (h : p.length ≤ i) : toks (p.drop i) = [] := by rw [List.drop_eq_nil_of_le h]; rfl

theorem star_iff (f : List Int → Bool) : ∀ r, star f r = true ↔ ∃ A B, r = A ++ B ∧ f B = true
  | [] => by
    constructor
    · intro h; exact ⟨[], [], rfl, h⟩
    · rintro ⟨A, B, e, h⟩
      have := List.append_eq_nil_iff.1 e.symm
      rw [this.2] at h
      exact h
  | x :: r => by
    simp only [star, Bool.or_eq_true, star_iff f r]
    constructor
    · rintro (h | ⟨A, B, rfl, h⟩)
      · exact ⟨[], x :: r, rfl, h⟩
      · exact ⟨x :: A, B, rfl, h⟩
    · rintro ⟨A, B, e, h⟩
      cases A with
      | nil => left; rw [show x :: r = B from e]; exact h
      | cons y A =>
        right
        simp at e
        exact ⟨A, B, e.2, h⟩

/-- M are tokens of one character each, and X meets them. -/
def sing : List (Int × Int) → List Int → Prop
  | [], [] => True
  | t :: M, x :: X => t.1 ≠ 0 ∧ (t.1 = 1 ∨ x = t.2) ∧ sing M X
  | _, _ => False

theorem sing_mt : ∀ (M : List (Int × Int)) (X : List Int) (T : List (Int × Int)) (R : List Int), sing M X → mt (M ++ T) (X ++ R) = mt T R
  | [], [], _, _, _ => rfl
  | t :: M, x :: X, T, R, h => by
    simp only [List.cons_append, mt, if_neg h.1, one]
    rw [sing_mt M X T R h.2.2]
    have : (t.1 == 1 || x == t.2) = true := by simpa using h.2.1
    rw [this, Bool.and_true]
  | [], _ :: _, _, _, h => h.elim
  | _ :: _, [], _, _, h => h.elim

theorem sing_length : ∀ (M : List (Int × Int)) (X : List Int), sing M X → M.length = X.length
  | [], [], _ => rfl
  | t :: M, x :: X, h => by simp [sing_length M X h.2.2]
  | [], _ :: _, h => h.elim
  | _ :: _, [], h => h.elim

theorem sing_snoc : ∀ (M : List (Int × Int)) (X : List Int) (t : Int × Int) (x : Int), sing M X → t.1 ≠ 0 → (t.1 = 1 ∨ x = t.2) → sing (M ++ [t]) (X ++ [x])
  | [], [], _, _, _, h1, h2 => ⟨h1, h2, trivial⟩
  | _ :: M, _ :: X, t, x, h, h1, h2 => ⟨h.1, h.2.1, sing_snoc M X t x h.2.2 h1 h2⟩
  | [], _ :: _, _, _, h, _, _ => h.elim
  | _ :: _, [], _, _, h, _, _ => h.elim

/-- Whatever meets M and then T has as many characters ahead as M has tokens. -/
theorem mt_split : ∀ (M : List (Int × Int)) (X : List Int) (T : List (Int × Int)) (Z : List Int), sing M X → mt (M ++ T) Z = true → ∃ Y Z', Z = Y ++ Z' ∧ Y.length = M.length ∧ mt T Z' = true
  | [], [], T, Z, _, h => ⟨[], Z, rfl, rfl, h⟩
  | t :: M, x :: X, T, Z, hs, h => by
    simp only [List.cons_append, mt, if_neg hs.1] at h
    cases Z with
    | nil => simp [one] at h
    | cons z Z =>
      simp only [one, Bool.and_eq_true] at h
      obtain ⟨Y, Z', rfl, hl, h2⟩ := mt_split M X T Z hs.2.2 h.1
      exact ⟨z :: Y, Z', rfl, by simp [hl], h2⟩
  | [], _ :: _, _, _, h, _ => h.elim
  | _ :: _, [], _, _, h, _ => h.elim

/-- A longer text has every suffix that a suffix of it has. -/
theorem suffix_of {A B X R : List Int} (h : A ++ B = X ++ R) (hl : B.length ≤ R.length) : ∃ C, R = C ++ B := by
  have h1 : B = (A ++ B).drop A.length := by simp
  have h2 : B = (X ++ R).drop A.length := by rw [← h]; exact h1
  have hlen : A.length + B.length = X.length + R.length := by simpa using congrArg List.length h
  have h3 : X.length ≤ A.length := by omega
  rw [List.drop_append, List.drop_eq_nil_of_le h3, List.nil_append] at h2
  exact ⟨R.take (A.length - X.length), by rw [h2]; exact (List.take_append_drop _ _).symm⟩

/-- A later star takes the place of an earlier one. -/
theorem star_star {M : List (Int × Int)} {X R : List Int} {T : List (Int × Int)} (hs : sing M X) : star (mt (M ++ (0, 0) :: T)) (X ++ R) = star (mt T) R := by
  rw [Bool.eq_iff_iff]
  constructor
  · intro h
    obtain ⟨A, B, e, hB⟩ := (star_iff _ _).1 h
    obtain ⟨Y, Z, rfl, hl, hZ⟩ := mt_split M X _ B hs hB
    simp only [mt] at hZ
    obtain ⟨A2, B2, rfl, hB2⟩ := (star_iff _ _).1 hZ
    have hl2 := sing_length M X hs
    have hlen : X.length + R.length = A.length + (Y.length + (A2.length + B2.length)) := by simpa using congrArg List.length e
    obtain ⟨C, rfl⟩ := suffix_of (A := A ++ Y ++ A2) (B := B2) (X := X) (R := R) (by rw [e]; simp) (by omega)
    exact (star_iff _ _).2 ⟨C, B2, rfl, hB2⟩
  · intro h
    refine (star_iff _ _).2 ⟨[], X ++ R, rfl, ?_⟩
    rw [sing_mt M X _ R hs]
    simpa [mt] using h

/-- Where the text ends no earlier start of the star can serve. -/
theorem star_end {M : List (Int × Int)} {X : List Int} {T : List (Int × Int)} (hs : sing M X) : star (mt (M ++ T)) X = mt T [] := by
  rw [Bool.eq_iff_iff]
  constructor
  · intro h
    obtain ⟨A, B, e, hB⟩ := (star_iff _ _).1 h
    obtain ⟨Y, Z, rfl, hl, hZ⟩ := mt_split M X _ B hs hB
    have hl2 := sing_length M X hs
    have hlen : X.length = A.length + (Y.length + Z.length) := by simpa using congrArg List.length e
    have hz : Z = [] := List.eq_nil_of_length_eq_zero (by omega)
    rw [hz] at hZ
    exact hZ
  · intro h
    refine (star_iff _ _).2 ⟨[], X, rfl, ?_⟩
    have := sing_mt M X T [] hs
    rw [List.append_nil] at this
    rw [this]
    exact h

/-! ### The walk with one remembered star -/
/-- What holds at the head of each round: pi, ri: the places; st: the place behind the last star, and the text's place that it was last tried at. -/
def LInv (p r : List Int) (pi ri : Nat) (st : Option (Nat × Nat)) : Prop :=
  match st with
  | none => mt (toks (p.drop pi)) (r.drop ri) = mt (toks p) r
  | some (sp, sr) => sr ≤ ri ∧ star (mt (toks (p.drop sp))) (r.drop sr) = mt (toks p) r ∧
      ∃ M X, sing M X ∧ toks (p.drop sp) = M ++ toks (p.drop pi) ∧ r.drop sr = X ++ r.drop ri

theorem LInv.start (p r : List Int) : LInv p r 0 0 none := rfl

/-- A star comes up. -/
theorem LInv.run {p r : List Int} {pi ri : Nat} {st : Option (Nat × Nat)} (h : LInv p r pi ri st) (ht : toks (p.drop pi) = (0, 0) :: toks (p.drop (pi + 1))) : LInv p r (pi + 1) ri (some (pi + 1, ri)) := by
  refine ⟨Nat.le_refl _, ?_, [], [], trivial, rfl, rfl⟩
  cases st with
  | none =>
    have h' : mt (toks (p.drop pi)) (r.drop ri) = mt (toks p) r := h
    rw [ht] at h'
    simpa [mt] using h'
  | some s =>
    obtain ⟨_, h1, M, X, hs, h2, h3⟩ := h
    rw [h2, h3, ht, star_star hs] at h1
    exact h1

/-- A character goes over. -/
theorem LInv.step {p r : List Int} {pi ri pi' : Nat} {st : Option (Nat × Nat)} {t : Int × Int} {x : Int} (h : LInv p r pi ri st) (ht : toks (p.drop pi) = t :: toks (p.drop pi')) (h0 : t.1 ≠ 0) (hx : r[ri]? = some x)
    (hm : t.1 = 1 ∨ x = t.2) : LInv p r pi' (ri + 1) st := by
  cases st with
  | none =>
    have h' : mt (toks (p.drop pi)) (r.drop ri) = mt (toks p) r := h
    rw [ht, drop_cons hx] at h'
    simp only [mt, if_neg h0, one] at h'
    have : (t.1 == 1 || x == t.2) = true := by simpa using hm
    rw [this, Bool.and_true] at h'
    exact h'
  | some s =>
    obtain ⟨hle, h1, M, X, hs, h2, h3⟩ := h
    refine ⟨by omega, h1, M ++ [t], X ++ [x], sing_snoc M X t x hs h0 hm, ?_, ?_⟩
    · rw [h2, ht]; simp
    · rw [h3, drop_cons hx]; simp

/-- The token and the character part. -/
theorem mt_miss {T : List (Int × Int)} {R : List Int} (h : T = [] ∧ R ≠ [] ∨ ∃ t T' x R', T = t :: T' ∧ R = x :: R' ∧ t.1 ≠ 0 ∧ t.1 ≠ 1 ∧ x ≠ t.2) : mt T R = false := by
  rcases h with ⟨rfl, hR⟩ | ⟨t, T', x, R', rfl, rfl, h0, h1, h2⟩
  · cases R with
    | nil => exact absurd rfl hR
    | cons _ _ => rfl
  · simp [mt, if_neg h0, one, h1, h2]

theorem LInv.miss_none {p r : List Int} {pi ri : Nat} (h : LInv p r pi ri none) (hm : mt (toks (p.drop pi)) (r.drop ri) = false) : mt (toks p) r = false := by
  have h' : mt (toks (p.drop pi)) (r.drop ri) = mt (toks p) r := h
  rw [← h']; exact hm

theorem LInv.miss {p r : List Int} {pi ri sp sr : Nat} (h : LInv p r pi ri (some (sp, sr))) (hri : ri < r.length) (hm : mt (toks (p.drop pi)) (r.drop ri) = false) : LInv p r sp (sr + 1) (some (sp, sr + 1)) := by
  obtain ⟨hle, h1, M, X, hs, h2, h3⟩ := h
  refine ⟨Nat.le_refl _, ?_, [], [], trivial, rfl, rfl⟩
  rw [← h1, drop_cons (List.getElem?_eq_getElem (show sr < r.length by omega))]
  rw [show star (mt (toks (p.drop sp))) (r[sr]'(by omega) :: r.drop (sr + 1)) = (mt (toks (p.drop sp)) (r[sr]'(by omega) :: r.drop (sr + 1)) || star (mt (toks (p.drop sp))) (r.drop (sr + 1))) from rfl]
  have hf : mt (toks (p.drop sp)) (r[sr]'(by omega) :: r.drop (sr + 1)) = false := by
    rw [← List.drop_eq_getElem_cons (show sr < r.length by omega), h2, h3, sing_mt M X _ _ hs]
    exact hm
  rw [hf, Bool.false_or]

/-- Where the text has ended. -/
theorem LInv.done {p r : List Int} {pi ri : Nat} {st : Option (Nat × Nat)} (h : LInv p r pi ri st) (hri : r.length ≤ ri) : mt (toks p) r = mt (toks (p.drop pi)) [] := by
  have hr : r.drop ri = [] := List.drop_eq_nil_of_le hri
  cases st with
  | none =>
    have h' : mt (toks (p.drop pi)) (r.drop ri) = mt (toks p) r := h
    rw [hr] at h'
    exact h'.symm
  | some s =>
    obtain ⟨_, h1, M, X, hs, h2, h3⟩ := h
    rw [← h1, h2, h3, hr, List.append_nil]
    exact star_end hs

/-- The tail: stars alone are left. -/
theorem mt_nil_star {p : List Int} {pi : Nat} (ht : p[pi]? = some 37) : mt (toks (p.drop pi)) [] = mt (toks (p.drop (pi + 1))) [] := by
  rw [toks_tok1 ht (.inl (by decide))]
  simp [tok1, mt, star]
theorem mt_nil_end {p : List Int} {pi : Nat} (h : p.length ≤ pi) : mt (toks (p.drop pi)) [] = true := by
  rw [toks_end h]
  rfl
theorem mt_nil_other {p : List Int} {pi : Nat} {c : Int} (hc : p[pi]? = some c) (h : c ≠ 37) : mt (toks (p.drop pi)) [] = false := by
  by_cases he : c = 92 ∧ pi + 1 < p.length
  · obtain ⟨rfl, hl⟩ := he
    rw [toks_esc hc (List.getElem?_eq_getElem hl)]
    simp [mt, one]
  · rw [toks_tok1 hc (by by_cases h92 : c = 92; right; omega; left; exact h92)]
    unfold tok1
    rw [if_neg h]
    split <;> simp [mt, one]

/-! ### The measure -/
def mu (a b c n m : Nat) : Nat := (a * (n + 2) + b) * (m + 2) + c
theorem mu_a {a b c a' b' c' n m : Nat} (h : a' < a) (hb : b' ≤ n) (hc : c' ≤ m) : mu a' b' c' n m < mu a b c n m := by
  unfold mu
  have h1 : a' * (n + 2) + (n + 2) ≤ a * (n + 2) := by rw [← Nat.succ_mul]; exact Nat.mul_le_mul_right _ h
  have h2 : (a' * (n + 2) + b' + 1) * (m + 2) ≤ (a * (n + 2) + b) * (m + 2) := Nat.mul_le_mul_right _ (by omega)
  rw [Nat.succ_mul] at h2
  omega
theorem mu_b {a b c b' c' n m : Nat} (h : b' < b) (hc : c' ≤ m) : mu a b' c' n m < mu a b c n m := by
  unfold mu
  have h2 : (a * (n + 2) + b' + 1) * (m + 2) ≤ (a * (n + 2) + b) * (m + 2) := Nat.mul_le_mul_right _ (by omega)
  rw [Nat.succ_mul] at h2
  omega
theorem mu_c {a b c c' n m : Nat} (h : c' < c) : mu a b c' n m < mu a b c n m := by unfold mu; omega

end Go.Proofs.Qxb6603229a
