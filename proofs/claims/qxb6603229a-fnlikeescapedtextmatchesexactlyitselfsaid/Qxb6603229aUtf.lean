/- Escaping %, _ and backslash byte by byte escapes the same characters of the decoded text, valid UTF-8 or not. -/
import Derived.Test.Qxb6603229aBase
namespace Go.Proofs.Qxb6603229a
open Go.RowKit

/-- The decoder on a list of bytes: the lead byte c, and what follows it. -/
def decW (c : Nat) (q : List Nat) : Nat × Nat :=
  if c < 0x80 then (c, 1)
  else if c / 32 = 6 ∧ 1 ≤ q.length then (if (c % 32) * 64 + q.getD 0 0 % 64 ≥ 0x80 then ((c % 32) * 64 + q.getD 0 0 % 64, 2) else (0xFFFD, 1))
  else if c / 16 = 14 ∧ 2 ≤ q.length then
    (if (c % 16) * 4096 + (q.getD 0 0 % 64) * 64 + q.getD 1 0 % 64 ≥ 0x800 ∧ Utf8.valid ((c % 16) * 4096 + (q.getD 0 0 % 64) * 64 + q.getD 1 0 % 64 : Nat) = true then ((c % 16) * 4096 + (q.getD 0 0 % 64) * 64 + q.getD 1 0 % 64, 3) else (0xFFFD, 1))
  else if c / 8 = 30 ∧ 3 ≤ q.length then
    (if (c % 8) * 262144 + (q.getD 0 0 % 64) * 4096 + (q.getD 1 0 % 64) * 64 + q.getD 2 0 % 64 ≥ 0x10000 ∧ Utf8.valid ((c % 8) * 262144 + (q.getD 0 0 % 64) * 4096 + (q.getD 1 0 % 64) * 64 + q.getD 2 0 % 64 : Nat) = true then ((c % 8) * 262144 + (q.getD 0 0 % 64) * 4096 + (q.getD 1 0 % 64) * 64 + q.getD 2 0 % 64, 4) else (0xFFFD, 1))
  else (0xFFFD, 1)

/-- The continuation bytes that stand ahead. -/
def lead : List Nat → List Nat
  | [] => []
  | x :: t => if x / 64 = 2 then x :: lead t else []

def bytesOf (s : ByteArray) : List Nat := s.data.toList.map (·.toNat)
theorem bytesOf_length (s : ByteArray) : (bytesOf s).length = s.size := by simp [bytesOf]
theorem get_bytes (s : ByteArray) (i : Nat) (h : i < s.size) : (s.get! i).toNat = (bytesOf s).getD i 0 := by
  have hd : i < s.data.size := h
  simp only [ByteArray.get!, getElem!_pos s.data i hd]
  simp [bytesOf]
  rw [Array.getElem?_eq_getElem hd]
  rfl

theorem lead_len1 (t : List Nat) : 1 ≤ (lead t).length ↔ 0 < t.length ∧ t.getD 0 0 / 64 = 2 := by
  cases t with
  | nil => simp [lead]
  | cons x t => by_cases h : x / 64 = 2 <;> simp [lead, h]
theorem lead_len2 (t : List Nat) : 2 ≤ (lead t).length ↔ (0 < t.length ∧ t.getD 0 0 / 64 = 2) ∧ (1 < t.length ∧ t.getD 1 0 / 64 = 2) := by
  cases t with
  | nil => simp [lead]
  | cons x t =>
    have h1 := lead_len1 t
    by_cases h : x / 64 = 2
    · simp [lead, h]
      simpa using h1
    · simp [lead, h]
theorem lead_len3 (t : List Nat) : 3 ≤ (lead t).length ↔ ((0 < t.length ∧ t.getD 0 0 / 64 = 2) ∧ (1 < t.length ∧ t.getD 1 0 / 64 = 2)) ∧ (2 < t.length ∧ t.getD 2 0 / 64 = 2) := by
  cases t with
  | nil => simp [lead]
  | cons x t =>
    have h2 := lead_len2 t
    by_cases h : x / 64 = 2
    · simp [lead, h]
      simp at h2
      omega
    · simp [lead, h]
theorem lead_le (t : List Nat) : (lead t).length ≤ t.length := by
  induction t with
  | nil => simp [lead]
  | cons x t ih => by_cases h : x / 64 = 2 <;> simp [lead, h] <;> omega
theorem lead_get (t : List Nat) : ∀ k, k < (lead t).length → (lead t).getD k 0 = t.getD k 0 := by
  induction t with
  | nil => intro k h; simp [lead] at h
  | cons x t ih =>
    intro k h
    by_cases hx : x / 64 = 2
    · simp only [lead, hx, if_true] at h ⊢
      cases k with
      | zero => rfl
      | succ k => simpa using ih k (by simpa using h)
    · simp [lead, hx] at h

theorem decode_eq (s : ByteArray) (i : Nat) (h : i < s.size) : Utf8.decode s i = decW ((bytesOf s).getD i 0) (lead ((bytesOf s).drop (i + 1))) := by
  obtain ⟨l, hl⟩ : ∃ l, bytesOf s = l := ⟨_, rfl⟩
  have hlen : l.length = s.size := by rw [← hl]; exact bytesOf_length s
  have hg : ∀ j, j < s.size → (s.get! j).toNat = l.getD j 0 := fun j hj => by rw [get_bytes s j hj, hl]
  have hc : ∀ k, (decide (i + (k + 1) < s.size) && ((s.get! (i + (k + 1))).toNat / 64 == 2)) = decide (k < (l.drop (i + 1)).length ∧ (l.drop (i + 1)).getD k 0 / 64 = 2) := by
    intro k
    have e : (l.drop (i + 1)).getD k 0 = l.getD (i + (k + 1)) 0 := by simp [List.getD_eq_getElem?_getD]; congr 2; omega
    by_cases hk : i + (k + 1) < s.size
    · rw [hg _ hk, e, Bool.eq_iff_iff]
      simp [hk]
      omega
    · rw [Bool.eq_iff_iff]
      simp [hk]
      omega
  have hv : ∀ k, k < (lead (l.drop (i + 1))).length → (s.get! (i + (k + 1))).toNat = (lead (l.drop (i + 1))).getD k 0 := by
    intro k hk
    rw [lead_get _ k hk]
    have e : (l.drop (i + 1)).getD k 0 = l.getD (i + (k + 1)) 0 := by simp [List.getD_eq_getElem?_getD]; congr 2; omega
    rw [e]
    refine hg _ ?_
    have h2 := lead_le (l.drop (i + 1))
    simp at h2
    omega
  have hx := hg i h
  obtain ⟨q, hq⟩ : ∃ q, lead (l.drop (i + 1)) = q := ⟨_, rfl⟩
  have c1 : (decide (i + 1 < s.size) && ((s.get! (i + 1)).toNat / 64 == 2)) = decide (1 ≤ q.length) := by
    rw [hc 0, ← hq]
    exact decide_eq_decide.2 (lead_len1 _).symm
  have c2 : (decide (i + 1 < s.size) && ((s.get! (i + 1)).toNat / 64 == 2) && (decide (i + 2 < s.size) && ((s.get! (i + 2)).toNat / 64 == 2))) = decide (2 ≤ q.length) := by
    rw [hc 0, hc 1, ← hq, ← Bool.decide_and]
    exact decide_eq_decide.2 (lead_len2 _).symm
  have c3 : (decide (i + 1 < s.size) && ((s.get! (i + 1)).toNat / 64 == 2) && (decide (i + 2 < s.size) && ((s.get! (i + 2)).toNat / 64 == 2)) && (decide (i + 3 < s.size) && ((s.get! (i + 3)).toNat / 64 == 2))) = decide (3 ≤ q.length) := by
    rw [hc 0, hc 1, hc 2, ← hq, ← Bool.decide_and, ← Bool.decide_and]
    exact decide_eq_decide.2 (lead_len3 _).symm
  rw [hl, hq]
  rw [hq] at hv
  unfold Utf8.decode decW
  simp only [Nat.add_zero, hx]
  by_cases h0 : l.getD i 0 < 128
  · rw [if_pos h0, if_pos h0]
  rw [if_neg h0, if_neg h0]
  have e1 : ((l.getD i 0 / 32 == 6 && (decide (i + 1 < s.size) && ((s.get! (i + 1)).toNat / 64 == 2))) = true) ↔ (l.getD i 0 / 32 = 6 ∧ 1 ≤ q.length) := by rw [c1]; simp
  have e2 : ((l.getD i 0 / 16 == 14 && (decide (i + 1 < s.size) && ((s.get! (i + 1)).toNat / 64 == 2)) && (decide (i + 2 < s.size) && ((s.get! (i + 2)).toNat / 64 == 2))) = true) ↔ (l.getD i 0 / 16 = 14 ∧ 2 ≤ q.length) := by rw [Bool.and_assoc, c2]; simp
  have e3 : ((l.getD i 0 / 8 == 30 && (decide (i + 1 < s.size) && ((s.get! (i + 1)).toNat / 64 == 2)) && (decide (i + 2 < s.size) && ((s.get! (i + 2)).toNat / 64 == 2)) && (decide (i + 3 < s.size) && ((s.get! (i + 3)).toNat / 64 == 2))) = true) ↔ (l.getD i 0 / 8 = 30 ∧ 3 ≤ q.length) := by rw [Bool.and_assoc, Bool.and_assoc, ← Bool.and_assoc (decide (i + 1 < s.size) && _), c3]; simp
  by_cases g1 : l.getD i 0 / 32 = 6 ∧ 1 ≤ q.length
  · rw [if_pos (e1.2 g1), if_pos g1, hv 0 (by omega)]
    rfl
  rw [if_neg (fun h => g1 (e1.1 h)), if_neg g1]
  by_cases g2 : l.getD i 0 / 16 = 14 ∧ 2 ≤ q.length
  · rw [if_pos (e2.2 g2), if_pos g2, hv 0 (by omega), hv 1 (by omega)]
    simp only [Bool.and_eq_true, decide_eq_true_eq]
    rfl
  rw [if_neg (fun h => g2 (e2.1 h)), if_neg g2]
  by_cases g3 : l.getD i 0 / 8 = 30 ∧ 3 ≤ q.length
  · rw [if_pos (e3.2 g3), if_pos g3, hv 0 (by omega), hv 1 (by omega), hv 2 (by omega)]
    simp only [Bool.and_eq_true, decide_eq_true_eq]
    rfl
  rw [if_neg (fun h => g3 (e3.1 h)), if_neg g3]
  rfl

/-- The code points of a list of bytes, at most b of them. -/
def rb : Nat → List Nat → List Int
  | 0, _ => []
  | _ + 1, [] => []
  | b + 1, c :: t => ((decW c (lead t)).1 : Int) :: rb b (t.drop ((decW c (lead t)).2 - 1))

theorem decW_width (c : Nat) (q : List Nat) : 1 ≤ (decW c q).2 ∧ (decW c q).2 - 1 ≤ q.length := by
  unfold decW
  repeat' split
  all_goals simp only
  all_goals omega
theorem decW_rune (c : Nat) (q : List Nat) : (decW c q).1 = c ∧ c < 128 ∨ 128 ≤ (decW c q).1 := by
  unfold decW
  by_cases h : c < 128
  · rw [if_pos h]
    exact .inl ⟨rfl, h⟩
  rw [if_neg h]
  right
  repeat' split
  all_goals simp only
  all_goals omega

theorem rl_eq (s : ByteArray) : ∀ b i, rl s b i = rb b ((bytesOf s).drop i)
  | 0, _ => rfl
  | b + 1, i => by
    unfold rl
    by_cases h : i < s.size
    · rw [if_pos h, decode_eq s i h]
      have hl : i < (bytesOf s).length := by rw [bytesOf_length]; exact h
      rw [List.drop_eq_getElem_cons hl]
      have e : (bytesOf s).getD i 0 = (bytesOf s)[i] := by simp [hl]
      rw [e]
      have hw := (decW_width (bytesOf s)[i] (lead ((bytesOf s).drop (i + 1)))).1
      rw [rl_eq s b]
      simp only [rb, List.drop_drop]
      congr 3
      omega
    · rw [if_neg h, List.drop_eq_nil_of_le (by rw [bytesOf_length]; omega)]
      rfl

def escL : List Nat → List Nat
  | [] => []
  | c :: t => if c = 37 ∨ c = 95 ∨ c = 92 then 92 :: c :: escL t else c :: escL t
def escR : List Int → List Int
  | [] => []
  | c :: t => if c = 37 ∨ c = 95 ∨ c = 92 then 92 :: c :: escR t else c :: escR t

theorem lead_esc : ∀ t, lead (escL t) = lead t
  | [] => rfl
  | x :: t => by
    by_cases hs : x = 37 ∨ x = 95 ∨ x = 92
    · have h1 : ¬ x / 64 = 2 := by omega
      simp [escL, hs, lead, h1]
    · simp only [escL, hs, if_false, lead, lead_esc t]
theorem drop_esc : ∀ (t : List Nat) (m : Nat), m ≤ (lead t).length → (escL t).drop m = escL (t.drop m)
  | _, 0, _ => rfl
  | [], m + 1, h => by simp [lead] at h
  | x :: t, m + 1, h => by
    by_cases hx : x / 64 = 2
    · have hs : ¬ (x = 37 ∨ x = 95 ∨ x = 92) := by omega
      simp only [lead, hx, if_true, List.length_cons] at h
      simp only [escL, hs, if_false, List.drop_succ_cons]
      exact drop_esc t m (by omega)
    · simp [lead, hx] at h

theorem rb_esc : ∀ (n : Nat) (l : List Nat) (b b' : Nat), l.length ≤ n → l.length ≤ b → (escL l).length ≤ b' → rb b' (escL l) = escR (rb b l)
  | _, [], b, b', _, _, _ => by cases b <;> cases b' <;> rfl
  | 0, _ :: _, _, _, h, _, _ => by simp at h
  | n + 1, c :: t, b, b', hn, hb, hb' => by
    obtain ⟨b0, rfl⟩ : ∃ b0, b = b0 + 1 := ⟨b - 1, by simp at hb; omega⟩
    simp only [List.length_cons] at hn hb
    have hw := decW_width c (lead t)
    have hr := decW_rune c (lead t)
    by_cases hs : c = 37 ∨ c = 95 ∨ c = 92
    · simp only [escL, hs, if_true, List.length_cons] at hb' ⊢
      obtain ⟨b1, rfl⟩ : ∃ b1, b' = b1 + 1 + 1 := ⟨b' - 2, by omega⟩
      have h92 : ∀ q, decW 92 q = (92, 1) := fun q => rfl
      have hc : ∀ q, decW c q = (c, 1) := fun q => by unfold decW; rw [if_pos (by omega)]
      simp only [rb, h92, hc, Nat.sub_self, List.drop_zero, escR]
      rw [if_pos (by omega), rb_esc n t b0 b1 (by omega) (by omega) (by omega)]
      rfl
    · simp only [escL, hs, if_false, List.length_cons] at hb' ⊢
      obtain ⟨b1, rfl⟩ : ∃ b1, b' = b1 + 1 := ⟨b' - 1, by omega⟩
      simp only [rb, lead_esc, escR]
      rw [if_neg (by omega), drop_esc t _ hw.2]
      congr 1
      refine rb_esc n _ b0 b1 (by simp; omega) (by simp; omega) ?_
      rw [← drop_esc t _ hw.2]
      simp
      omega

theorem toks_escR : ∀ xs : List Int, toks (escR xs) = xs.map fun c => (2, c)
  | [] => rfl
  | c :: t => by
    by_cases hs : c = 37 ∨ c = 95 ∨ c = 92
    · simp only [escR, hs, if_true, toks, List.map_cons, toks_escR t]
    · have h1 : tok1 c = (2, c) := by unfold tok1; rw [if_neg (by omega), if_neg (by omega)]
      simp only [escR, hs, if_false, List.map_cons]
      have := toks_escR t
      cases he : escR t with
      | nil =>
        rw [he] at this
        simp only [toks] at this
        simp [toks, h1, ← this]
      | cons d r =>
        rw [he] at this
        simp only [toks, if_neg (show ¬ c = 92 by omega), h1, this]

theorem mt_lits : ∀ xs ys : List Int, mt (xs.map fun c => (2, c)) ys = decide (xs = ys)
  | [], [] => rfl
  | [], _ :: _ => rfl
  | _ :: _, [] => by simp [mt, one]
  | x :: xs, y :: ys => by
    simp only [List.map_cons, mt]
    rw [if_neg (by decide)]
    simp only [one, mt_lits xs ys]
    rw [Bool.eq_iff_iff]
    simp only [Bool.and_eq_true, Bool.or_eq_true, decide_eq_true_eq, beq_iff_eq, List.cons.injEq]
    constructor
    · rintro ⟨h1, h2 | h2⟩
      · exact absurd h2 (by decide)
      · exact ⟨h2.symm, h1⟩
    · rintro ⟨h1, h2⟩
      exact ⟨h2, .inr h1.symm⟩

/-- The escaped text, as a pattern, matches just the text itself. -/
theorem esc_law (s s2 t : ByteArray) (h : bytesOf s2 = escL (bytesOf s)) : mt (toks (rn s2)) (rn t) = decide (rn s = rn t) := by
  have e : rn s2 = escR (rn s) := by
    unfold rn
    rw [rl_eq, rl_eq, List.drop_zero, List.drop_zero, h]
    refine rb_esc (bytesOf s).length _ _ _ (Nat.le_refl _) (by rw [bytesOf_length]; exact Nat.le_refl _) ?_
    rw [← h, bytesOf_length]
    exact Nat.le_refl _
  rw [e, toks_escR, mt_lits]

end Go.Proofs.Qxb6603229a
