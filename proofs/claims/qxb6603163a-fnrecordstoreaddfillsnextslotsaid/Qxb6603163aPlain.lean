/- Plain laws on lists: what a script of adds leaves. No Go here. -/
import Derived.Below
namespace Go.Proofs.Qxb6603163a

/-- The record in its slot: padded with zeros. -/
def pad (size : Nat) (xs : List Int) : List Int := xs ++ List.replicate (size - xs.length) 0
/-- The store behind an add: the slot is laid behind chunk c, which is new if it was not there. -/
def addD (ds : List (List Int)) (c : Nat) (p : List Int) : List (List Int) := if c < ds.length then ds.set c (ds[c]?.getD [] ++ p) else ds ++ [p]

theorem pad_length (size : Nat) (xs : List Int) (h : xs.length ≤ size) : (pad size xs).length = size := by
  unfold pad
  simp
  omega

theorem pad_get (size : Nat) (xs : List Int) (t : Nat) (h : t < size) : (pad size xs)[t]? = some (if t < xs.length then xs.getD t 0 else 0) := by
  unfold pad
  by_cases ht : t < xs.length
  · rw [List.getElem?_append_left ht, if_pos ht]
    simp [ht]
  · rw [List.getElem?_append_right (by omega), if_neg ht, List.getElem?_replicate, if_pos (by omega)]

theorem flat_succ (f : Nat → List Int) (n : Nat) : (List.range (n + 1)).flatMap f = (List.range n).flatMap f ++ f n := by
  rw [List.range_succ, List.flatMap_append]
  simp

theorem flat_length (f : Nat → List Int) (size : Nat) : ∀ n, (∀ q, q < n → (f q).length = size) → ((List.range n).flatMap f).length = n * size
  | 0, _ => by simp
  | n + 1, h => by
    rw [flat_succ, List.length_append, flat_length f size n (fun q hq => h q (by omega)), h n (by omega), Nat.succ_mul]

theorem flat_get (f : Nat → List Int) (size : Nat) : ∀ n, (∀ q, q < n → (f q).length = size) → ∀ q t, q < n → t < size → ((List.range n).flatMap f)[q * size + t]? = (f q)[t]?
  | 0, _, _, _, hq, _ => by omega
  | n + 1, h, q, t, hq, ht => by
    rw [flat_succ]
    have hl := flat_length f size n (fun q hq => h q (by omega))
    by_cases hqn : q < n
    · have h1 : (q + 1) * size ≤ n * size := Nat.mul_le_mul_right _ hqn
      rw [Nat.succ_mul] at h1
      rw [List.getElem?_append_left (by omega)]
      exact flat_get f size n (fun q hq => h q (by omega)) q t hqn ht
    · have hqe : q = n := by omega
      subst hqe
      rw [List.getElem?_append_right (by omega), hl]
      congr 1
      omega

def chunkAt (p : Nat → List Int) (k j : Nat) : List Int := (List.range (min 4096 (k - 4096 * j))).flatMap fun q => p (4096 * j + q)
def chunksOf (p : Nat → List Int) (k : Nat) : List (List Int) := (List.range ((k + 4095) / 4096)).map (chunkAt p k)

theorem chunksOf_length (p : Nat → List Int) (k : Nat) : (chunksOf p k).length = (k + 4095) / 4096 := by simp [chunksOf]
theorem chunksOf_get (p : Nat → List Int) (k j : Nat) (h : j < (k + 4095) / 4096) : (chunksOf p k)[j]? = some (chunkAt p k j) := by
  unfold chunksOf
  rw [List.getElem?_map, List.getElem?_range h]
  rfl
theorem chunksOf_zero (p : Nat → List Int) : chunksOf p 0 = [] := rfl

theorem chunkAt_full (p : Nat → List Int) (k j : Nat) (h : 4096 * (j + 1) ≤ k) : chunkAt p (k + 1) j = chunkAt p k j := by
  unfold chunkAt
  rw [show min 4096 (k + 1 - 4096 * j) = min 4096 (k - 4096 * j) from by omega]

theorem chunksOf_succ (p : Nat → List Int) (k : Nat) : addD (chunksOf p k) (k / 4096) (p k) = chunksOf p (k + 1) := by
  have hl := chunksOf_length p k
  unfold addD
  by_cases h0 : k % 4096 = 0
  · rw [if_neg (by rw [hl]; omega)]
    apply List.ext_getElem?
    intro j
    by_cases hj : j < (k + 1 + 4095) / 4096
    · rw [chunksOf_get p (k + 1) j hj]
      by_cases hjc : j < k / 4096
      · rw [List.getElem?_append_left (by rw [hl]; omega), chunksOf_get p k j (by omega), chunkAt_full p k j (by omega)]
      · rw [List.getElem?_append_right (by rw [hl]; omega), hl]
        have e : j - (k + 4095) / 4096 = 0 := by omega
        rw [e]
        have e2 : min 4096 (k + 1 - 4096 * j) = 1 := by omega
        have e3 : 4096 * j = k := by omega
        simp only [chunkAt, e2]
        simp [e3]
    · rw [List.getElem?_eq_none (by simp [hl]; omega), List.getElem?_eq_none (by rw [chunksOf_length]; omega)]
  · rw [if_pos (by rw [hl]; omega)]
    apply List.ext_getElem?
    intro j
    rw [List.getElem?_set]
    by_cases hj : j < (k + 1 + 4095) / 4096
    · rw [chunksOf_get p (k + 1) j hj]
      by_cases hjc : k / 4096 = j
      · rw [if_pos hjc, if_pos (by rw [hl]; omega), hjc, chunksOf_get p k j (by omega)]
        have e2 : min 4096 (k + 1 - 4096 * j) = min 4096 (k - 4096 * j) + 1 := by omega
        have e3 : 4096 * j + min 4096 (k - 4096 * j) = k := by omega
        simp only [chunkAt, e2, flat_succ, e3, Option.getD_some]
      · rw [if_neg hjc, chunksOf_get p k j (by omega), chunkAt_full p k j (by omega)]
    · rw [if_neg (by omega), List.getElem?_eq_none (by rw [hl]; omega), List.getElem?_eq_none (by rw [chunksOf_length]; omega)]

theorem chunkAt_length (p : Nat → List Int) (size k j : Nat) (h : ∀ i, i < k → (p i).length = size) : (chunkAt p k j).length = min 4096 (k - 4096 * j) * size := by
  unfold chunkAt
  exact flat_length _ size _ (fun q hq => h _ (by omega))

theorem chunkAt_get (p : Nat → List Int) (size k i t : Nat) (h : ∀ i, i < k → (p i).length = size) (hi : i < k) (ht : t < size) : (chunkAt p k (i / 4096))[(i % 4096) * size + t]? = (p i)[t]? := by
  unfold chunkAt
  rw [flat_get _ size _ (fun q hq => h _ (by omega)) (i % 4096) t (by omega) ht]
  congr 2
  omega

/-- There is room for one more in the chunk that the next record goes to. -/
theorem chunk_room (p : Nat → List Int) (size k : Nat) (h : ∀ i, i < k → (p i).length = size) (d : List Int) (hd : (chunksOf p k)[k / 4096]? = some d) : d.length + size ≤ 4096 * size := by
  have hlt := (List.getElem?_eq_some_iff.1 hd).1
  rw [chunksOf_length] at hlt
  rw [chunksOf_get p k _ hlt] at hd
  cases hd
  rw [chunkAt_length p size k _ h]
  have h1 : min 4096 (k - 4096 * (k / 4096)) + 1 ≤ 4096 := by omega
  have := Nat.mul_le_mul_right size h1
  rw [Nat.succ_mul] at this
  exact this

theorem chunk_le (p : Nat → List Int) (k : Nat) : k / 4096 ≤ (chunksOf p k).length := by rw [chunksOf_length]; omega

end Go.Proofs.Qxb6603163a
