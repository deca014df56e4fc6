/- NewFlushStarts, the plain part: a store's bytes in one row, and counts in it. No Go here. -/
import Derived.Below
namespace Go.Proofs.Qxb6603163a

/-- Every chunk full but the last. -/
def Full (ds : List (List Int)) : Prop := (∀ (j : Nat) (d : List Int), ds[j]? = some d → d.length ≤ 4096) ∧ ∀ (j : Nat) (d : List Int), ds[j]? = some d → j + 1 < ds.length → d.length = 4096

theorem Full.tail {d : List Int} {t : List (List Int)} (h : Full (d :: t)) : Full t :=
  ⟨fun j e hj => h.1 (j + 1) e (by simpa using hj), fun j e hj hl => h.2 (j + 1) e (by simpa using hj) (by simp; omega)⟩
theorem Full.head {d : List Int} {t : List (List Int)} (h : Full (d :: t)) (ht : t ≠ []) : d.length = 4096 := by
  refine h.2 0 d rfl ?_
  cases t with
  | nil => exact absurd rfl ht
  | cons a b => simp

theorem full_at (ds : List (List Int)) (h : Full ds) : ∀ i, i < ds.flatten.length → ∃ d, ds[i / 4096]? = some d ∧ i % 4096 < d.length ∧ d[i % 4096]? = ds.flatten[i]? := by
  induction ds with
  | nil => intro i hi; simp at hi
  | cons d t ih =>
    intro i hi
    by_cases hid : i < d.length
    · have h4 := h.1 0 d rfl
      have e1 : i / 4096 = 0 := by omega
      have e2 : i % 4096 = i := by omega
      refine ⟨d, by rw [e1]; rfl, by omega, ?_⟩
      rw [e2, List.flatten_cons, List.getElem?_append_left hid]
    · have ht : t ≠ [] := by
        rintro rfl
        simp at hi
        omega
      have hd := h.head ht
      rw [List.flatten_cons, List.length_append] at hi
      obtain ⟨d', h1, h2, h3⟩ := ih h.tail (i - 4096) (by omega)
      have e1 : i / 4096 = (i - 4096) / 4096 + 1 := by omega
      have e2 : i % 4096 = (i - 4096) % 4096 := by omega
      refine ⟨d', by rw [e1, List.getElem?_cons_succ]; exact h1, by rw [e2]; exact h2, ?_⟩
      rw [e2, h3, List.flatten_cons, List.getElem?_append_right (by omega), hd]

theorem full_len : ∀ (ds : List (List Int)), Full ds → ∀ k d, ds[k]? = some d → k + 1 = ds.length → ds.flatten.length = k * 4096 + d.length
  | [], _, k, d, hk, _ => by simp at hk
  | d :: t, h, k, e, hk, hl => by
    cases t with
    | nil =>
      simp at hl
      subst hl
      simp at hk
      subst hk
      simp
    | cons a b =>
      have hd := h.head (by simp)
      simp at hl
      obtain ⟨k', rfl⟩ : ∃ k', k = k' + 1 := ⟨k - 1, by omega⟩
      have := full_len (a :: b) h.tail k' e (by simpa using hk) (by simp; omega)
      rw [List.flatten_cons, List.length_append, this, hd]
      omega

theorem full_run (ds : List (List Int)) (h : Full ds) (a b : Nat) (hab : a < b) (hb : b ≤ ds.flatten.length) (hq : a / 4096 = (b - 1) / 4096) :
    ∃ d, ds[a / 4096]? = some d ∧ a % 4096 + (b - a) ≤ d.length ∧ (d.drop (a % 4096)).take (b - a) = (ds.flatten.drop a).take (b - a) := by
  obtain ⟨d, h1, h2, _⟩ := full_at ds h (b - 1) (by omega)
  rw [← hq] at h1
  have hl : a % 4096 + (b - a) ≤ d.length := by omega
  refine ⟨d, h1, hl, List.ext_getElem? fun j => ?_⟩
  rw [List.getElem?_take, List.getElem?_take, List.getElem?_drop, List.getElem?_drop]
  split
  · rename_i hj
    obtain ⟨d', h1', h2', h3'⟩ := full_at ds h (a + j) (by omega)
    have e1 : (a + j) / 4096 = a / 4096 := by omega
    have e2 : (a + j) % 4096 = a % 4096 + j := by omega
    rw [e1, h1] at h1'
    cases h1'
    rw [← h3', e2]
  · rfl

/-- How many of the first k are v. -/
def cnt (l : List Int) (v k : Nat) : Nat := (l.take k).count (v : Int)
/-- How many are below v. -/
def bas (l : List Int) : Nat → Nat
  | 0 => 0
  | v + 1 => bas l v + l.count (v : Int)

theorem cnt_zero (l : List Int) (v : Nat) : cnt l v 0 = 0 := by simp [cnt]
theorem cnt_succ (l : List Int) (v k : Nat) (x : Int) (h : l[k]? = some x) : cnt l v (k + 1) = cnt l v k + if x = (v : Int) then 1 else 0 := by
  obtain ⟨hk, rfl⟩ := List.getElem?_eq_some_iff.1 h
  unfold cnt
  rw [List.take_succ_eq_append_getElem hk, List.count_append, List.count_singleton]
  simp [beq_iff_eq]
theorem cnt_all (l : List Int) (v k : Nat) (h : l.length ≤ k) : cnt l v k = l.count (v : Int) := by
  unfold cnt; rw [List.take_of_length_le h]
theorem cnt_le (l : List Int) (v k : Nat) : cnt l v k ≤ k := by
  unfold cnt
  have := List.count_le_length (l := l.take k) (a := (v : Int))
  simp at this
  omega
theorem cnt_add (l : List Int) (v a b : Nat) : cnt l v (a + b) = cnt l v a + ((l.drop a).take b).count (v : Int) := by
  unfold cnt
  rw [List.take_add, List.count_append]
theorem cnt_mono (l : List Int) (v a b : Nat) (h : a ≤ b) : cnt l v a ≤ cnt l v b := by
  obtain ⟨c, rfl⟩ : ∃ c, b = a + c := ⟨b - a, by omega⟩
  rw [cnt_add]; omega
theorem cnt_diff (l : List Int) (v a b : Nat) (h : a ≤ b) : cnt l v b ≤ cnt l v a + (b - a) := by
  obtain ⟨c, rfl⟩ : ∃ c, b = a + c := ⟨b - a, by omega⟩
  rw [cnt_add]
  have := List.count_le_length (l := (l.drop a).take c) (a := (v : Int))
  simp at this
  omega
theorem cnt_count_le (l : List Int) (v k : Nat) : cnt l v k ≤ l.count (v : Int) := by
  rw [← cnt_all l v (max k l.length) (by omega)]
  exact cnt_mono _ _ _ _ (by omega)

theorem bas_cons (x : Int) (l : List Int) : ∀ v, bas (x :: l) v ≤ bas l v + 1 ∧ ((v : Int) ≤ x → bas (x :: l) v = bas l v)
  | 0 => ⟨by simp [bas], fun _ => rfl⟩
  | v + 1 => by
    have ih := bas_cons x l v
    simp only [bas, List.count_cons]
    refine ⟨?_, fun h => ?_⟩
    · by_cases hx : x = (v : Int)
      · have := ih.2 (by omega)
        simp [hx] at this ⊢
        omega
      · simp [hx]
        omega
    · have := ih.2 (by omega)
      have hx : x ≠ (v : Int) := by omega
      simp [hx]
      omega
theorem bas_le : ∀ (l : List Int) (v : Nat), bas l v ≤ l.length
  | [], v => by
    induction v with
    | zero => exact Nat.le_refl _
    | succ v ih => simp [bas] at ih ⊢; exact ih
  | x :: l, v => by
    have := (bas_cons x l v).1
    have := bas_le l v
    simp
    omega
/-- The counts of one stretch, all values below v: no more than the stretch. -/
theorem bas_take (l : List Int) (a b v : Nat) : bas ((l.drop a).take b) v ≤ b := by
  have := bas_le ((l.drop a).take b) v
  simp at this
  omega
end Go.Proofs.Qxb6603163a
