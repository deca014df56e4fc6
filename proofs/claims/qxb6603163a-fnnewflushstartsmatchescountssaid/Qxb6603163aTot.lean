/- NewFlushStarts: what the two laws share: the chunks' lengths, the starts out of the groups. -/
import Derived.Test.Qxb6603163aZnew
namespace Go.Proofs.Qxb6603163a
open Go.ChangeShapes Go.WideShapes Go.ChangeAt Go.RowKit
set_option linter.unusedVariables false

/-- The bytes of the first k chunks. -/
def tot (ds : List (List Int)) (k : Nat) : Nat := ((ds.take k).flatten).length
theorem tot_zero (ds : List (List Int)) : tot ds 0 = 0 := by simp [tot]
theorem tot_succ (ds : List (List Int)) (k : Nat) (h : k < ds.length) : tot ds (k + 1) = tot ds k + ds[k].length := by
  unfold tot
  rw [List.take_succ_eq_append_getElem h, List.flatten_append, List.length_append]
  simp
theorem tot_all (ds : List (List Int)) : tot ds ds.length = ds.flatten.length := by simp [tot]
theorem tot_mono (ds : List (List Int)) {a b : Nat} (h : a ≤ b) : tot ds a ≤ tot ds b := by
  obtain ⟨c, rfl⟩ : ∃ c, b = a + c := ⟨b - a, by omega⟩
  unfold tot
  rw [List.take_add, List.flatten_append, List.length_append]
  omega
theorem tot_len_eq {ds : List (List Int)} {k l : Nat} {h : k < ds.length} (hl : tot ds (k + 1) = tot ds k + l ∧ ∀ d, ds[k]? = some d → d.length = l) : ds[k].length = l :=
  hl.2 _ (List.getElem?_eq_getElem h)
theorem row_len {w : World} {a : Option Addr} {len c k : Nat} {ds : List (List Int)} (HLEN : Hid (ds.length = len)) (h : Mt w (.slice a len c) ds) (hk : k < len) :
    ∃ b off ao l cp, a = some ⟨b, off, none⟩ ∧ w.cell? ⟨b, off + k, none⟩ = some (.slice ao l cp) ∧ (tot ds (k + 1) = tot ds k + l ∧ ∀ d, ds[k]? = some d → d.length = l) := by
  have hk' : k < ds.length := by rw [unhide HLEN]; exact hk
  obtain ⟨b, off, ao, l, cp, h1, h2, h3, _, _⟩ := h.row k hk'
  refine ⟨b, off, ao, l, cp, h1, h2, by rw [tot_succ ds k hk', h3], fun d hd => ?_⟩
  rw [List.getElem?_eq_getElem hk'] at hd
  cases hd
  exact h3.symm
def FullTo (ds : List (List Int)) (k : Nat) : Prop := ∀ (j : Nat) (d : List Int), j < k → ds[j]? = some d → d.length ≤ 4096 ∧ (j + 1 < ds.length → d.length = 4096)
theorem FullTo.zero (ds : List (List Int)) : FullTo ds 0 := fun j d h => by omega
theorem FullTo.next {ds : List (List Int)} {k l len : Nat} (h : FullTo ds k) (HLEN : Hid (ds.length = len)) (hl : tot ds (k + 1) = tot ds k + l ∧ ∀ d, ds[k]? = some d → d.length = l) (h1 : l ≤ 4096) (h2 : k + 1 < len → l = 4096) : FullTo ds (k + 1) := by
  intro j d hj hd
  by_cases hjk : j = k
  · subst hjk
    have := hl.2 d hd
    rw [this]
    exact ⟨h1, fun h => h2 (by rw [← unhide HLEN]; exact h)⟩
  · exact h j d (by omega) hd
theorem FullTo.full {ds : List (List Int)} {len : Nat} (h : FullTo ds len) (HLEN : Hid (ds.length = len)) : Full ds := by
  have hl := unhide HLEN
  refine ⟨fun j d hd => (h j d ?_ hd).1, fun j d hd hj => (h j d (by omega) hd).2 hj⟩
  have := (List.getElem?_eq_some_iff.1 hd).1
  omega

theorem gidx (pf f g : Nat) (hg : g < pf) : (f * pf + g) / pf = f ∧ (f * pf + g) % pf = g := by
  have hp : 0 < pf := by omega
  exact ⟨by rw [Nat.mul_comm, Nat.mul_add_div hp, Nat.div_eq_of_lt hg, Nat.add_zero], by rw [Nat.mul_comm, Nat.mul_add_mod, Nat.mod_eq_of_lt hg]⟩
theorem gidx_lt {n pf f g : Nat} (hg : g < pf) (hf : f < n) : f * pf + g < n * pf := by
  have h1 : (f + 1) * pf ≤ n * pf := Nat.mul_le_mul_right pf hf
  rw [Nat.add_mul, Nat.one_mul] at h1
  omega
/-- What a group's first and its within sum to: the start. -/
theorem fin_sum (L : List Int) (s pf bounds f b : Nat) (hs : s ≤ 4096) (hb : b < bounds) (hp : b / 8 < pf) :
    fin1 L s pf bounds (f * pf + b / 8) + fin2 L s pf bounds (f * pf + b / 8) (b % 8) = bas L f + C L s f b := by
  obtain ⟨h1, h2⟩ := gidx pf f (b / 8) hp
  unfold fin1 fin2 fst0
  rw [h1, h2, if_pos (by omega), if_pos (by omega), show 8 * (b / 8) + b % 8 = b by omega]
  have := C_group L s f b hs
  omega
theorem fin1_val (L : List Int) (s pf bounds f b : Nat) (hb : b < bounds) (hp : b / 8 < pf) (h8 : b % 8 = 0) : fin1 L s pf bounds (f * pf + b / 8) = bas L f + C L s f b := by
  obtain ⟨h1, h2⟩ := gidx pf f (b / 8) hp
  unfold fin1 fst0
  rw [h1, h2, if_pos (by omega), show 8 * (b / 8) = b by omega]
  omega
theorem fin2_past (L : List Int) (s pf bounds f b : Nat) (hb : bounds ≤ b) (hp : b / 8 < pf) : fin2 L s pf bounds (f * pf + b / 8) (b % 8) = 0 := by
  obtain ⟨h1, h2⟩ := gidx pf f (b / 8) hp
  unfold fin2
  rw [h1, h2, if_neg (by omega)]
theorem C_last (L : List Int) (s f b : Nat) (h : L.length ≤ b * s) : C L s f b = L.count (f : Int) := by
  unfold C
  exact cnt_all L f _ (by omega)
theorem bas_C_le (L : List Int) (s f b : Nat) : bas L f + C L s f b ≤ L.length := by
  have h1 : C L s f b ≤ L.count (f : Int) := cnt_count_le _ _ _
  have h2 := bas_le L (f + 1)
  have h3 : bas L (f + 1) = bas L f + L.count (f : Int) := rfl
  omega
end Go.Proofs.Qxb6603163a
