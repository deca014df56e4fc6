/- sameRunesB1: do two strings have the same code points? -/
import Derived.Test.Qxb6603229aLike
import Derived.BigQuiet
import Derived.Deep.QuietTactic
namespace Go.Proofs.Qxb6603229a
open Go.ChangeShapes Go.WideShapes Go.ChangeAt Go.RowKit

def SamePost (p r : List Int) (w : World) (e : Ending) (w' : World) : Prop := e = .returned (.bool (decide (p = r))) ∧ Below w.heap.size w w'
theorem bdN {B : Nat} {a w : World} (h : Below B a w) (n : Nat) : Below B a (w.drewN n) := ⟨h.os, h.tape, h.output, h.size, h.block⟩
theorem take_step {p r : List Int} {k : Nat} {x : Int} (h : p.take k = r.take k) (hp : p[k]? = some x) (hr : r[k]? = some x) : p.take (k + 1) = r.take (k + 1) := by
  rw [List.take_add_one, List.take_add_one, h, hp, hr]

set_option maxRecDepth 100000 in
set_option maxHeartbeats 1000000 in
theorem same_any (a s : ByteArray) (ha : a.size ≤ 1048576) (hs : s.size ≤ 1048576) (w : World) :
    Calls Try.prog 12 #[.string a, .string s] w fun e w' => SamePost (rn a) (rn s) w e w' := by
  have hc1 := conv_runes a ha
  have hc2 := conv_runes s hs
  have hm := rn_length a
  have hn := rn_length s
  obtain ⟨p, hp⟩ : ∃ p, rn a = p := ⟨_, rfl⟩
  obtain ⟨r, hr⟩ : ∃ r, rn s = r := ⟨_, rfl⟩
  rw [hp] at hc1 hm
  rw [hr] at hc2 hn
  rw [hp, hr]
  clear hp hr
  have hsz := after_size w p
  go_enter Try.func12, Try.ntmps12
  go_upto_region 3 with fail
  have htr := two_runes w p r
  generalize afterRunes (afterRunes w p) r = w1 at *
  generalize capRunes w p = c1 at *
  generalize capRunes (afterRunes w p) r = c2 at *
  obtain ⟨hrp, hrr, hbel⟩ := htr
  have HRP := hide hrp
  have HRR := hide hrr
  have HBW := hide hbel
  clear hc1 hc2 hsz hrp hrr hbel
  by_cases hl : p.length = r.length
  · have hlb : ((p.length : Int) != (r.length : Int)) = false := by rw [bne_eq_false_iff_eq]; omega
    obtain ⟨m, hm2⟩ : ∃ m, p.length = m := ⟨_, rfl⟩
    obtain ⟨n, hn2⟩ : ∃ n, r.length = n := ⟨_, rfl⟩
    have HLL := hide hl
    have HLM := hide hm2
    have HLN := hide hn2
    have hmn1 : m ≤ n := by omega
    have hmn2 : n ≤ m := by omega
    rw [hm2] at hlb hm ⊢
    rw [hn2] at hlb hn ⊢
    clear hl hm2 hn2
    go_wp2_with fail
    go_loopw [7] (fun iv wr => ∃ (k q : Nat), k ≤ m ∧ iv = .int .i64 k ∧ wr = w1.drewN q ∧ Hid (p.take k = r.take k)) (fun iv _ => m - (intOf iv).toNat)
    case atStart => exact ⟨0, 0, Nat.zero_le _, rfl, rfl, rfl⟩
    case round =>
    obtain ⟨k, q, hk, rfl, rfl, HT⟩ := hrel
    by_cases hlt : k < m
    · obtain ⟨x, hx⟩ : ∃ x, p[k]? = some x := ⟨p[k]'(by rw [unhide HLM]; exact hlt), List.getElem?_eq_getElem _⟩
      obtain ⟨y, hy⟩ : ∃ y, r[k]? = some y := ⟨r[k]'(by rw [unhide HLN]; omega), List.getElem?_eq_getElem _⟩
      have hcx := (unhide HRP).2 k x hx
      have hcy := (unhide HRR).2 k y hy
      have HX := hide hx
      have HY := hide hy
      have hk0 : (0 : Int) ≤ (k : Int) := by omega
      have hk1 : (k : Int) < (m : Int) := by omega
      have hk2 : (k : Int) < (n : Int) := by omega
      clear hx hy
      by_cases hxy : x = y
      · have hb : (x != y) = false := by rw [bne_eq_false_iff_eq]; exact hxy
        have HXY := hide hxy
        clear hxy
        go_wp2_with fail
        go_quiet (fail)
        go_wp2_with fail
        go_roundw
        case rel => exact ⟨k + 1, q + nq, by omega, by go_num, rfl, take_step (unhide HT) (unhide HX) ((unhide HXY).symm ▸ unhide HY)⟩
        case measure => simp [intOf] <;> omega
      · have hb : (x != y) = true := by rw [bne_iff_ne]; exact hxy
        have HF : Hid (decide (p = r) = false) := by
          refine decide_eq_false fun h => hxy ?_
          have h1 := unhide HX
          rw [h, unhide HY] at h1
          exact (Option.some.inj h1).symm
        clear hxy
        go_wp2_with fail
        go_quiet (fail)
        go_wp2
        go_ret
        exact ⟨ret_eq (unhide HF), bdN (bdN (unhide HBW) _) _⟩
    · have HF : Hid (decide (p = r) = true) := by
        refine decide_eq_true ?_
        have h1 := unhide HT
        rw [List.take_of_length_le (by rw [unhide HLM]; omega), List.take_of_length_le (by rw [unhide HLN]; omega)] at h1
        exact h1
      go_wp2
      go_ret
      exact ⟨ret_eq (unhide HF), bdN (unhide HBW) _⟩
  · have hlb : ((p.length : Int) != (r.length : Int)) = true := by rw [bne_iff_ne]; omega
    have HF : Hid (decide (p = r) = false) := decide_eq_false fun h => hl (by rw [h])
    clear hl
    go_wp2
    go_ret
    exact ⟨ret_eq (unhide HF), unhide HBW⟩
end Go.Proofs.Qxb6603229a
