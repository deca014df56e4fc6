/- likeModelB1: the tokens and the table of suffixes answer as the plain matcher. -/
import Derived.Test.Qxb6603229aLike
import Derived.BigQuiet
import Derived.BigRegion
import Derived.Deep.QuietTactic
import Derived.Deep.DrawnRows
namespace Go.Proofs.Qxb6603229a
open Go.ChangeShapes Go.WideShapes Go.ChangeAt Go.RowKit

theorem Try.info3 : (Try.prog.info? 3).map (fun i => (i.zero, i.size, i.bytes)) = some (some (.int .i64 0), 1, 8) := by kernel_rfl
theorem Try.info21 : (Try.prog.info? 21).map (fun i => (i.zero, i.size, i.bytes)) = some (some (.int .i32 0), 1, 4) := by kernel_rfl
theorem Try.info4 : (Try.prog.info? 4).map (fun i => (i.zero, i.size, i.bytes)) = some (some (.bool false), 1, 1) := by kernel_rfl

/-- 'make([]int, 0, K)', 'make([]rune, 0, K)'. -/
theorem make3 (K : Nat) (hK : K ≤ 1048576) (w : World) : (Instr.makeSlice 46 (.int .i64 0) (.int .i64 K)).run Try.prog w = .ok (.slice (some ⟨w.heap.size, 0, none⟩) 0 K) (w.alloc (.cells (madeCells #[.int .i64 0] K) 3)) := by
  obtain ⟨i, hi, hz0, hz1, hz2⟩ := info_parts Try.info3
  have hr := run_make (P := Try.prog) w 46 3 i (.int .i64 0) Try.underlying46 hi hz0 .i64 .i64 0 K (by omega) (by omega) (by rw [hz2]; omega) (by omega)
  simpa [hz1, Value.cells] using hr
theorem make21 (K : Nat) (hK : K ≤ 1048576) (w : World) : (Instr.makeSlice 45 (.int .i64 0) (.int .i64 K)).run Try.prog w = .ok (.slice (some ⟨w.heap.size, 0, none⟩) 0 K) (w.alloc (.cells (madeCells #[.int .i32 0] K) 21)) := by
  obtain ⟨i, hi, hz0, hz1, hz2⟩ := info_parts Try.info21
  have hr := run_make (P := Try.prog) w 45 21 i (.int .i32 0) Try.underlying45 hi hz0 .i64 .i64 0 K (by omega) (by omega) (by rw [hz2]; omega) (by omega)
  simpa [hz1, Value.cells] using hr

def kcs (ts : List (Int × Int)) : List Value := ts.map fun t => Value.int .i64 t.1
def lcs (ts : List (Int × Int)) : List Value := ts.map fun t => Value.int .i32 t.2

/-- The two rows of tokens, as far as they are gathered. -/
def TokSt (w : World) (G m : Nat) (ts : List (Int × Int)) : Prop :=
  w.ownsRow G 3 1 (.slice (some ⟨G, 0, none⟩) ts.length m) ts.length (kcs ts) ∧ w.ownsRow G 21 1 (.slice (some ⟨G + 1, 0, none⟩) ts.length m) ts.length (lcs ts)

theorem TokSt.start (w : World) (m : Nat) (hm : m ≤ 1048576) : TokSt ((w.alloc (.cells (madeCells #[.int .i64 0] m) 3)).alloc (.cells (madeCells #[.int .i32 0] m) 21)) w.heap.size m [] := by
  refine ⟨?_, ?_⟩
  · exact (World.ownsRow_made w _ m (Nat.le_refl _) (by unfold maxLen; omega) (by simp [size_madeCells])).alloc _
  · have := World.ownsRow_made (base := w.heap.size) (e := 21) (size := 1) (w.alloc (.cells (madeCells #[.int .i64 0] m) 3)) (madeCells #[.int .i32 0] m) m (by simp) (by unfold maxLen; omega) (by simp [size_madeCells])
    rw [World.size_alloc] at this
    exact this

theorem far_cell {wr w1 : World} {o : Obj} {G b j : Nat} {v : Value} (hc : wr.cell? ⟨b, j, none⟩ = some v) (hb : b ≠ G) (hg : (wr.alloc o).grownBy w1 (some G)) : w1.cell? ⟨b, j, none⟩ = some v := by
  have hlt := World.block_lt_of_cell? wr _ hc
  have hlt' : b < wr.heap.size := hlt
  rw [hg.cell_far ⟨b, j, none⟩ (by simp; omega) (by simpa using hb), World.cell?_alloc_old _ _ _ (by omega)]
  exact hc

/-- The second row stands while the first is appended to. -/
theorem TokSt.lits {wr w1 : World} {o : Obj} {G m : Nat} {ts : List (Int × Int)} (h : TokSt wr G m ts) (hg : (wr.alloc o).grownBy w1 (some G)) : w1.ownsRow G 21 1 (.slice (some ⟨G + 1, 0, none⟩) ts.length m) ts.length (lcs ts) :=
  (h.2.alloc o).kept hg (.inr (by simp [Value.ownBlock]))

theorem TokSt.step {w wr w1 w2 : World} {o o2 : Obj} {G m : Nat} {ts : List (Int × Int)} {t : Int × Int} (hb : Below G w wr) (hG : G ≤ wr.heap.size)
    (o1 : w1.ownsRow G 3 1 (.slice (some ⟨G, 0, none⟩) (ts.length + 1) m) (ts.length + 1) (kcs ts ++ [.int .i64 t.1])) (g1 : (wr.alloc o).grownBy w1 (some G))
    (o2' : w2.ownsRow G 21 1 (.slice (some ⟨G + 1, 0, none⟩) (ts.length + 1) m) (ts.length + 1) (lcs ts ++ [.int .i32 t.2])) (g2 : (w1.alloc o2).grownBy w2 (some (G + 1))) :
    TokSt w2 G m (ts ++ [t]) ∧ Below G w w2 ∧ G ≤ w2.heap.size := by
  have hs1 := g1.size
  have hs2 := g2.size
  simp at hs1 hs2
  refine ⟨⟨?_, ?_⟩, ?_, by omega⟩
  · have := (o1.alloc o2).kept g2 (.inr (by simp [Value.ownBlock]))
    simpa [kcs] using this
  · simpa [lcs] using o2'
  · exact (((hb.alloc hG _).grown g1 (by simp; omega) (fun k hk => by cases hk; exact Nat.le_refl _)).alloc (by omega) _).grown g2 (by simp; omega) (fun k hk => by cases hk; omega)


theorem make4 (n : Nat) (hn : n ≤ 1048576) (w : World) : (Instr.makeSlice 47 (.int .i64 ((n : Int) + 1)) (.int .i64 ((n : Int) + 1))).run Try.prog w = .ok (.slice (some ⟨w.heap.size, 0, none⟩) (n + 1) (n + 1)) (w.alloc (.cells (madeCells #[.bool false] (n + 1)) 4)) := by
  have h := run_make_row' (P := Try.prog) 47 4 (.bool false) 1 Try.underlying47 Try.info4 rfl .i64 .i64 (n + 1) (by omega) (by omega) w
  rw [show ((n + 1 : Nat) : Int) = (n : Int) + 1 by omega] at h
  exact h

/-! ### The table -/
theorem star_at (f : List Int → Bool) (r : List Int) (j : Nat) (h : j < r.length) : star f (r.drop j) = (f (r.drop j) || star f (r.drop (j + 1))) := by
  rw [List.drop_eq_getElem_cons h]
  rfl
theorem star_last (f : List Int → Bool) (r : List Int) (j : Nat) (h : r.length ≤ j) : star f (r.drop j) = f (r.drop j) := by
  rw [List.drop_eq_nil_of_le h]
  rfl
theorem one_at (t : Int × Int) (f : List Int → Bool) (r : List Int) (j : Nat) (x : Int) (h : r[j]? = some x) : one t f (r.drop j) = (f (r.drop (j + 1)) && (t.1 == 1 || x == t.2)) := by
  rw [drop_cons h]
  rfl
theorem one_last (t : Int × Int) (f : List Int → Bool) (r : List Int) (j : Nat) (h : r.length ≤ j) : one t f (r.drop j) = false := by
  rw [List.drop_eq_nil_of_le h]
  rfl
theorem mt_drop_star {ts : List (Int × Int)} {q : Nat} {t : Int × Int} (h : ts[q]? = some t) (h0 : t.1 = 0) : mt (ts.drop q) = star (mt (ts.drop (q + 1))) := by
  obtain ⟨hlt, rfl⟩ := List.getElem?_eq_some_iff.1 h
  rw [List.drop_eq_getElem_cons hlt]
  simp [mt, h0]
theorem mt_drop_one {ts : List (Int × Int)} {q : Nat} {t : Int × Int} (h : ts[q]? = some t) (h0 : t.1 ≠ 0) : mt (ts.drop q) = one t (mt (ts.drop (q + 1))) := by
  obtain ⟨hlt, rfl⟩ := List.getElem?_eq_some_iff.1 h
  rw [List.drop_eq_getElem_cons hlt]
  simp [mt, h0]

/-- The table's first row. -/
theorem row_first {w : World} {H n : Nat} {ts : List (Int × Int)} {r : List Int} (hn : n = r.length) (h : w.rowIs H 4 (n + 1) (fun _ => .bool false)) :
    (w.setCell ⟨H, n, none⟩ (.bool true)).rowIs H 4 (n + 1) (fun j => .bool (mt (ts.drop ts.length) (r.drop j))) := by
  refine (h.set n (.bool true)).congr fun j hj => ?_
  rw [List.drop_eq_nil_of_le (Nat.le_refl _)]
  by_cases hjn : j = n
  · subst hjn
    rw [if_pos rfl, List.drop_eq_nil_of_le (by omega)]
    rfl
  · rw [if_neg hjn, List.drop_eq_getElem_cons (show j < r.length by omega)]
    rfl

/-- What a round of the table has: the row that is read, the row that is filled. -/
def Tab (wr wx : World) (H N1 C1 n : Nat) (f g : Nat → Bool) : Prop :=
  wx.rowIs N1 4 (n + 1) (fun j => .bool (f j)) ∧ wx.rowIs C1 4 (n + 1) (fun j => .bool (g j)) ∧ Below H wr wx

theorem Tab.set {wr wx : World} {H N1 C1 n : Nat} {f g : Nat → Bool} (h : Tab wr wx H N1 C1 n f g) (hne : N1 ≠ C1) (hC : H ≤ C1) (z : Nat) (b : Bool) :
    Tab wr (wx.setCell ⟨C1, z, none⟩ (.bool b)) H N1 C1 n f (fun j => if j = z then b else g j) :=
  ⟨h.1.setOther hne _, (h.2.1.set z (.bool b)).congr (fun j _ => by by_cases hj : j = z <;> simp [hj]), h.2.2.setCell hC _⟩

theorem Tab.drew {wr wx : World} {H N1 C1 n : Nat} {f g : Nat → Bool} (h : Tab wr wx H N1 C1 n f g) : Tab wr wx.drew H N1 C1 n f g := ⟨h.1.drew, h.2.1.drew, h.2.2.drew⟩


def ModelPost (p r : List Int) (w : World) (e : Ending) (w' : World) : Prop := e = .returned (.bool (mt (toks p) r)) ∧ Below w.heap.size w w'

set_option maxRecDepth 100000 in
set_option maxHeartbeats 4000000 in
theorem model_any (a s : ByteArray) (ha : a.size ≤ 1048576) (hs : s.size ≤ 1048576) (w : World) :
    Calls Try.prog 10 #[.string a, .string s] w fun e w' => ModelPost (rn a) (rn s) w e w' := by
  have hc1 := conv_runes a ha
  have hc2 := conv_runes s hs
  have hm := rn_length a
  have hn := rn_length s
  obtain ⟨p, hp⟩ : ∃ p, rn a = p := ⟨_, rfl⟩
  obtain ⟨r, hr⟩ : ∃ r, rn s = r := ⟨_, rfl⟩
  rw [hp] at hc1 hm
  rw [hr] at hc2 hn
  rw [hp, hr]
  clear hp hr
  have hsz := after_size w p
  have hmk3 := make3 p.length (by omega)
  have hmk21 := make21 p.length (by omega)
  obtain ⟨i3, hi3, _, hs3, _⟩ := info_parts Try.info3
  obtain ⟨i21, hi21, _, hs21, _⟩ := info_parts Try.info21
  go_enter Try.func10, Try.ntmps10
  go_upto_region 3 with fail
  have htr := two_runes w p r
  have hsz2 : (afterRunes (afterRunes w p) r).heap.size = w.heap.size + 2 := by rw [after_size, after_size]
  generalize afterRunes (afterRunes w p) r = w1 at *
  generalize capRunes w p = c1 at *
  generalize capRunes (afterRunes w p) r = c2 at *
  obtain ⟨hrp, hrr, hbel⟩ := htr
  have HRP := hide hrp
  have HRR := hide hrr
  have HBW := hide hbel
  have HSZ := hide hsz2
  clear hc1 hc2 hsz hrp hrr hbel hsz2
  go_wp2_with fail
  go_loopw [7, 8, 9, 10] (fun kv lv iv _ wr => ∃ (i : Nat) (ts : List (Int × Int)), i ≤ p.length ∧ kv = .slice (some ⟨w1.heap.size, 0, none⟩) ts.length p.length ∧ lv = .slice (some ⟨w1.heap.size + 1, 0, none⟩) ts.length p.length ∧
      iv = .int .i64 i ∧ ts.length ≤ i ∧ Hid (ts ++ toks (p.drop i) = toks p) ∧ Hid (TokSt wr w1.heap.size p.length ts ∧ Below w1.heap.size w1 wr ∧ w1.heap.size ≤ wr.heap.size)) (fun _ _ iv _ _ => p.length - (intOf iv).toNat)
  case atStart => exact ⟨0, [], Nat.zero_le _, rfl, rfl, rfl, Nat.le_refl _, rfl, TokSt.start w1 p.length (by omega), ((Below.refl _ _).alloc (Nat.le_refl _) _).alloc (by simp) _, by simp; omega⟩
  case round =>
  obtain ⟨i, ts, hi, rfl, rfl, rfl, htl, HTS, HALL⟩ := hrel
  have HT := hide (unhide HALL).1
  have HB := hide (unhide HALL).2.1
  have hG := (unhide HALL).2.2
  by_cases hlt : i < p.length
  · obtain ⟨c, hc⟩ : ∃ c, p[i]? = some c := ⟨_, List.getElem?_eq_getElem hlt⟩
    have hrpw : Runes wr w.heap.size p := (unhide HRP).keep (unhide HB).block (unhide HB).size
    have hwlt : w.heap.size < w1.heap.size := (unhide HRP).1
    have hcc := hrpw.2 i c hc
    by_cases hesc : c = 92 ∧ i + 1 < p.length
    · obtain ⟨rfl, hp1⟩ := hesc
      obtain ⟨d, hd⟩ : ∃ d, p[i + 1]? = some d := ⟨_, List.getElem?_eq_getElem hp1⟩
      have hcd := hrpw.2 (i + 1) d hd
      have HTE := hide (toks_esc hc hd)
      clear hc hd hrpw
      go_wp2_with (first | (at_builtin; refine wpList_append_fits _ rfl (.tmp 44) (.tmp 45) 46 rfl w1.heap.size 3 i3 1 Try.underlying46 hi3 hs3 w1.heap.size ts.length p.length (kcs ts) rfl ((unhide HT).1.alloc _) ⟨wr.heap.size, 0, none⟩ 1 1 [.int .i64 2] rfl rfl (cell_one_new _ _ _) (by simp [Value.oneCell']) (by omega) ?_; intro wa oa ga; have hcd1 := far_cell hcd (by omega) ga) | (at_builtin; refine wpList_append_fits _ rfl (.tmp 47) (.tmp 53) 45 rfl w1.heap.size 21 i21 1 Try.underlying45 hi21 hs21 (w1.heap.size + 1) ts.length p.length (lcs ts) rfl (((unhide HT).lits ga).alloc _) ⟨wa.heap.size, 0, none⟩ 1 1 [.int .i32 d] rfl rfl (cell_one_new _ _ _) (by simp [Value.oneCell']) (by omega) ?_; intro wb ob gb))
      have R := TokSt.step (t := (2, d)) (unhide HB) hG oa ga ob gb
      go_roundw
      case rel => exact ⟨i + 2, ts ++ [(2, d)], by omega, by simp, by simp, by go_num, by simp; omega, by rw [List.append_assoc]; rw [← unhide HTS, unhide HTE]; rfl, R⟩
      case measure => simp [intOf]; omega
    · by_cases h37 : c = 37
      · subst h37
        have HTE : Hid (toks (p.drop i) = (0, 0) :: toks (p.drop (i + 1))) := toks_tok1 hc (.inl (by decide))
        clear hc hrpw
        go_wp2_with (first | (at_builtin; refine wpList_append_fits _ rfl (.tmp 59) (.tmp 60) 46 rfl w1.heap.size 3 i3 1 Try.underlying46 hi3 hs3 w1.heap.size ts.length p.length (kcs ts) rfl ((unhide HT).1.alloc _) ⟨wr.heap.size, 0, none⟩ 1 1 [.int .i64 0] rfl rfl (cell_one_new _ _ _) (by simp [Value.oneCell']) (by omega) ?_; intro wa oa ga) | (at_builtin; refine wpList_append_fits _ rfl (.tmp 62) (.tmp 63) 45 rfl w1.heap.size 21 i21 1 Try.underlying45 hi21 hs21 (w1.heap.size + 1) ts.length p.length (lcs ts) rfl (((unhide HT).lits ga).alloc _) ⟨wa.heap.size, 0, none⟩ 1 1 [.int .i32 0] rfl rfl (cell_one_new _ _ _) (by simp [Value.oneCell']) (by omega) ?_; intro wb ob gb))
        have R := TokSt.step (t := (0, 0)) (unhide HB) hG oa ga ob gb
        go_roundw
        case rel => exact ⟨i + 1, ts ++ [(0, 0)], by omega, by simp, by simp, by go_num, by simp; omega, by rw [List.append_assoc]; rw [← unhide HTS, unhide HTE]; rfl, R⟩
        case measure => simp [intOf]; omega
      · by_cases h95 : c = 95
        · subst h95
          have HTE : Hid (toks (p.drop i) = (1, 0) :: toks (p.drop (i + 1))) := toks_tok1 hc (.inl (by decide))
          clear hc hrpw
          go_wp2_with (first | (at_builtin; refine wpList_append_fits _ rfl (.tmp 69) (.tmp 70) 46 rfl w1.heap.size 3 i3 1 Try.underlying46 hi3 hs3 w1.heap.size ts.length p.length (kcs ts) rfl ((unhide HT).1.alloc _) ⟨wr.heap.size, 0, none⟩ 1 1 [.int .i64 1] rfl rfl (cell_one_new _ _ _) (by simp [Value.oneCell']) (by omega) ?_; intro wa oa ga) | (at_builtin; refine wpList_append_fits _ rfl (.tmp 72) (.tmp 73) 45 rfl w1.heap.size 21 i21 1 Try.underlying45 hi21 hs21 (w1.heap.size + 1) ts.length p.length (lcs ts) rfl (((unhide HT).lits ga).alloc _) ⟨wa.heap.size, 0, none⟩ 1 1 [.int .i32 0] rfl rfl (cell_one_new _ _ _) (by simp [Value.oneCell']) (by omega) ?_; intro wb ob gb))
          have R := TokSt.step (t := (1, 0)) (unhide HB) hG oa ga ob gb
          go_roundw
          case rel => exact ⟨i + 1, ts ++ [(1, 0)], by omega, by simp, by simp, by go_num, by simp; omega, by rw [List.append_assoc]; rw [← unhide HTS, unhide HTE]; rfl, R⟩
          case measure => simp [intOf]; omega
        · have HTE := hide (tok_other hc hesc h37 h95)
          have b37 : (c == 37) = false := by rw [beq_eq_false_iff_ne]; exact h37
          have b95 : (c == 95) = false := by rw [beq_eq_false_iff_ne]; exact h95
          clear hc h37 h95 hrpw
          by_cases h92 : c = 92
          · subst h92
            have hp2 : decide ((i : Int) + 1 < (p.length : Int)) = false := by simp; omega
            clear b37 b95 hesc
            go_wp2_with (first | (at_builtin; refine wpList_append_fits _ rfl (.tmp 77) (.tmp 78) 46 rfl w1.heap.size 3 i3 1 Try.underlying46 hi3 hs3 w1.heap.size ts.length p.length (kcs ts) rfl ((unhide HT).1.alloc _) ⟨wr.heap.size, 0, none⟩ 1 1 [.int .i64 2] rfl rfl (cell_one_new _ _ _) (by simp [Value.oneCell']) (by omega) ?_; intro wa oa ga) | (at_builtin; refine wpList_append_fits _ rfl (.tmp 80) (.tmp 82) 45 rfl w1.heap.size 21 i21 1 Try.underlying45 hi21 hs21 (w1.heap.size + 1) ts.length p.length (lcs ts) rfl (((unhide HT).lits ga).alloc _) ⟨wa.heap.size, 0, none⟩ 1 1 [.int .i32 92] rfl rfl (cell_one_new _ _ _) (by simp [Value.oneCell']) (by omega) ?_; intro wb ob gb))
            have R := TokSt.step (t := (2, 92)) (unhide HB) hG oa ga ob gb
            go_roundw
            case rel => exact ⟨i + 1, ts ++ [(2, 92)], by omega, by simp, by simp, by go_num, by simp; omega, by rw [List.append_assoc]; rw [← unhide HTS, unhide HTE]; rfl, R⟩
            case measure => simp [intOf]; omega
          · have b92 : (c == 92) = false := by rw [beq_eq_false_iff_ne]; exact h92
            clear h92 hesc
            go_wp2_with (first | (at_builtin; refine wpList_append_fits _ rfl (.tmp 77) (.tmp 78) 46 rfl w1.heap.size 3 i3 1 Try.underlying46 hi3 hs3 w1.heap.size ts.length p.length (kcs ts) rfl ((unhide HT).1.alloc _) ⟨wr.heap.size, 0, none⟩ 1 1 [.int .i64 2] rfl rfl (cell_one_new _ _ _) (by simp [Value.oneCell']) (by omega) ?_; intro wa oa ga) | (at_builtin; refine wpList_append_fits _ rfl (.tmp 80) (.tmp 82) 45 rfl w1.heap.size 21 i21 1 Try.underlying45 hi21 hs21 (w1.heap.size + 1) ts.length p.length (lcs ts) rfl (((unhide HT).lits ga).alloc _) ⟨wa.heap.size, 0, none⟩ 1 1 [.int .i32 c] rfl rfl (cell_one_new _ _ _) (by simp [Value.oneCell']) (by omega) ?_; intro wb ob gb))
            have R := TokSt.step (t := (2, c)) (unhide HB) hG oa ga ob gb
            go_roundw
            case rel => exact ⟨i + 1, ts ++ [(2, c)], by omega, by simp, by simp, by go_num, by simp; omega, by rw [List.append_assoc]; rw [← unhide HTS, unhide HTE]; rfl, R⟩
            case measure => simp [intOf]; omega
  · have hie : i = p.length := by omega
    have hts : ts = toks p := by
      have h := unhide HTS
      rw [hie, toks_end (Nat.le_refl _), List.append_nil] at h
      exact h
    have HTS2 := hide hts
    have hmk4 := make4 r.length (by omega)
    clear hmk3 hmk21 hts hie
    obtain ⟨H, hH⟩ : ∃ H, wr.heap.size = H := ⟨_, rfl⟩
    go_upto_region 24 with fail
    go_cut [12] (fun nv w3 => nv = .slice (some ⟨H, 0, none⟩) (r.length + 1) (r.length + 1) ∧ w3.heap.size = H + 1 ∧ Hid (w3.rowIs H 4 (r.length + 1) (fun _ => .bool false) ∧ Below H wr w3))
    case first =>
      go_wp2_with fail
      go_meet
      refine ⟨rfl, by simp [hH], ?_, ?_⟩
      · have := World.rowIs_made wr (.bool false) (r.length + 1) 4
        rw [hH] at this
        exact this
      · exact (Below.refl _ _).alloc (by omega) _
    case rest =>
    obtain ⟨rfl, hz3, HC1⟩ := hcut
    obtain ⟨w3, hw3⟩ : ∃ w3, wc = w3 := ⟨_, rfl⟩
    subst hw3
    go_upto_region 25 with fail
    go_cut [13] (fun cv w4 => cv = .slice (some ⟨H + 1, 0, none⟩) (r.length + 1) (r.length + 1) ∧ Hid (w4.heap.size = H + 2 ∧ w4.rowIs H 4 (r.length + 1) (fun _ => .bool false) ∧ w4.rowIs (H + 1) 4 (r.length + 1) (fun _ => .bool false) ∧ Below H wr w4))
    case first =>
      go_wp2_with fail
      go_meet
      refine ⟨rfl, by simp [hz3], (unhide HC1).1.alloc _, ?_, (unhide HC1).2.alloc (by omega) _⟩
      have := World.rowIs_made wc (.bool false) (r.length + 1) 4
      rw [hz3] at this
      exact this
    case rest =>
    obtain ⟨rfl, HC2⟩ := hcut
    have e1 := (unhide HC2).2.1.cell (i := r.length) (by omega)
    have e2 := (unhide HC2).2.1.frozen r.length
    have HZ : Hid (wr.heap.size = H) := hH
    clear hmk4 hH hz3 HC1
    go_wp2_with fail
    obtain ⟨wt, rfl⟩ : ∃ wt, wt = wr := ⟨_, rfl⟩
    go_loopw [12, 13, 14, 15, 16] (fun nv cv tv _ _ wx => ∃ (k N1 C1 : Nat) (g : Nat → Bool), k ≤ ts.length ∧ tv = .int .i64 ((k : Int) - 1) ∧ nv = .slice (some ⟨N1, 0, none⟩) (r.length + 1) (r.length + 1) ∧ cv = .slice (some ⟨C1, 0, none⟩) (r.length + 1) (r.length + 1) ∧
        N1 ≠ C1 ∧ H ≤ N1 ∧ H ≤ C1 ∧ Hid (Tab wt wx H N1 C1 r.length (fun j => mt (ts.drop k) (r.drop j)) g)) (fun _ _ tv _ _ _ => (intOf tv + 1).toNat)
    case atStart =>
      refine ⟨ts.length, H, H + 1, fun _ => false, Nat.le_refl _, rfl, rfl, rfl, by omega, Nat.le_refl _, by omega, row_first rfl (unhide HC2).2.1, (unhide HC2).2.2.1.setOther (by simp) _, (unhide HC2).2.2.2.setCell (Nat.le_refl _) _⟩
    case round =>
    obtain ⟨k, N1, C1, g, hk, rfl, rfl, rfl, hne, hN1, hC1, HTAB⟩ := hrel
    have hwlt : w.heap.size + 1 < w1.heap.size := by have := unhide HSZ; omega
    have hGH : w1.heap.size + 1 < H := by
      obtain ⟨_, hb⟩ := (unhide HT).2.lt (w1.heap.size + 1) rfl
      rw [unhide HZ] at hb
      exact hb
    by_cases hk0 : k = 0
    · subst hk0
      have hc0 := (unhide HTAB).1.cell (i := 0) (by omega)
      go_wp2
      go_ret
      refine ⟨ret_eq ?_, ?_⟩
      · simp [unhide HTS2]
      · exact (unhide HBW).trans (((unhide HB).mono (by omega)).trans ((unhide HTAB).2.2.mono (by omega)))
    · obtain ⟨q, rfl⟩ : ∃ q, k = q + 1 := ⟨k - 1, by omega⟩
      rw [show ((q + 1 : Nat) : Int) - 1 = (q : Int) by omega]
      obtain ⟨t, ht⟩ : ∃ t, ts[q]? = some t := ⟨ts[q]'(by omega), List.getElem?_eq_getElem (by omega)⟩
      have hkc : wr.cell? ⟨w1.heap.size, q, none⟩ = some (.int .i64 t.1) := by
        have h1 := (unhide HT).1.cellAt q (by omega)
        rw [kcs, List.getElem?_map, ht] at h1
        exact ((unhide HTAB).2.2.cell (p := ⟨w1.heap.size, q, none⟩) (by show w1.heap.size < H; omega)).trans h1
      have hlc : wr.cell? ⟨w1.heap.size + 1, q, none⟩ = some (.int .i32 t.2) := by
        have h1 := (unhide HT).2.cellAt q (by omega)
        rw [lcs, List.getElem?_map, ht] at h1
        exact ((unhide HTAB).2.2.cell (p := ⟨w1.heap.size + 1, q, none⟩) (by show w1.heap.size + 1 < H; omega)).trans h1
      have HTD := hide ht
      have hq1 : (q : Int) < (ts.length : Int) := by omega
      obtain ⟨t1, t2⟩ := t
      simp only at hkc hlc
      clear ht
      by_cases h0 : t1 = 0
      · subst h0
        have hcn : wr.cell? ⟨N1, r.length, none⟩ = some (.bool (mt (ts.drop (q + 1)) (r.drop r.length))) := (unhide HTAB).1.cell (i := r.length) (by omega)
        have hdn : wr.cell? ⟨C1, r.length, none⟩ = some (.bool (g r.length)) := (unhide HTAB).2.1.cell (i := r.length) (by omega)
        have hfn := (unhide HTAB).2.1.frozen r.length
        obtain ⟨bn, hbn⟩ : ∃ bn, mt (ts.drop (q + 1)) (r.drop r.length) = bn := ⟨_, rfl⟩
        rw [hbn] at hcn
        have HBN := hide hbn
        clear hbn
        go_wp2_with fail
        go_loopw [15] (fun jv wy => ∃ (z : Nat) (g2 : Nat → Bool), z ≤ r.length ∧ jv = .int .i64 ((z : Int) - 1) ∧ Hid (Tab wt wy H N1 C1 r.length (fun j => mt (ts.drop (q + 1)) (r.drop j)) g2 ∧ ∀ j, z ≤ j → j ≤ r.length → g2 j = star (mt (ts.drop (q + 1))) (r.drop j)))
          (fun jv _ => (intOf jv + 1).toNat)
        case atStart =>
          refine ⟨r.length, _, Nat.le_refl _, rfl, (unhide HTAB).set hne hC1 r.length bn, fun j h1 h2 => ?_⟩
          have : j = r.length := by omega
          subst this
          rw [if_pos rfl, star_last _ _ _ (Nat.le_refl _), unhide HBN]
        case round =>
        obtain ⟨z, g2, hz, rfl, HT2⟩ := hrel
        by_cases hz0 : z = 0
        · subst hz0
          go_wp2_with fail
          go_roundw
          case rel => exact ⟨q, C1, N1, _, by omega, by go_num, rfl, rfl, hne.symm, hC1, hN1, (unhide HT2).1.2.1.congr (fun j hj => by rw [(unhide HT2).2 j (by omega) (by omega), mt_drop_star (unhide HTD) rfl]), (unhide HT2).1.1, (unhide HT2).1.2.2⟩
          case measure => simp [intOf] <;> omega
        · obtain ⟨y, rfl⟩ : ∃ y, z = y + 1 := ⟨z - 1, by omega⟩
          rw [show ((y + 1 : Nat) : Int) - 1 = (y : Int) by omega]
          have hcy : wr.cell? ⟨N1, y, none⟩ = some (.bool (mt (ts.drop (q + 1)) (r.drop y))) := (unhide HT2).1.1.cell (i := y) (by omega)
          have hdy : wr.cell? ⟨C1, y, none⟩ = some (.bool (g2 y)) := (unhide HT2).1.2.1.cell (i := y) (by omega)
          have hdy1 : wr.cell? ⟨C1, y + 1, none⟩ = some (.bool (g2 (y + 1))) := (unhide HT2).1.2.1.cell (i := y + 1) (by omega)
          have hfy := (unhide HT2).1.2.1.frozen y
          have HST := hide (star_at (mt (ts.drop (q + 1))) r y (by omega))
          rw [(unhide HT2).2 (y + 1) (Nat.le_refl _) (by omega)] at hdy1
          obtain ⟨b1, hb1⟩ : ∃ b1, mt (ts.drop (q + 1)) (r.drop y) = b1 := ⟨_, rfl⟩
          obtain ⟨b2, hb2⟩ : ∃ b2, star (mt (ts.drop (q + 1))) (r.drop (y + 1)) = b2 := ⟨_, rfl⟩
          rw [hb1] at hcy
          rw [hb2] at hdy1
          have HV : Hid (star (mt (ts.drop (q + 1))) (r.drop y) = (b1 || b2)) := by rw [unhide HST, hb1, hb2]; rfl
          clear hb1 hb2 HST
          have fin : ∀ b, b = (b1 || b2) → Hid (Tab wt (wr.setCell ⟨C1, y, none⟩ (.bool b)) H N1 C1 r.length (fun j => mt (ts.drop (q + 1)) (r.drop j)) (fun j => if j = y then b else g2 j) ∧ ∀ j, y ≤ j → j ≤ r.length → (if j = y then b else g2 j) = star (mt (ts.drop (q + 1))) (r.drop j)) := by
            intro b hb
            refine ⟨(unhide HT2).1.set hne hC1 y b, fun j h1 h2 => ?_⟩
            by_cases hj : j = y
            · subst hj
              rw [if_pos rfl, unhide HV, hb]
            · rw [if_neg hj]
              exact (unhide HT2).2 j (by omega) h2
          have FIN := hide fin
          clear fin
          cases b1
          · go_wp2_with fail
            go_roundw
            case rel => exact ⟨y, _, by omega, by go_num, unhide FIN b2 rfl⟩
            case measure => simp [intOf] <;> omega
          · go_wp2_with fail
            go_roundw
            case rel => exact ⟨y, _, by omega, by go_num, unhide FIN true rfl⟩
            case measure => simp [intOf] <;> omega
      · have b0 : (t1 == 0) = false := by rw [beq_eq_false_iff_ne]; exact h0
        have hdn : wr.cell? ⟨C1, r.length, none⟩ = some (.bool (g r.length)) := (unhide HTAB).2.1.cell (i := r.length) (by omega)
        have hfn := (unhide HTAB).2.1.frozen r.length
        have H0 := hide h0
        clear h0
        go_wp2_with fail
        go_loopw [16] (fun jv wy => ∃ (z : Nat) (g2 : Nat → Bool), z ≤ r.length ∧ jv = .int .i64 z ∧ Hid (Tab wt wy H N1 C1 r.length (fun j => mt (ts.drop (q + 1)) (r.drop j)) g2 ∧ (∀ j, j < z → g2 j = one (t1, t2) (mt (ts.drop (q + 1))) (r.drop j)) ∧ g2 r.length = false))
          (fun jv _ => r.length - (intOf jv).toNat)
        case atStart =>
          exact ⟨0, _, Nat.zero_le _, rfl, (unhide HTAB).set hne hC1 r.length false, (fun j hj => by omega), if_pos rfl⟩
        case round =>
        obtain ⟨z, g2, hz, rfl, HT2⟩ := hrel
        by_cases hzr : z < r.length
        · obtain ⟨x, hx⟩ : ∃ x, r[z]? = some x := ⟨_, List.getElem?_eq_getElem hzr⟩
          have hxc : wr.cell? ⟨w.heap.size + 1, z, none⟩ = some (.int .i32 x) := by
            have h1 := (unhide HRR).2 z x hx
            have h2 := ((unhide HB).cell (p := ⟨w.heap.size + 1, z, none⟩) hwlt).trans h1
            exact ((unhide HT2).1.2.2.cell (p := ⟨w.heap.size + 1, z, none⟩) (by show w.heap.size + 1 < H; omega)).trans h2
          have hkc2 : wr.cell? ⟨w1.heap.size, q, none⟩ = some (.int .i64 t1) := by
            have h1 := (unhide HT).1.cellAt q (by omega)
            rw [kcs, List.getElem?_map, unhide HTD] at h1
            exact ((unhide HT2).1.2.2.cell (p := ⟨w1.heap.size, q, none⟩) (by show w1.heap.size < H; omega)).trans h1
          have hlc2 : wr.cell? ⟨w1.heap.size + 1, q, none⟩ = some (.int .i32 t2) := by
            have h1 := (unhide HT).2.cellAt q (by omega)
            rw [lcs, List.getElem?_map, unhide HTD] at h1
            exact ((unhide HT2).1.2.2.cell (p := ⟨w1.heap.size + 1, q, none⟩) (by show w1.heap.size + 1 < H; omega)).trans h1
          have hcy : wr.cell? ⟨N1, z + 1, none⟩ = some (.bool (mt (ts.drop (q + 1)) (r.drop (z + 1)))) := (unhide HT2).1.1.cell (i := z + 1) (by omega)
          have hdy : wr.cell? ⟨C1, z, none⟩ = some (.bool (g2 z)) := (unhide HT2).1.2.1.cell (i := z) (by omega)
          have hfy := (unhide HT2).1.2.1.frozen z
          obtain ⟨b1, hb1⟩ : ∃ b1, mt (ts.drop (q + 1)) (r.drop (z + 1)) = b1 := ⟨_, rfl⟩
          rw [hb1] at hcy
          have HV : Hid (one (t1, t2) (mt (ts.drop (q + 1))) (r.drop z) = (b1 && (t1 == 1 || x == t2))) := by rw [one_at _ _ _ _ _ hx, hb1]; rfl
          have fin : ∀ b, b = (b1 && (t1 == 1 || x == t2)) → Hid (Tab wt (wr.setCell ⟨C1, z, none⟩ (.bool b)).drew H N1 C1 r.length (fun j => mt (ts.drop (q + 1)) (r.drop j)) (fun j => if j = z then b else g2 j) ∧ (∀ j, j < z + 1 → (if j = z then b else g2 j) = one (t1, t2) (mt (ts.drop (q + 1))) (r.drop j)) ∧ (if r.length = z then b else g2 r.length) = false) := by
            intro b hb
            refine ⟨((unhide HT2).1.set hne hC1 z b).drew, fun j hj => ?_, ?_⟩
            · by_cases hjz : j = z
              · subst hjz
                rw [if_pos rfl, unhide HV, hb]
              · rw [if_neg hjz]
                exact (unhide HT2).2.1 j (by omega)
            · rw [if_neg (by omega)]
              exact (unhide HT2).2.2
          have FIN := hide fin
          have hz0 : (0 : Int) ≤ (z : Int) := by omega
          have hz1 : (z : Int) < (r.length : Int) := by omega
          have hq0 : (0 : Int) ≤ (q : Int) := by omega
          clear fin hx hb1 HV
          cases b1
          · skip
            go_wp2_with fail
            go_region
            all_goals go_wp2_with fail
            all_goals
              go_roundw
              case rel => exact ⟨z + 1, _, by omega, by go_num, unhide FIN false rfl⟩
              case measure => simp [intOf] <;> omega
          · by_cases h1 : t1 = 1
            · have b1t : (t1 == 1) = true := by rw [beq_iff_eq]; exact h1
              clear h1
              go_wp2_with fail
              go_region
              all_goals go_wp2_with fail
              all_goals
                go_roundw
                case rel => exact ⟨z + 1, _, by omega, by go_num, unhide FIN true (by rw [b1t]; rfl)⟩
                case measure => simp [intOf] <;> omega
            · have b1t : (t1 == 1) = false := by rw [beq_eq_false_iff_ne]; exact h1
              clear h1
              go_wp2_with fail
              go_region
              all_goals go_wp2_with fail
              all_goals
                go_roundw
                case rel => exact ⟨z + 1, _, by omega, by go_num, unhide FIN (x == t2) (by rw [b1t]; rfl)⟩
                case measure => simp [intOf] <;> omega
        · go_wp2_with fail
          go_roundw
          case rel =>
            refine ⟨q, C1, N1, _, by omega, by go_num, rfl, rfl, hne.symm, hC1, hN1, (unhide HT2).1.2.1.congr (fun j hj => ?_), (unhide HT2).1.1, (unhide HT2).1.2.2⟩
            rw [mt_drop_one (unhide HTD) (unhide H0)]
            by_cases hjz : j < z
            · rw [(unhide HT2).2.1 j hjz]
            · have : j = r.length := by omega
              subst this
              exact congrArg Value.bool ((unhide HT2).2.2.trans (one_last _ _ _ _ (Nat.le_refl _)).symm)
          case measure => simp [intOf] <;> omega


end Go.Proofs.Qxb6603229a
