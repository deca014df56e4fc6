/- What the four laws over stores share: byte slices read and owned, slices of them, and small laws on worlds. -/
import Derived.Test.Qxb6603163aRows
import Derived.WalkKit
import Derived.ProofKit
import Derived.WalkLawsBesides
import Derived.WalkSpells
import Derived.Laws.CopyOwn
import Derived.Deep.AppendLies
import Derived.Deep.OwnRows
namespace Go.Proofs.Qxb6603163a
open Go.ChangeShapes Go.WideShapes Go.ChangeAt Go.RowKit

theorem hide {p : Prop} (h : p) : Hid p := h
theorem unhide {p : Prop} (h : Hid p) : p := h

theorem Try.info5 : (Try.prog.info? 5).map (fun i => (i.zero, i.size, i.bytes)) = some (some (.int .u8 0), 1, 1) := by kernel_rfl
theorem Try.info27 : (Try.prog.info? 27).map (fun i => (i.zero, i.size, i.bytes)) = some (some (.slice none 0 0), 1, 24) := by kernel_rfl
theorem Try.size5 : (Try.prog.info? 5).map (·.size) = some 1 := by kernel_rfl
theorem Try.size27 : (Try.prog.info? 27).map (·.size) = some 1 := by kernel_rfl

/-- The bytes as cells. -/
def bcs (xs : List Int) : List Value := xs.map (Value.int .u8)
theorem bcs_length (xs : List Int) : (bcs xs).length = xs.length := by simp [bcs]
theorem bcs_get (xs : List Int) (j : Nat) : (bcs xs)[j]? = xs[j]?.map (Value.int .u8) := by simp [bcs]
theorem bcs_one (xs : List Int) : ∀ u ∈ bcs xs, u.oneCell' = true := ints_oneCell .u8 xs
theorem bcs_append (xs ys : List Int) : bcs (xs ++ ys) = bcs xs ++ bcs ys := by simp [bcs]

def Bytes (xs : List Int) : Prop := ∀ z ∈ xs, 0 ≤ z ∧ z ≤ 255

/-- A slice of bytes as it is read in w: its bytes xs. -/
def Rd (w : World) (v : Value) (xs : List Int) : Prop :=
  Bytes xs ∧ ∃ (a : Option Addr) (c : Nat), v = .slice a xs.length c ∧ xs.length ≤ c ∧ (a = none → c = 0) ∧
    ∀ ad, a = some ad → ∀ j u, (bcs xs)[j]? = some u → w.cell? (ad.add j) = some u

/-- A slice of bytes that lies whole in a row of its own, at a block from base on. -/
def Own (w : World) (base : Nat) (v : Value) (xs : List Int) : Prop :=
  Bytes xs ∧ w.ownsRow base 5 1 v xs.length (bcs xs)

theorem add_lit (b o j : Nat) : (⟨b, o, none⟩ : Addr).add j = ⟨b, o + j, none⟩ := by unfold Addr.add; split <;> simp_all

theorem Own.rd {w : World} {base : Nat} {v : Value} {xs : List Int} (h : Own w base v xs) : Rd w v xs := by
  refine ⟨h.1, ?_⟩
  have h2 := h.2
  rcases h2.2 with ⟨rfl, hn⟩ | ⟨g, cap, cur, rfl, hb, hg, hnc, hcm, hcs, htake⟩
  · exact ⟨none, 0, by rw [hn], by omega, fun _ => rfl, fun ad h => by cases h⟩
  · refine ⟨_, cap, rfl, hnc, (fun hh => by cases hh), fun ad had j u hu => ?_⟩
    cases had
    exact h2.cells (g := g) rfl j u hu

theorem ownsRow_of_block {w w' : World} {base : Nat} {e : TypeId} {size : Nat} {v : Value} {n : Nat} {xs : List Value} (h : w.ownsRow base e size v n xs)
    (hb : ∀ k, v.ownBlock = some k → w'.heap[k]? = w.heap[k]?) : w'.ownsRow base e size v n xs := by
  refine ⟨h.1, ?_⟩
  rcases h.2 with hn | ⟨g, cap, cur, rfl, hbb, hgg, rest⟩
  · exact .inl hn
  · exact .inr ⟨g, cap, cur, rfl, hbb, by rw [hb g rfl]; exact hgg, rest⟩

theorem Own.keep {w w' : World} {base : Nat} {v : Value} {xs : List Int} (h : Own w base v xs) (hb : ∀ k, v.ownBlock = some k → w'.heap[k]? = w.heap[k]?) : Own w' base v xs :=
  ⟨h.1, ownsRow_of_block h.2 hb⟩

theorem Own.base_le {w : World} {base base' : Nat} {v : Value} {xs : List Int} (h : Own w base v xs) (hb : base' ≤ base) : Own w base' v xs := by
  refine ⟨h.1, h.2.1, ?_⟩
  rcases h.2.2 with hn | ⟨g, cap, cur, rfl, hbb, rest⟩
  · exact .inl hn
  · exact .inr ⟨g, cap, cur, rfl, by omega, rest⟩

theorem Rd.keep {w w' : World} {v : Value} {xs : List Int} (h : Rd w v xs) (hb : ∀ k, k < w.heap.size → w'.heap[k]? = w.heap[k]?) : Rd w' v xs := by
  obtain ⟨h0, a, c, rfl, h1, h2, h3⟩ := h
  refine ⟨h0, a, c, rfl, h1, h2, fun ad had j u hu => ?_⟩
  have := h3 ad had j u hu
  rw [← this]
  refine World.cell?_of_block (hb _ ?_)
  exact World.block_lt_of_cell? w _ this

theorem Rd.below {w w' : World} {v : Value} {xs : List Int} (h : Rd w v xs) (hb : Below w.heap.size w w') : Rd w' v xs := h.keep hb.block

theorem Rd.nil (w : World) : Rd w (.slice none 0 0) [] := ⟨(fun _ h => by cases h), none, 0, rfl, Nat.le_refl _, fun _ => rfl, fun _ h => by cases h⟩
theorem Own.nil (w : World) (base : Nat) : Own w base (.slice none 0 0) [] := ⟨(fun _ h => by cases h), World.ownsRow_nil w base 5 1⟩

/-- A whole row of its own, by its block. -/
theorem Own.mk {w : World} {base g cap : Nat} {xs : List Int} {cur : List Value} (hx : Bytes xs) (hg : w.heap[g]? = some (.cells cur.toArray 5 (0, 0))) (hb : base ≤ g)
    (hc : cur.length = cap) (hm : cap ≤ maxLen) (hl : xs.length ≤ cap) (ht : cur.take xs.length = bcs xs) : Own w base (.slice (some ⟨g, 0, none⟩) xs.length cap) xs :=
  ⟨hx, by rw [bcs_length]; omega, .inr ⟨g, cap, cur.toArray, rfl, hb, hg, hl, hm, by simpa using hc, by simpa using ht⟩⟩

set_option maxHeartbeats 400000 in
theorem cloneBytes_any (v : Value) (xs : List Int) (w : World) (h : Rd w v xs) (hsz : xs.length ≤ 1048576) :
    Calls Try.prog 10 #[v] w fun e w' => ∃ ao cap, e = .returned (.slice ao xs.length cap) ∧ Own w' w.heap.size (.slice ao xs.length cap) xs ∧ Below w.heap.size w w' := by
  obtain ⟨h0, a, c, rfl, h1, h2, h3⟩ := h
  have heq := fun (w : World) (a : Option Addr) (n c : Nat) => Lib.run_eql_slice_nil (P := Try.prog) w 27 5 a n c 0 0 Try.underlying27
  have hmk := run_make_row' (P := Try.prog) 27 5 (.int .u8 0) 1 Try.underlying27 Try.info5 rfl .i64 .i64 xs.length (by omega) (by omega)
  cases a with
  | none =>
    have hc := h2 rfl
    have hx : xs = [] := List.eq_nil_of_length_eq_zero (by omega)
    subst hx
    subst hc
    clear h3 h2 h1 hmk
    go_enter Try.func10, Try.ntmps10
    go_wp2
    go_ret
    exact ⟨_, _, rfl, Own.nil _ _, Below.refl _ _⟩
  | some ad =>
    have h4 := h3 ad rfl
    have hcp : ∀ ty, (Builtin.copy_ #[27, 27] ty #[.slice (some ⟨w.heap.size, 0, none⟩) xs.length xs.length, .slice (some ad) xs.length c]).run Try.prog (w.alloc (.cells (madeCells #[.int .u8 0] xs.length) 5)) =
        .ok (goInt xs.length) ((w.alloc (.cells (madeCells #[.int .u8 0] xs.length) 5)).setRow w.heap.size (bcs xs).toArray) := by
      intro ty
      have := run_copy_row (P := Try.prog) (w.alloc (.cells (madeCells #[.int .u8 0] xs.length) 5)) 27 27 ty 5 w.heap.size 0 xs.length xs.length ad xs.length c _ 5 (bcs xs) Try.underlying27 Try.size5 (heap_alloc_new w _)
        (by rw [bcs_length]; exact (Nat.min_self _).symm) (fun j u hu => by
          rw [World.cell?_alloc_old]
          · exact h4 j u hu
          · have := World.block_lt_of_cell? w _ (h4 j u hu)
            omega) (by rw [bcs_length]; simp [size_madeCells]) (bcs_one xs)
      rw [this, bcs_length]
      simp [size_madeCells, List.drop_eq_nil_of_le]
    clear h3 h4
    go_enter Try.func10, Try.ntmps10
    go_wp2
    go_ret
    refine ⟨_, _, rfl, Own.mk h0 (setRow_heap _ _ _ _ 5 (0, 0) (heap_alloc_new w _)) (Nat.le_refl _) (bcs_length xs) (by unfold maxLen; omega) (Nat.le_refl _) ?_,
      below_setRow ((Below.refl _ _).alloc (Nat.le_refl _) _) (Nat.le_refl _) _⟩
    rw [← bcs_length xs, List.take_length]

/-- No two of these slices lie in one row. -/
def Apart (hs : List Value) : Prop := ∀ (i j : Nat) (h h' : Value), i < j → hs[i]? = some h → hs[j]? = some h' → ∀ k, h.ownBlock = some k → h'.ownBlock ≠ some k

/-- A slice of slices of bytes, all of it in rows of its own from base on. -/
def Store (w : World) (base : Nat) (v : Value) (ds : List (List Int)) : Prop :=
  ∃ hs : List Value, hs.length = ds.length ∧ w.ownsRow base 27 1 v hs.length hs ∧ (∀ (j : Nat) (h : Value) (d : List Int), hs[j]? = some h → ds[j]? = some d → Own w base h d) ∧ Apart hs

/-- A slice of slices of bytes as it is read in w. -/
def Mt (w : World) (v : Value) (ds : List (List Int)) : Prop :=
  ∃ (hs : List Value) (a : Option Addr) (c : Nat), hs.length = ds.length ∧ v = .slice a ds.length c ∧ ds.length ≤ c ∧ (a = none → c = 0) ∧
    (∀ ad, a = some ad → ∀ (j : Nat) (u : Value), hs[j]? = some u → w.cell? (ad.add j) = some u) ∧ ∀ (j : Nat) (h : Value) (d : List Int), hs[j]? = some h → ds[j]? = some d → Rd w h d

theorem Mt.keep {w w' : World} {v : Value} {ds : List (List Int)} (h : Mt w v ds) (hb : ∀ k, k < w.heap.size → w'.heap[k]? = w.heap[k]?) : Mt w' v ds := by
  obtain ⟨hs, a, c, e1, e2, e3, e4, e5, e6⟩ := h
  refine ⟨hs, a, c, e1, e2, e3, e4, fun ad had j u hu => ?_, fun j h d hh hd => (e6 j h d hh hd).keep hb⟩
  have := e5 ad had j u hu
  rw [← this]
  exact World.cell?_of_block (hb _ (World.block_lt_of_cell? w _ this))

theorem Mt.below {w w' : World} {v : Value} {ds : List (List Int)} (h : Mt w v ds) (hb : Below w.heap.size w w') : Mt w' v ds := h.keep hb.block

theorem Store.mt {w : World} {base : Nat} {v : Value} {ds : List (List Int)} (h : Store w base v ds) : Mt w v ds := by
  obtain ⟨hs, e1, e2, e3, _⟩ := h
  rcases e2.2 with ⟨rfl, hn⟩ | ⟨g, cap, cur, rfl, hb, hg, hnc, hcm, hcs, htake⟩
  · exact ⟨hs, none, 0, e1, by rw [← e1, hn], by omega, fun _ => rfl, (fun _ hh => by cases hh), fun j h d hh hd => (e3 j h d hh hd).rd⟩
  · refine ⟨hs, _, cap, e1, by rw [← e1], by omega, (fun hh => by cases hh), fun ad had j u hu => ?_, fun j h d hh hd => (e3 j h d hh hd).rd⟩
    cases had
    exact e2.cells (g := g) rfl j u hu

/-- One row of a slice of slices, for the walk: where its header lies and what it holds. -/
theorem Mt.row {w : World} {a : Option Addr} {n c : Nat} {ds : List (List Int)} (h : Mt w (.slice a n c) ds) (k : Nat) (hk : k < ds.length) :
    ∃ b off ao l cp, a = some ⟨b, off, none⟩ ∧ w.cell? ⟨b, off + k, none⟩ = some (.slice ao l cp) ∧ l = (ds[k]).length ∧ Rd w (.slice ao l cp) ds[k] ∧ b < w.heap.size := by
  obtain ⟨hs, a', c', e1, e2, e3, e4, e5, e6⟩ := h
  cases e2
  cases a with
  | none => have := e4 rfl; omega
  | some ad =>
    obtain ⟨b, off, spot⟩ := ad
    have hk' : k < hs.length := by omega
    have hc := e5 _ rfl k hs[k] (List.getElem?_eq_getElem hk')
    have hr := e6 k hs[k] ds[k] (List.getElem?_eq_getElem hk') (List.getElem?_eq_getElem hk)
    have hs0 : spot = none := by
      have h0 := e5 _ rfl 0 (hs[0]'(by omega)) (List.getElem?_eq_getElem (by omega))
      simpa [Addr.add] using World.cell?_spot h0
    subst hs0
    rw [add_lit] at hc
    obtain ⟨ao, cp, hv, _⟩ := hr.2
    rw [hv] at hc hr
    exact ⟨b, off, ao, _, cp, rfl, hc, rfl, hr, World.block_lt_of_cell? w _ hc⟩

theorem clone_step {G k n : Nat} {w wr w1 : World} {hs : List Value} {ds : List (List Int)} {v : Value} {d : List Int} (hn : n = ds.length) (hk : k < n) (hl : hs.length = k)
    (hd : ds[k]? = some d)
    (hg : wr.heap[G]? = some (.cells (hs ++ List.replicate (n - k) (Value.slice none 0 0)).toArray 27 (0, 0)))
    (ho : ∀ (j : Nat) (h : Value) (d : List Int), hs[j]? = some h → ds[j]? = some d → Own wr (G + 1) h d) (ha : Apart hs) (hb : Below G w wr)
    (hv : Own w1 wr.heap.size v d) (hb1 : Below wr.heap.size wr w1) (hGw : G + 1 ≤ wr.heap.size) :
    (w1.setCell ⟨G, k, none⟩ v).heap[G]? = some (.cells ((hs ++ [v]) ++ List.replicate (n - (k + 1)) (Value.slice none 0 0)).toArray 27 (0, 0)) ∧
    (∀ (j : Nat) (h : Value) (d : List Int), (hs ++ [v])[j]? = some h → ds[j]? = some d → Own (w1.setCell ⟨G, k, none⟩ v) (G + 1) h d) ∧ Apart (hs ++ [v]) ∧ Below G w (w1.setCell ⟨G, k, none⟩ v) ∧
    G + 1 ≤ (w1.setCell ⟨G, k, none⟩ v).heap.size := by
  have hlt : ∀ (j : Nat) (h : Value), hs[j]? = some h → ∀ b, h.ownBlock = some b → G + 1 ≤ b ∧ b < wr.heap.size := by
    intro j h hh b hbk
    have hj := (List.getElem?_eq_some_iff.1 hh).1
    exact (ho j h ds[j] hh (List.getElem?_eq_getElem (by omega))).2.lt b hbk
  have hvl := hv.2.lt
  refine ⟨?_, ?_, ?_, ?_, ?_⟩
  · have hg1 : w1.heap[G]? = _ := (hb1.block G (by omega)).trans hg
    rw [heap_setCell_same w1 G k _ 27 v hg1]
    congr 2
    apply Array.ext'
    rw [Array.toList_setIfInBounds]
    have e : n - k = (n - (k + 1)) + 1 := by omega
    rw [e, List.replicate_succ]
    simp [hl]
  · intro j h d' hh hd'
    by_cases hj : j < hs.length
    · rw [List.getElem?_append_left hj] at hh
      refine (ho j h d' hh hd').keep fun b hbk => ?_
      have := hlt j h hh b hbk
      rw [heap_setCell_other _ _ _ _ (by simp; omega)]
      exact hb1.block b this.2
    · have hj2 : j = hs.length := by
        have := (List.getElem?_eq_some_iff.1 hh).1
        simp at this
        omega
      subst hj2
      simp at hh
      subst hh
      rw [hl, hd] at hd'
      cases hd'
      refine (hv.base_le (by omega)).keep fun b hbk => ?_
      have := hvl b hbk
      rw [heap_setCell_other _ _ _ _ (by simp; omega)]
  · intro i j h h' hij hi hj b hbk
    have hjl := (List.getElem?_eq_some_iff.1 hj).1
    simp at hjl
    rw [List.getElem?_append_left (by omega)] at hi
    by_cases hj2 : j < hs.length
    · rw [List.getElem?_append_left hj2] at hj
      exact ha i j h h' hij hi hj b hbk
    · have : j = hs.length := by omega
      subst this
      simp at hj
      subst hj
      intro hh
      have h1 := hlt i h hi b hbk
      have h2 := hvl b hh
      omega
  · exact (hb.trans (hb1.mono (by omega))).setCell (Nat.le_refl _) _
  · have := hb1.size
    simp [World.setCell]
    omega

theorem clone_cell {G k n : Nat} {wr w1 : World} {hs : List Value} (hk : k < n) (hl : hs.length = k)
    (hg : wr.heap[G]? = some (.cells (hs ++ List.replicate (n - k) (Value.slice none 0 0)).toArray 27 (0, 0))) (hb1 : Below wr.heap.size wr w1) (hGw : G + 1 ≤ wr.heap.size) :
    w1.cell? ⟨G, k, none⟩ = some (.slice none 0 0) ∧ w1.frozen? ⟨G, k, none⟩ = false := by
  have hg1 : w1.heap[G]? = _ := (hb1.block G (by omega)).trans hg
  rw [cell_of_row w1 G k _ 27 (0, 0) hg1, frozen_of_row w1 G k _ 27 hg1]
  simp [List.getElem?_append_right, hl, List.getElem?_replicate]
  omega

theorem clone_done {G : Nat} {w : World} {hs : List Value} {ds : List (List Int)} (hl : hs.length = ds.length)
    (hg : w.heap[G]? = some (.cells (hs ++ List.replicate (ds.length - ds.length) (Value.slice none 0 0)).toArray 27 (0, 0)))
    (ho : ∀ (j : Nat) (h : Value) (d : List Int), hs[j]? = some h → ds[j]? = some d → Own w (G + 1) h d) (ha : Apart hs) (hm : ds.length ≤ maxLen) :
    Store w G (.slice (some ⟨G, 0, none⟩) ds.length ds.length) ds := by
  refine ⟨hs, hl, ⟨by omega, .inr ⟨G, ds.length, hs.toArray, by rw [hl], Nat.le_refl _, by simpa using hg, by omega, hm, by simp [hl], by simp⟩⟩, fun j h d h1 h2 => (ho j h d h1 h2).base_le (by omega), ha⟩

set_option maxHeartbeats 400000 in
theorem cloneChunks_any (v : Value) (ds : List (List Int)) (w : World) (h : Mt w v ds) (hsz : ds.length ≤ 1048576) (hrow : ∀ d ∈ ds, d.length ≤ 1048576) :
    Calls Try.prog 11 #[v] w fun e w' => ∃ ao cap, e = .returned (.slice ao ds.length cap) ∧ Store w' w.heap.size (.slice ao ds.length cap) ds ∧ Below w.heap.size w w' := by
  have hh := h
  obtain ⟨hs, a, c, e1, rfl, e3, e4, e5, e6⟩ := hh
  clear e5 e6 e1 hs
  have heq := fun (w : World) (a : Option Addr) (n c : Nat) => Lib.run_eql_slice_nil (P := Try.prog) w 26 27 a n c 0 0 Try.underlying26
  have hmk := run_make_row' (P := Try.prog) 26 27 (.slice none 0 0) 24 Try.underlying26 Try.info27 rfl .i64 .i64 ds.length (by omega) (by omega)
  cases a with
  | none =>
    have hc := e4 rfl
    have hx : ds = [] := List.eq_nil_of_length_eq_zero (by omega)
    subst hx
    subst hc
    clear hmk h e3 e4
    go_enter Try.func11, Try.ntmps11
    go_wp2
    go_ret
    exact ⟨_, _, rfl, ⟨[], rfl, World.ownsRow_nil _ _ _ _, (fun j h d hh => by simp at hh), fun i j h h' _ hh => by simp at hh⟩, Below.refl _ _⟩
  | some ad =>
    have H := hide h
    have HROW := hide hrow
    clear h e4 hrow
    go_enter Try.func11, Try.ntmps11
    go_wp2
    go_loopw [4] (fun i wr => ∃ (k : Nat) (hs : List Value), k ≤ ds.length ∧ i = .int .i64 k ∧ Hid (hs.length = k ∧ wr.heap[w.heap.size]? = some (.cells (hs ++ List.replicate (ds.length - k) (Value.slice none 0 0)).toArray 27 (0, 0)) ∧
        (∀ (j : Nat) (h : Value) (d : List Int), hs[j]? = some h → ds[j]? = some d → Own wr (w.heap.size + 1) h d) ∧ Apart hs ∧ Below w.heap.size w wr ∧ w.heap.size + 1 ≤ wr.heap.size))
      (fun i _ => ds.length - (intOf i).toNat)
    case atStart =>
      refine ⟨0, [], Nat.zero_le _, rfl, rfl, ?_, (fun j h d hh => by simp at hh), (fun i j h h' _ hh => by simp at hh), (Below.refl _ _).alloc (Nat.le_refl _) _, by simp⟩
      rw [heap_alloc_new]
      congr 2
      apply Array.ext'
      rw [toList_madeCells_one]
      simp
    case round =>
      obtain ⟨k, hs, hk, rfl, HR⟩ := hrel
      by_cases hlt : k < ds.length
      · obtain ⟨r1, r2, r3, r4, r5, r6⟩ := unhide HR
        have hm := (unhide H).below r5
        obtain ⟨b, off, ao, l, cp, hsome, hcell, hl, hrd, hb⟩ := hm.row k hlt
        cases hsome
        subst hl
        have hsz1 := unhide HROW ds[k] (List.getElem_mem hlt)
        have HM := hide hm
        have hb2 : b < w.heap.size := by
          obtain ⟨b', off', _, _, _, hs', _, _, _, hb'⟩ := (unhide H).row k hlt
          cases hs'
          exact hb'
        have HRD := hide hrd
        clear hm hrd r1 r2 r3 r4 r5
        go_wp2_with (go_at_call 10; refine (cloneBytes_any _ ds[k] _ (unhide HRD) hsz1).mono ?_; rintro e w1 ⟨ao1, cap1, rfl, hown1, hbel1⟩; obtain ⟨q1, q2⟩ := clone_cell hlt (unhide HR).1 (unhide HR).2.1 hbel1 r6)
        obtain ⟨r1, r2, r3, r4, r5, _⟩ := unhide HR
        have R := clone_step rfl hlt r1 (List.getElem?_eq_getElem hlt) r2 r3 r4 r5 hown1 hbel1 r6
        go_roundw
        case rel => exact ⟨k + 1, hs ++ [.slice ao1 ds[k].length cap1], by omega, by go_num, by simp [r1], R⟩
        case measure => simp [intOf]; omega
      · have hkn : k = ds.length := by omega
        go_wp2
        go_ret
        obtain ⟨r1, r2, r3, r4, r5, _⟩ := unhide HR
        subst hkn
        exact ⟨_, _, rfl, clone_done r1 r2 r3 r4 (by unfold maxLen; omega), r5⟩
end Go.Proofs.Qxb6603163a
