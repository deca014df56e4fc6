/- A record store in memory: what a store into a chunk's header, an append to a chunk, a new chunk make of it. Laws on worlds alone; and append's laws at the shapes met. -/
import Derived.Test.Qxb6603163aBase
import Derived.Deep.AppendSrc
namespace Go.Proofs.Qxb6603163a
open Go.ChangeShapes Go.WideShapes Go.ChangeAt Go.RowKit

/-- The struct at block S: its size, its length, its chunks; the chunks a store of its own. -/
structure Sto (w : World) (base S : Nat) (size N : Int) (cv : Value) (ds : List (List Int)) : Prop where
  blk : w.heap[S]? = some (.cells #[.int .i64 size, .int .u32 N, cv] 47 (0, 0))
  hb : base ≤ S
  st : Store w base cv ds

theorem heap_lt {w : World} {k : Nat} {o : Obj} (h : w.heap[k]? = some o) : k < w.heap.size := (Array.getElem?_eq_some_iff.1 h).1

theorem grown_any {w w' : World} (h : w.grownBy w' none) (row : Option Nat) : w.grownBy w' row :=
  ⟨h.os, h.tape, h.output, h.size, fun k hk _ => h.block k hk (by simp)⟩

/-- The block that a value owns, and its type. -/
theorem ownsRow_block {w : World} {base : Nat} {e : TypeId} {size : Nat} {v : Value} {n : Nat} {xs : List Value} (h : w.ownsRow base e size v n xs) {k : Nat} (hk : v.ownBlock = some k) :
    ∃ cur, w.heap[k]? = some (.cells cur e (0, 0)) := by
  rcases h.2 with ⟨rfl, _⟩ | ⟨g, cap, cur, rfl, _, hg, _⟩
  · simp [Value.ownBlock] at hk
  · simp [Value.ownBlock] at hk
    subst hk
    exact ⟨cur, hg⟩

theorem cells_ne {w : World} {k k' : Nat} {c c' : Array Value} {t t' : TypeId} {f f' : Nat × Nat} (h : w.heap[k]? = some (.cells c t f)) (h' : w.heap[k']? = some (.cells c' t' f')) (ht : t ≠ t') : k ≠ k' := by
  intro e
  subst e
  rw [h] at h'
  cases h'
  exact ht rfl

/-- What the walk wants of the chunk c. -/
theorem Sto.at {w : World} {base S : Nat} {size N : Int} {cv : Value} {ds : List (List Int)} (h : Sto w base S size N cv ds) (c : Nat) (hc : c < ds.length) :
    ∃ g cap ao cp, cv = .slice (some ⟨g, 0, none⟩) ds.length cap ∧ base ≤ g ∧ g < w.heap.size ∧ g ≠ S ∧ w.cell? ⟨g, c, none⟩ = some (.slice ao (ds[c]).length cp) ∧ w.frozen? ⟨g, c, none⟩ = false ∧
      Own w base (.slice ao (ds[c]).length cp) ds[c] ∧ (Value.slice ao (ds[c]).length cp).ownBlock ≠ some S ∧ (Value.slice ao (ds[c]).length cp).ownBlock ≠ some g := by
  obtain ⟨hs, e1, e2, e3, _⟩ := h.st
  have e2' := e2
  rcases e2.2 with ⟨rfl, hn⟩ | ⟨g, cap, cur, rfl, hb, hg, hnc, hcm, hcs, htake⟩
  · omega
  · have hc' : c < hs.length := by omega
    have hcell := e2'.cellAt c (by omega)
    rw [List.getElem?_eq_getElem hc'] at hcell
    have ho := e3 c hs[c] ds[c] (List.getElem?_eq_getElem hc') (List.getElem?_eq_getElem hc)
    obtain ⟨_, ao, cp, hv, _⟩ := ho.rd
    rw [hv] at hcell ho
    refine ⟨g, cap, ao, cp, by rw [e1], hb, heap_lt hg, cells_ne hg h.blk (by decide), hcell, frozen_of_row w g c cur 27 hg, ho, fun hh => ?_, fun hh => ?_⟩
    · obtain ⟨cur', hk⟩ := ownsRow_block ho.2 hh
      exact cells_ne hk h.blk (by decide) rfl
    · obtain ⟨cur', hk⟩ := ownsRow_block ho.2 hh
      exact cells_ne hk hg (by decide) rfl

theorem Sto.at' {w : World} {base S : Nat} {size N : Int} {g cap : Nat} {ds : List (List Int)} (h : Sto w base S size N (.slice (some ⟨g, 0, none⟩) ds.length cap) ds) {c : Nat} {d : List Int} (hc : ds[c]? = some d) :
    c < ds.length ∧ ∃ ao cp, base ≤ g ∧ g < w.heap.size ∧ g ≠ S ∧ w.cell? ⟨g, c, none⟩ = some (.slice ao d.length cp) ∧ w.frozen? ⟨g, c, none⟩ = false ∧
      Own w base (.slice ao d.length cp) d ∧ (Value.slice ao d.length cp).ownBlock ≠ some S ∧ (Value.slice ao d.length cp).ownBlock ≠ some g := by
  obtain ⟨hlt, rfl⟩ := List.getElem?_eq_some_iff.1 hc
  obtain ⟨g', cap', ao, cp, e, r⟩ := h.at c hlt
  cases e
  exact ⟨hlt, ao, cp, r⟩

theorem apart_set {hs : List Value} (ha : Apart hs) {c : Nat} {hv v' : Value} (hc : hs[c]? = some hv) {B : Nat} (hlt : ∀ (j : Nat) (h : Value), hs[j]? = some h → ∀ k, h.ownBlock = some k → k < B)
    (hat : v'.ownBlock = hv.ownBlock ∨ ∃ b, v'.ownBlock = some b ∧ B ≤ b) : Apart (hs.set c v') := by
  intro i j h h' hij hi hj k hk hk'
  rw [List.getElem?_set] at hi hj
  by_cases ci : c = i
  · subst ci
    simp only [if_true] at hi
    split at hi
    · cases hi
      rw [if_neg (by omega)] at hj
      rcases hat with e | ⟨b, e, hb⟩
      · rw [e] at hk
        exact ha c j hv h' hij hc hj k hk hk'
      · rw [e] at hk
        cases hk
        have := hlt j h' hj k hk'
        omega
    · cases hi
  · rw [if_neg ci] at hi
    by_cases cj : c = j
    · subst cj
      simp only [if_true] at hj
      split at hj
      · cases hj
        rcases hat with e | ⟨b, e, hb⟩
        · rw [e] at hk'
          exact ha i c h hv hij hi hc k hk hk'
        · rw [e] at hk'
          cases hk'
          have := hlt i h hi k hk
          omega
      · cases hj
    · rw [if_neg cj] at hj
      exact ha i j h h' hij hi hj k hk hk'

/-- The chunk c has been turned (in its own row, or in a new one) and its header stored. -/
theorem Sto.put {w w2 : World} {base S g cap c : Nat} {size N : Int} {ds : List (List Int)} {hv v' : Value} {d' : List Int} (h : Sto w base S size N (.slice (some ⟨g, 0, none⟩) ds.length cap) ds) (hc : c < ds.length)
    (hcell : w.cell? ⟨g, c, none⟩ = some hv) (hgrow : w.grownBy w2 hv.ownBlock) (hown : Own w2 base v' d') (hat : v'.ownBlock = hv.ownBlock ∨ ∃ b, v'.ownBlock = some b ∧ w.heap.size ≤ b) :
    Sto (w2.setCell ⟨g, c, none⟩ v') base S size N (.slice (some ⟨g, 0, none⟩) ds.length cap) (ds.set c d') := by
  obtain ⟨hs, e1, e2, e3, e4⟩ := h.st
  have hc' : c < hs.length := by omega
  have e2c := e2
  rw [e1] at e2c
  have hcell2 := e2c.cellAt c (by omega)
  rw [hcell] at hcell2
  have hown0 := e3 c hv ds[c] hcell2.symm (List.getElem?_eq_getElem hc)
  obtain ⟨cur, hg⟩ := ownsRow_block e2 (k := g) rfl
  have hlt : ∀ (j : Nat) (h : Value), hs[j]? = some h → ∀ k, h.ownBlock = some k → k < w.heap.size := by
    intro j hh hj k hk
    have hj' := (List.getElem?_eq_some_iff.1 hj).1
    exact ((e3 j hh ds[j] hj (List.getElem?_eq_getElem (by omega))).2.lt k hk).2
  have hrow : hv.ownBlock ≠ some S ∧ hv.ownBlock ≠ some g := by
    refine ⟨fun hh => ?_, fun hh => ?_⟩
    · obtain ⟨_, hk⟩ := ownsRow_block hown0.2 hh
      exact cells_ne hk h.blk (by decide) rfl
    · obtain ⟨_, hk⟩ := ownsRow_block hown0.2 hh
      exact cells_ne hk hg (by decide) rfl
  have hgS : g ≠ S := cells_ne hg h.blk (by decide)
  have hg2 : w2.heap[g]? = w.heap[g]? := hgrow.block g (heap_lt hg) (fun e => hrow.2 e.symm)
  have hS2 : w2.heap[S]? = w.heap[S]? := hgrow.block S (heap_lt h.blk) (fun e => hrow.1 e.symm)
  have e2w2 : w2.ownsRow base 27 1 (.slice (some ⟨g, 0, none⟩) ds.length cap) ds.length hs := ownsRow_of_block e2c (fun k hk => by cases hk; exact hg2)
  refine ⟨?_, h.hb, hs.set c v', by simpa using e1, ?_, ?_, ?_⟩
  · rw [heap_setCell_other _ _ _ _ (by simpa using hgS.symm), hS2]
    exact h.blk
  · have := (e2w2.stored c v').1
    simpa [e1] using this
  · intro j hh d hj hd
    rw [List.getElem?_set] at hj hd
    by_cases cj : c = j
    · subst cj
      simp only [if_true, hc', hc] at hj hd
      cases hj
      cases hd
      refine hown.keep fun k hk => ?_
      refine heap_setCell_other _ _ _ _ ?_
      intro e
      simp at e
      subst e
      rcases hat with e | ⟨b, e, hb⟩
      · rw [e] at hk
        exact hrow.2 hk
      · rw [e] at hk
        cases hk
        have := heap_lt hg
        omega
    · rw [if_neg cj] at hj hd
      refine (e3 j hh d hj hd).keep fun k hk => ?_
      obtain ⟨_, hkb⟩ := ownsRow_block (e3 j hh d hj hd).2 hk
      rw [heap_setCell_other _ _ _ _ (by simpa using cells_ne hkb hg (by decide))]
      refine hgrow.block k (heap_lt hkb) fun e => ?_
      rcases Nat.lt_or_gt_of_ne cj with hlt' | hgt'
      · exact e4 c j hv hh hlt' hcell2.symm hj k e.symm hk
      · exact e4 j c hh hv hgt' hj hcell2.symm k hk e.symm
  · exact apart_set e4 hcell2.symm hlt hat

theorem Store.keep {w w' : World} {base : Nat} {v : Value} {ds : List (List Int)} (h : Store w base v ds) (hb : ∀ k, base ≤ k → k < w.heap.size → w'.heap[k]? = w.heap[k]?) : Store w' base v ds := by
  obtain ⟨hs, e1, e2, e3, e4⟩ := h
  refine ⟨hs, e1, ownsRow_of_block e2 (fun k hk => hb k (e2.lt k hk).1 (e2.lt k hk).2), fun j h d hj hd => ?_, e4⟩
  have := e3 j h d hj hd
  exact this.keep (fun k hk => hb k (this.2.lt k hk).1 (this.2.lt k hk).2)

/-- A new chunk hv (in a block of its own, behind w) has been appended to the chunks, and the field stored. -/
theorem Sto.push {w w2 w3 : World} {base S : Nat} {size N : Int} {cv cv' hv : Value} {ds : List (List Int)} {hs : List Value} (h : Sto w base S size N cv ds)
    (e1 : hs.length = ds.length) (e2 : w.ownsRow base 27 1 cv hs.length hs) (e3 : ∀ (j : Nat) (h : Value) (d : List Int), hs[j]? = some h → ds[j]? = some d → Own w base h d) (e4 : Apart hs)
    (hb2 : ∀ k, k < w.heap.size → w2.heap[k]? = w.heap[k]?) (hsz : w.heap.size ≤ w2.heap.size) (hown : Own w2 base hv []) (hnew : ∃ b, hv.ownBlock = some b ∧ w.heap.size ≤ b)
    (hgrow : w2.grownBy w3 cv.ownBlock) (hown3 : w3.ownsRow base 27 1 cv' (hs.length + 1) (hs ++ [hv])) (hat : cv'.ownBlock = cv.ownBlock ∨ ∃ b, cv'.ownBlock = some b ∧ w2.heap.size ≤ b) :
    Sto (w3.setCell ⟨S, 2, none⟩ cv') base S size N cv' (ds ++ [[]]) := by
  have hS := heap_lt h.blk
  have hcvS : cv.ownBlock ≠ some S := fun hh => by
    obtain ⟨_, hk⟩ := ownsRow_block e2 hh
    exact cells_ne hk h.blk (by decide) rfl
  have hcv'S : cv'.ownBlock ≠ some S := by
    rcases hat with e | ⟨b, e, hb⟩
    · rw [e]; exact hcvS
    · rw [e]; simp; omega
  have hS3 : w3.heap[S]? = some (.cells #[.int .i64 size, .int .u32 N, cv] 47 (0, 0)) :=
    (hgrow.block S (by omega) (fun e => hcvS e.symm)).trans ((hb2 S hS).trans h.blk)
  have hlt : ∀ (j : Nat) (h : Value), hs[j]? = some h → ∀ k, h.ownBlock = some k → k < w.heap.size := by
    intro j hh hj k hk
    have hj' := (List.getElem?_eq_some_iff.1 hj).1
    exact ((e3 j hh ds[j] hj (List.getElem?_eq_getElem (by omega))).2.lt k hk).2
  refine ⟨?_, h.hb, hs ++ [hv], by simp [e1], ?_, ?_, ?_⟩
  · rw [heap_setCell_same w3 S 2 _ 47 cv' hS3]
    rfl
  · rw [show (hs ++ [hv]).length = hs.length + 1 from by simp]
    refine ownsRow_of_block hown3 fun k hk => heap_setCell_other _ _ _ _ ?_
    intro e
    simp at e
    subst e
    exact hcv'S hk
  · intro j hh d hj hd
    by_cases hjl : j < hs.length
    · rw [List.getElem?_append_left hjl] at hj
      rw [List.getElem?_append_left (by omega)] at hd
      have ho := e3 j hh d hj hd
      refine ho.keep fun k hk => ?_
      obtain ⟨_, hkb⟩ := ownsRow_block ho.2 hk
      rw [heap_setCell_other _ _ _ _ (by simpa using cells_ne hkb h.blk (by decide)), hgrow.block k (by have := heap_lt hkb; omega) (fun e => ?_), hb2 k (heap_lt hkb)]
      obtain ⟨_, hkc⟩ := ownsRow_block e2 e.symm
      exact cells_ne hkb hkc (by decide) rfl
    · have hj2 : j = hs.length := by
        have := (List.getElem?_eq_some_iff.1 hj).1
        simp at this
        omega
      subst hj2
      simp at hj
      subst hj
      rw [e1] at hd
      simp at hd
      subst hd
      refine hown.keep fun k hk => ?_
      obtain ⟨b, hb', hbb⟩ := hnew
      rw [hb'] at hk
      cases hk
      have hbl := (hown.2.lt k hb').2
      rw [heap_setCell_other _ _ _ _ (by simp; omega)]
      refine hgrow.block k hbl fun e => ?_
      have := (e2.lt k e.symm).2
      omega
  · intro i j h1 h2 hij hi hj k hk hk'
    have hjl := (List.getElem?_eq_some_iff.1 hj).1
    simp at hjl
    rw [List.getElem?_append_left (by omega)] at hi
    by_cases hj2 : j < hs.length
    · rw [List.getElem?_append_left hj2] at hj
      exact e4 i j h1 h2 hij hi hj k hk hk'
    · have : j = hs.length := by omega
      subst this
      simp at hj
      subst hj
      have h1' := hlt i h1 hi k hk
      obtain ⟨b, hb', hbb⟩ := hnew
      rw [hb'] at hk'
      cases hk'
      omega

/-- The length is stored. -/
theorem Sto.len {w : World} {base S : Nat} {size N N' : Int} {cv : Value} {ds : List (List Int)} (h : Sto w base S size N cv ds) : Sto (w.setCell ⟨S, 1, none⟩ (.int .u32 N')) base S size N' cv ds := by
  refine ⟨?_, h.hb, ?_⟩
  · rw [heap_setCell_same w S 1 _ 47 _ h.blk]
    rfl
  · obtain ⟨hs, e1, e2, e3, e4⟩ := h.st
    refine ⟨hs, e1, ownsRow_of_block e2 fun k hk => ?_, fun j h' d hj hd => (e3 j h' d hj hd).keep fun k hk => ?_, e4⟩
    · obtain ⟨_, hkb⟩ := ownsRow_block e2 hk
      exact heap_setCell_other _ _ _ _ (by simpa using cells_ne hkb h.blk (by decide))
    · obtain ⟨_, hkb⟩ := ownsRow_block (e3 j h' d hj hd).2 hk
      exact heap_setCell_other _ _ _ _ (by simpa using cells_ne hkb h.blk (by decide))

theorem Sto.cells {w : World} {base S : Nat} {size N : Int} {cv : Value} {ds : List (List Int)} (h : Sto w base S size N cv ds) :
    w.cell? ⟨S, 0, none⟩ = some (.int .i64 size) ∧ w.cell? ⟨S, 1, none⟩ = some (.int .u32 N) ∧ w.cell? ⟨S, 2, none⟩ = some cv ∧ (∀ j, w.frozen? ⟨S, j, none⟩ = false) ∧ S < w.heap.size := by
  refine ⟨?_, ?_, ?_, fun j => frozen_of_row w S j _ 47 h.blk, heap_lt h.blk⟩
  · rw [cell_of_row w S 0 _ 47 (0, 0) h.blk]; rfl
  · rw [cell_of_row w S 1 _ 47 (0, 0) h.blk]; rfl
  · rw [cell_of_row w S 2 _ 47 (0, 0) h.blk]; rfl

/-- 'Sto.put', in the forms in which the walk of add leaves its facts. -/
theorem put1 {w wc w1 : World} {base S g cap c len n : Nat} {size N : Int} {D : List (List Int)} {hv : Value} {ao1 : Option Addr} {cap1 : Nat} {d' : List Int}
    (HS : Hid (Sto wc base S size N (.slice (some ⟨g, 0, none⟩) D.length cap) D)) (HL : Hid (D.length = len)) (hlt : c < len) (hg : base ≤ g) (q4 : wc.cell? ⟨g, c, none⟩ = some hv)
    (HO : ∀ k, hv.ownBlock = some k → base ≤ k) (hbase : base ≤ wc.heap.size) (HB : Hid (Below base w wc))
    (hgrow : wc.drew.grownBy w1 hv.ownBlock) (hown : Own w1 base (.slice ao1 d'.length cap1) d')
    (hat : (Value.slice ao1 d'.length cap1).ownBlock = hv.ownBlock ∨ ∃ b, (Value.slice ao1 d'.length cap1).ownBlock = some b ∧ wc.drew.heap.size ≤ b) (hn : n = d'.length) :
    Hid (Sto (w1.setCell ⟨g, c, none⟩ (.slice ao1 n cap1)) base S size N (.slice (some ⟨g, 0, none⟩) len cap) (D.set c d') ∧ Below base w (w1.setCell ⟨g, c, none⟩ (.slice ao1 n cap1))) := by
  subst hn
  have hl : D.length = len := HL
  subst hl
  have hs : Sto wc base S size N (.slice (some ⟨g, 0, none⟩) D.length cap) D := HS
  have hgrow' : wc.grownBy w1 hv.ownBlock := ⟨hgrow.os, hgrow.tape, hgrow.output, hgrow.size, hgrow.block⟩
  exact ⟨hs.put hlt q4 hgrow' hown hat, (HB.out.grown hgrow' hbase HO).setCell hg _⟩

/-! ### append at the shapes met -/
theorem append_bytes (ty : TypeId) (w : World) (base : Nat) (v rv : Value) (xs ys : List Int) (hown : Own w base v xs) (hrd : Rd w rv ys) (hsz : xs.length + ys.length ≤ 140737488355328) (hbase : base ≤ w.heap.size) :
    ∃ ao cap w', (Builtin.append_ #[27, 27] ty #[v, rv]).run Try.prog w = .ok (.slice ao (xs ++ ys).length cap) w' ∧ Own w' base (.slice ao (xs ++ ys).length cap) (xs ++ ys) ∧ w.grownBy w' v.ownBlock ∧
      ((Value.slice ao (xs ++ ys).length cap).ownBlock = v.ownBlock ∨ ∃ b, (Value.slice ao (xs ++ ys).length cap).ownBlock = some b ∧ w.heap.size ≤ b) := by
  obtain ⟨i0, hi, hz0, hz1, hz2⟩ := info_parts Try.info5
  obtain ⟨hyb, a, c, rfl, _, hnone, hcells⟩ := hrd
  have hxy : Bytes (xs ++ ys) := fun z hz => by
    rcases List.mem_append.1 hz with h | h
    · exact hown.1 z h
    · exact hyb z h
  cases a with
  | none =>
    have hc := hnone rfl
    have hl : ys.length = 0 := by omega
    have hy : ys = [] := List.eq_nil_of_length_eq_zero hl
    subst hy
    subst hc
    have hr := run_append_owned_none (P := Try.prog) (w := w) base 27 ty 5 i0 1 Try.underlying27 hi v xs.length (bcs xs) hown.2
    obtain ⟨_, ao, cp, hv, _⟩ := hown.rd
    rw [List.append_nil]
    subst hv
    exact ⟨ao, cp, w, hr, hown, World.grownBy.refl _ _, .inl rfl⟩
  | some ad =>
    obtain ⟨v', w', hr, h2, h3, _, h5⟩ := run_append_own_at (P := Try.prog) w base 27 ty 5 i0 (.int .u8 0) 1 1 Try.underlying27 hi hz0 hz1 hz2 rfl (by omega) v xs.length (bcs xs) hown.2 ad ys.length c (bcs ys)
      (by rw [bcs_length]; omega) (hcells ad rfl) (bcs_one ys) (by unfold maxLen; omega) (by omega) hbase
    have ho : Own w' base v' (xs ++ ys) := ⟨hxy, by rw [bcs_append, List.length_append]; exact h2⟩
    obtain ⟨_, ao, cp, hv, _⟩ := ho.rd
    subst hv
    rcases h5 with h5 | h5
    · exact ⟨ao, cp, w', hr, ho, h3, .inl h5⟩
    · exact ⟨ao, cp, w', hr, ho, h3, .inr ⟨_, h5, Nat.le_refl _⟩⟩

theorem zeroCells_one (z : Value) (n : Nat) : Builtin.zeroCells #[z] n = (List.replicate n z).toArray := by
  apply Array.ext'
  simp only [Builtin.zeroCells]
  apply List.ext_getElem?
  intro j
  by_cases hj : j < n
  · simp [hj, Nat.mod_one]
  · simp [hj]

theorem bcs_zeros (m : Nat) : bcs (List.replicate m 0) = List.replicate m (Value.int .u8 0) := by simp [bcs]

theorem nextcap_le (n c : Nat) (h : c < n) (hs : n ≤ 1000000000) : Builtin.nextslicecap n c ≤ 281474976710656 := by
  have := growslice_fits (need := n) (old := c) (bytes := 1) h (by omega)
  omega

theorem append_zeros (ty : TypeId) (w : World) (base : Nat) (v : Value) (xs : List Int) (m : Nat) (hown : Own w base v xs) (hsz : xs.length + m ≤ 1000000000) (hbase : base ≤ w.heap.size) :
    ∃ ao cap w', (Builtin.append_ #[27, 3] ty #[v, .int .i64 m]).run Try.prog w = .ok (.slice ao (xs ++ List.replicate m 0).length cap) w' ∧ Own w' base (.slice ao (xs ++ List.replicate m 0).length cap) (xs ++ List.replicate m 0) ∧ w.grownBy w' v.ownBlock ∧
      ((Value.slice ao (xs ++ List.replicate m 0).length cap).ownBlock = v.ownBlock ∨ ∃ b, (Value.slice ao (xs ++ List.replicate m 0).length cap).ownBlock = some b ∧ w.heap.size ≤ b) := by
  obtain ⟨i, hi, hz0, hz1, hz2⟩ := info_parts Try.info5
  have hxy : Bytes (xs ++ List.replicate m 0) := fun z hz => by
    rcases List.mem_append.1 hz with h | h
    · exact hown.1 z h
    · have := List.eq_of_mem_replicate h; omega
  have hwr : IntKind.i64.wrap (m : Int) = m := by rw [IntKind.wrap_i64]; omega
  have hneg : ¬ ((m : Int) < 0) := by omega
  have hbig : ¬ (281474976710656 < (m : Int)) := by omega
  have hlen : (xs ++ List.replicate m (0 : Int)).length = xs.length + m := by simp
  have grown : ∀ (old : Nat), old < xs.length + m → ∀ (row : Option Nat),
      Own (w.drew.alloc (.cells ((bcs xs).toArray ++ ((List.replicate m (Value.int .u8 0)).toArray ++ Builtin.zeroCells #[.int .u8 0] (grownCap w (xs.length + m) old 5 - (xs.length + m)))) 5)) base
        (.slice (some ⟨w.heap.size, 0, none⟩) (xs ++ List.replicate m 0).length (grownCap w (xs.length + m) old 5)) (xs ++ List.replicate m 0) ∧
      w.grownBy (w.drew.alloc (.cells ((bcs xs).toArray ++ ((List.replicate m (Value.int .u8 0)).toArray ++ Builtin.zeroCells #[.int .u8 0] (grownCap w (xs.length + m) old 5 - (xs.length + m)))) 5)) row := by
    intro old ho row
    have hge := grownCap_ge w (xs.length + m) old 5
    have hcm : grownCap w (xs.length + m) old 5 ≤ maxLen := grownCap_le_maxLen w (xs.length + m) old 5 (by unfold maxLen; omega)
    refine ⟨⟨hxy, by rw [bcs_length]; omega, .inr ⟨w.heap.size, _, _, rfl, hbase, heap_alloc_new w.drew _, by omega, hcm, ?_, ?_⟩⟩, ⟨rfl, rfl, rfl, by simp, fun k hk hne => (World.grownBy_alloc w.drew _ row).block k hk hne⟩⟩
    · rw [zeroCells_one]
      simp [bcs_length]
      omega
    · rw [zeroCells_one, hlen, bcs_append, bcs_zeros]
      simp only [Array.toList_append, Nat.mul_one]
      rw [← List.append_assoc]
      exact List.take_left' (by simp [bcs_length])
  rcases hown.2.2 with ⟨rfl, h0⟩ | ⟨g, cap, cur, rfl, hbg, hg, hnc, hcm, hcs, htake⟩
  · have hx : xs = [] := List.eq_nil_of_length_eq_zero h0
    subst hx
    by_cases hm : m = 0
    · subst hm
      refine ⟨none, 0, w, ?_, ?_, World.grownBy.refl _ _, .inl rfl⟩
      · simp [Builtin.append_, run_underlying Try.underlying27, run_underlying Try.underlying3, sizeOf, typeInfo, hi, asInt, asIntOf, IntKind.wrap_i64]
      · simpa using Own.nil w base
    · have hgr := grown 0 (by simp; omega) none
      refine ⟨_, _, _, ?_, hgr.1, grown_any hgr.2 _, .inr ⟨_, rfl, Nat.le_refl _⟩⟩
      have h48' : ¬ (281474976710656 < Builtin.nextslicecap m 0) := by have := nextcap_le m 0 (by omega) (by omega); omega
      have h63' : ¬ (9223372036854775807 < (m : Int)) := by omega
      simp [Builtin.append_, run_underlying Try.underlying27, run_underlying Try.underlying3, sizeOf, typeInfo, zeroValue, hi, hz0, hz1, hz2, asInt, asIntOf, hwr, hm, hneg, hbig, h63', h48', Question.forced, run_firstCells_none, newRow, grownCap, bcs, Value.cells, zeroCells_one]
  · by_cases hroom : xs.length + m ≤ cap
    · have hl : (bcs xs).length = xs.length := bcs_length xs
      have hst := run_storeCells_at Try.prog g (xs.length * 1) 5 (List.replicate m (Value.int .u8 0)) 0 cur w hg (by simp; omega) (by intro u hu; have := List.eq_of_mem_replicate hu; subst this; rfl)
      simp only [Nat.add_zero, Nat.mul_one] at hst
      refine ⟨_, cap, _, ?_, ⟨hxy, by rw [bcs_length]; omega, .inr ⟨g, cap, (cur.toList.take xs.length ++ List.replicate m (Value.int .u8 0) ++ cur.toList.drop (xs.length + m)).toArray, rfl, hbg, setRow_heap w g cur _ 5 _ hg, by omega, hcm, ?_, ?_⟩⟩,
        ⟨rfl, rfl, rfl, by simp, fun k _ hk => setRow_other w g k _ (fun e => hk (by simp [Value.ownBlock, e]))⟩, .inl rfl⟩
      · by_cases hm : m = 0
        · subst hm
          simp at hst
          simp [Builtin.append_, run_underlying Try.underlying27, run_underlying Try.underlying3, sizeOf, typeInfo, zeroValue, hi, hz0, hz1, hz2, asInt, asIntOf, hnc, Addr.add_lit, IntKind.wrap_i64, hst]
        · simp [Builtin.append_, run_underlying Try.underlying27, run_underlying Try.underlying3, sizeOf, typeInfo, zeroValue, hi, hz0, hz1, hz2, asInt, asIntOf, hwr, hneg, hbig, hm, hroom, Addr.add_lit, Value.cells, zeroCells_one, hst]
      · simp at hcs ⊢
        omega
      · rw [hlen, bcs_append, bcs_zeros, ← htake]
        simp only [Nat.mul_one]
        exact List.take_left' (by simp; simp at hcs; omega)
    · have holds : ∀ j u, (bcs xs)[j]? = some u → w.cell? ((⟨g, 0, none⟩ : Addr).add j) = some u := hown.2.cells (g := g) rfl
      have hgr := grown cap (by omega) none
      refine ⟨_, _, _, ?_, hgr.1, grown_any hgr.2 _, .inr ⟨_, rfl, Nat.le_refl _⟩⟩
      have h48' : ¬ (281474976710656 < Builtin.nextslicecap (xs.length + m) cap) := by have := nextcap_le (xs.length + m) cap (by omega) (by omega); omega
      have h63' : ¬ (9223372036854775807 < ((xs.length : Int) + (m : Int))) := by omega
      have hf := run_firstCells_some (P := Try.prog) w.drew 1 xs.length ⟨g, 0, none⟩ xs.length cap (bcs xs) (by rw [bcs_length]; omega) holds
      have hm : m ≠ 0 := by omega
      simp [Builtin.append_, run_underlying Try.underlying27, run_underlying Try.underlying3, sizeOf, typeInfo, zeroValue, hi, hz0, hz1, hz2, asInt, asIntOf, hwr, hm, hneg, hbig, hroom, h63', h48', Question.forced, hf, newRow, grownCap, Value.cells, zeroCells_one]

/-! ### At a step of a region that draws its order -/
theorem wp_append_at (w : World) {o : Oper} {a : Act} {K : Act → World → Prop} {Q : Exit → Act → World → Prop} (s x : Operand) (t tn : TypeId)
    (ho : o.op = .call { callee := .builtin .append, args := #[s, x], argTypes := #[t, tn] }) (vs vx : Value) (hs : a.eval s = vs) (hx : a.eval x = vx)
    (v' : Value) (w' : World) (hr : (Builtin.append_ #[t, tn] o.type #[vs, vx]).run Try.prog w = .ok v' w') (h : K (a.put o.dst v') w') : o.wp Try.prog a w K Q := by
  unfold Oper.wp execOp
  simp only [ho, resolve, invoke, builtin, Sem.run_bind, Sem.run_pure, Result.andThen_ok, List.map_toArray, List.map_cons, List.map_nil, hs, hx, hr]
  exact h

theorem step_append_bytes (w : World) {ops : Array Oper} {o : Oper} {a : Act} {K : Act → World → Prop} {Q : Exit → Act → World → Prop} {E : Prop} (hgd : o.guard = none) (s x : Operand)
    (ho : o.op = .call { callee := .builtin .append, args := #[s, x], argTypes := #[27, 27] }) (base : Nat) (v rv : Value) (xs ys : List Int) (hs : a.eval s = v) (hx : a.eval x = rv)
    (hown : Own w base v xs) (hrd : Rd w rv ys) (hsz : xs.length + ys.length ≤ 140737488355328) (hbase : base ≤ w.heap.size)
    (h : ∀ ao cap w', Own w' base (.slice ao (xs ++ ys).length cap) (xs ++ ys) → w.grownBy w' v.ownBlock →
      ((Value.slice ao (xs ++ ys).length cap).ownBlock = v.ownBlock ∨ ∃ b, (Value.slice ao (xs ++ ys).length cap).ownBlock = some b ∧ w.heap.size ≤ b) → K (a.put o.dst (.slice ao (xs ++ ys).length cap)) w') :
    if Region.wanted o (yielded ops a.tmps) = true then Oper.wp Try.prog o a w K Q else E := by
  have hw : Region.wanted o (yielded ops a.tmps) = true := by simp [Region.wanted, hgd]
  rw [if_pos hw]
  obtain ⟨ao, cap, w', hr, h1, h2, h3⟩ := append_bytes o.type w base v rv xs ys hown hrd hsz hbase
  exact wp_append_at w s x 27 27 ho v rv hs hx _ _ hr (h ao cap w' h1 h2 h3)

theorem step_append_zeros (w : World) {ops : Array Oper} {o : Oper} {a : Act} {K : Act → World → Prop} {Q : Exit → Act → World → Prop} {E : Prop} (hgd : o.guard = none) (s x : Operand)
    (ho : o.op = .call { callee := .builtin .append, args := #[s, x], argTypes := #[27, 3] }) (base : Nat) (v : Value) (xs : List Int) (m : Nat) (hs : a.eval s = v) (hx : a.eval x = .int .i64 m)
    (hown : Own w base v xs) (hsz : xs.length + m ≤ 1000000000) (hbase : base ≤ w.heap.size)
    (h : ∀ ao cap w', Own w' base (.slice ao (xs ++ List.replicate m 0).length cap) (xs ++ List.replicate m 0) → w.grownBy w' v.ownBlock →
      ((Value.slice ao (xs ++ List.replicate m 0).length cap).ownBlock = v.ownBlock ∨ ∃ b, (Value.slice ao (xs ++ List.replicate m 0).length cap).ownBlock = some b ∧ w.heap.size ≤ b) → K (a.put o.dst (.slice ao (xs ++ List.replicate m 0).length cap)) w') :
    if Region.wanted o (yielded ops a.tmps) = true then Oper.wp Try.prog o a w K Q else E := by
  have hw : Region.wanted o (yielded ops a.tmps) = true := by simp [Region.wanted, hgd]
  rw [if_pos hw]
  obtain ⟨ao, cap, w', hr, h1, h2, h3⟩ := append_zeros o.type w base v xs m hown hsz hbase
  exact wp_append_at w s x 27 3 ho v (.int .i64 m) hs hx _ _ hr (h ao cap w' h1 h2 h3)


/-- 'make([]byte, n, K)'. -/
theorem make_cap (n K : Nat) (hn : n ≤ K) (hK : K ≤ 1000000000) (w : World) :
    (Instr.makeSlice 27 (.int .i64 n) (.int .i64 K)).run Try.prog w = .ok (.slice (some ⟨w.heap.size, 0, none⟩) n K) (w.alloc (.cells (madeCells #[.int .u8 0] K) 5)) := by
  obtain ⟨i, hi, hz0, hz1, hz2⟩ := info_parts Try.info5
  have hr := run_make (P := Try.prog) w 27 5 i (.int .u8 0) Try.underlying27 hi hz0 .i64 .i64 n K (by omega) (by omega) (by rw [hz2]; omega) (by omega)
  simpa [hz1, Value.cells] using hr

def grewD (ds : List (List Int)) (c : Nat) : List (List Int) := if c < ds.length then ds else ds ++ [[]]

theorem own_made {w : World} {base K : Nat} (hb : base ≤ w.heap.size) (hK : K ≤ 1000000000) : Own (w.alloc (.cells (madeCells #[.int .u8 0] K) 5)) base (.slice (some ⟨w.heap.size, 0, none⟩) 0 K) [] :=
  ⟨(fun _ h => by cases h), World.ownsRow_made w _ K hb (by unfold maxLen; omega) (by simp [size_madeCells])⟩

/-- A new chunk, in the forms in which the walk of add leaves its facts. -/
theorem push1 {w w3 : World} {base S g cap c K n : Nat} {sz : Nat} {size N : Int} {cv : Value} {ds : List (List Int)} {hs : List Value}
    (HS : Hid (Sto w base S size N cv ds ∧ hs.length = ds.length ∧ w.ownsRow base 27 1 cv hs.length hs ∧ (∀ (j : Nat) (h : Value) (d : List Int), hs[j]? = some h → ds[j]? = some d → Own w base h d) ∧ Apart hs))
    (hc : ds.length = c) (hn : n = hs.length) (hbase : base ≤ w.heap.size) (hK : K ≤ 1000000000) (hsz : sz ≤ 4096 * sz)
    (hgrow : (((w.alloc (.cells (madeCells #[.int .u8 0] K) 5)).alloc (.cells #[.slice (some ⟨w.heap.size, 0, none⟩) 0 K] 27)).drew).grownBy w3 cv.ownBlock)
    (hown3 : w3.ownsRow base 27 1 (.slice (some ⟨g, 0, none⟩) (n + 1) cap) (n + 1) (hs ++ [.slice (some ⟨w.heap.size, 0, none⟩) 0 K]))
    (hat : cv.ownBlock = some g ∨ g = w.heap.size + 2) :
    ∃ (g' cap' : Nat) (D : List (List Int)) (d : List Int), Hid (D = grewD ds c ∧ D[c]? = some d ∧ d.length + sz ≤ 4096 * sz ∧
      Sto (w3.setCell ⟨S, 2, none⟩ (.slice (some ⟨g, 0, none⟩) (n + 1) cap)) base S size N (.slice (some ⟨g', 0, none⟩) D.length cap') D ∧ Below base w (w3.setCell ⟨S, 2, none⟩ (.slice (some ⟨g, 0, none⟩) (n + 1) cap))) := by
  obtain ⟨h, e1, e2, e3, e4⟩ := HS.out
  subst hn
  have hbel0 : Below w.heap.size w (((w.alloc (.cells (madeCells #[.int .u8 0] K) 5)).alloc (.cells #[.slice (some ⟨w.heap.size, 0, none⟩) 0 K] 27)).drew) :=
    (((Below.refl _ _).alloc (Nat.le_refl _) _).alloc (by simp) _).drew
  refine ⟨g, cap, ds ++ [[]], [], ?_, ?_, ?_, ?_, ?_⟩
  · unfold grewD
    rw [if_neg (by omega)]
  · simp [← hc]
  · simpa using hsz
  · have e : (ds ++ [[]]).length = hs.length + 1 := by simp [e1]
    rw [e]
    refine Sto.push h e1 e2 e3 e4 hbel0.block hbel0.size (hv := .slice (some ⟨w.heap.size, 0, none⟩) 0 K) ?_ ⟨_, rfl, Nat.le_refl _⟩ hgrow hown3 ?_
    · exact (own_made hbase hK).keep fun k hk => by
        cases hk
        exact ((Below.refl (w.heap.size + 1) (w.alloc (.cells (madeCells #[.int .u8 0] K) 5))).alloc (by simp) (.cells #[.slice (some ⟨w.heap.size, 0, none⟩) 0 K] 27)).block _ (by simp)
    · rcases hat with h1 | h1
      · exact .inl (by rw [h1]; rfl)
      · exact .inr ⟨g, rfl, by rw [h1]; simp⟩
  · refine ((hbel0.mono hbase).grown hgrow (by simp; omega) (fun k hk => (e2.lt k hk).1)).setCell h.hb _

theorem new_facts (w : World) (S K : Nat) (cv : Value) (hc2 : w.cell? ⟨S, 2, none⟩ = some cv) (hfz : w.frozen? ⟨S, 2, none⟩ = false) (hS : S < w.heap.size) :
    Hid ((((w.alloc (.cells (madeCells #[.int .u8 0] K) 5)).alloc (.cells #[.slice (some ⟨w.heap.size, 0, none⟩) 0 K] 27)).drew).heap[w.heap.size + 1]? = some (.cells #[.slice (some ⟨w.heap.size, 0, none⟩) 0 K] 27 (0, 0))) ∧
    Hid (S < (((w.alloc (.cells (madeCells #[.int .u8 0] K) 5)).alloc (.cells #[.slice (some ⟨w.heap.size, 0, none⟩) 0 K] 27)).drew).heap.size) ∧
    Hid ((((w.alloc (.cells (madeCells #[.int .u8 0] K) 5)).alloc (.cells #[.slice (some ⟨w.heap.size, 0, none⟩) 0 K] 27)).drew).cell? ⟨S, 2, none⟩ = some cv) ∧
    Hid ((((w.alloc (.cells (madeCells #[.int .u8 0] K) 5)).alloc (.cells #[.slice (some ⟨w.heap.size, 0, none⟩) 0 K] 27)).drew).frozen? ⟨S, 2, none⟩ = false) ∧
    w.heap.size ≤ (((w.alloc (.cells (madeCells #[.int .u8 0] K) 5)).alloc (.cells #[.slice (some ⟨w.heap.size, 0, none⟩) 0 K] 27)).drew).heap.size := by
  have hbel : Below w.heap.size w (((w.alloc (.cells (madeCells #[.int .u8 0] K) 5)).alloc (.cells #[.slice (some ⟨w.heap.size, 0, none⟩) 0 K] 27)).drew) :=
    (((Below.refl _ _).alloc (Nat.le_refl _) _).alloc (by simp) _).drew
  refine ⟨?_, Nat.lt_of_lt_of_le hS hbel.size, (hbel.cell (p := ⟨S, 2, none⟩) hS).trans hc2, (hbel.frozen (p := ⟨S, 2, none⟩) hS).trans hfz, hbel.size⟩
  have := heap_alloc_new (w.alloc (.cells (madeCells #[.int .u8 0] K) 5)) (.cells #[.slice (some ⟨w.heap.size, 0, none⟩) 0 K] 27)
  rw [World.size_alloc] at this
  exact this


/-- A copy of a chunk into a new row of K cells: the chunk as it was, with more room. -/
theorem copy_chunk (w : World) (base K cp : Nat) (ao : Option Addr) (d : List Int) (hown : Own w base (.slice ao d.length cp) d) (hbase : base ≤ w.heap.size) (hK : d.length ≤ K) (hK2 : K ≤ 1000000000) :
    ∃ w2, (∀ ty, (Builtin.copy_ #[27, 27] ty #[.slice (some ⟨w.heap.size, 0, none⟩) d.length K, .slice ao d.length cp]).run Try.prog ((w.alloc (.cells (madeCells #[.int .u8 0] K) 5)).drew) = .ok (goInt d.length) w2) ∧
      Hid (Own w2 base (.slice (some ⟨w.heap.size, 0, none⟩) d.length K) d ∧ w.grownBy w2 none) := by
  have hmc : (madeCells #[Value.int .u8 0] K).toList = List.replicate K (Value.int .u8 0) := toList_madeCells_one _ _
  have hnew : ((w.alloc (.cells (madeCells #[.int .u8 0] K) 5)).drew).heap[w.heap.size]? = some (.cells (madeCells #[.int .u8 0] K) 5 (0, 0)) := heap_alloc_new w _
  by_cases h0 : d.length = 0
  · have hd : d = [] := List.eq_nil_of_length_eq_zero h0
    subst hd
    refine ⟨(w.alloc (.cells (madeCells #[.int .u8 0] K) 5)).drew, fun ty => run_copy_none (P := Try.prog) _ 27 27 ty 5 _ _ _ _ _ _ Try.underlying27 Try.size5 (by simp), ?_, ?_⟩
    · exact own_made hbase hK2
    · exact ⟨rfl, rfl, rfl, by simp, fun k hk _ => (World.grownBy_alloc w _ none).block k hk (by simp)⟩
  · obtain ⟨_, a, c, hv, _, hnone, hcells⟩ := hown.rd
    cases hv
    cases ao with
    | none => have := hnone rfl; omega
    | some ad =>
      have hc := hcells ad rfl
      refine ⟨((w.alloc (.cells (madeCells #[.int .u8 0] K) 5)).drew).setRow w.heap.size (bcs d ++ List.replicate (K - d.length) (Value.int .u8 0)).toArray, fun ty => ?_, ?_⟩
      · exact (run_copy_row (P := Try.prog) ((w.alloc (.cells (madeCells #[.int .u8 0] K) 5)).drew) 27 27 ty 5 w.heap.size 0 d.length K ad d.length cp _ 5 (bcs d) Try.underlying27 Try.size5 hnew
          (by rw [bcs_length]; exact (Nat.min_self _).symm) (fun j u hu => by
            have h1 := hc j u hu
            have h2 := World.block_lt_of_cell? w _ h1
            rw [World.cell?_drew, World.cell?_alloc_old _ _ _ (by omega)]
            exact h1) (by rw [bcs_length]; simp [size_madeCells]; omega) (bcs_one d)).trans (by rw [bcs_length]; simp [hmc])
      · refine ⟨⟨hown.1, by rw [bcs_length]; omega, .inr ⟨w.heap.size, K, _, rfl, hbase, setRow_heap _ _ _ _ 5 (0, 0) hnew, hK, by unfold maxLen; omega, ?_, ?_⟩⟩, ⟨rfl, rfl, rfl, by simp, fun k hk _ => ?_⟩⟩
        · simp [bcs_length]
          omega
        · simp [← bcs_length d]
        · rw [setRow_other _ _ _ _ (by omega)]
          exact (World.grownBy_alloc w _ none).block k hk (by simp)

theorem set_same {α : Type} {l : List α} {c : Nat} {d : α} (h : l[c]? = some d) : l.set c d = l := by
  obtain ⟨hlt, rfl⟩ := List.getElem?_eq_some_iff.1 h
  exact List.set_getElem_self hlt

/-- A chunk copied into a larger row, in the forms in which the walk of add leaves its facts. -/
theorem regrown1 {w wc w2 : World} {base S g cap c len cp K sz : Nat} {size N : Int} {ds : List (List Int)} {ao : Option Addr} {d : List Int}
    (HS : Hid (Sto wc base S size N (.slice (some ⟨g, 0, none⟩) len cap) ds)) (HL : Hid (ds.length = len)) (HD : Hid (ds[c]? = some d)) (HDL : Hid (d.length + sz ≤ 4096 * sz)) (hcl : c < len) (hg : base ≤ g)
    (r4 : wc.cell? ⟨g, c, none⟩ = some (.slice ao d.length cp)) (hbase : base ≤ wc.heap.size) (HB : Hid (Below base w wc))
    (H2 : Hid (Own w2 base (.slice (some ⟨wc.heap.size, 0, none⟩) d.length K) d ∧ wc.grownBy w2 none)) :
    ∃ (g' cap' : Nat) (D : List (List Int)) (d' : List Int), Hid (D = grewD ds c ∧ D[c]? = some d' ∧ d'.length + sz ≤ 4096 * sz ∧
      Sto (w2.setCell ⟨g, c, none⟩ (.slice (some ⟨wc.heap.size, 0, none⟩) d.length K)) base S size N (.slice (some ⟨g', 0, none⟩) D.length cap') D ∧ Below base w (w2.setCell ⟨g, c, none⟩ (.slice (some ⟨wc.heap.size, 0, none⟩) d.length K))) := by
  have hl : ds.length = len := HL
  subst hl
  have hd : ds[c]? = some d := HD
  have hs : Sto wc base S size N (.slice (some ⟨g, 0, none⟩) ds.length cap) ds := HS
  obtain ⟨hown, hgrow⟩ := H2.out
  have h := hs.put hcl r4 (grown_any hgrow _) hown (.inr ⟨_, rfl, Nat.le_refl _⟩)
  rw [set_same hd] at h
  exact ⟨g, cap, ds, d, by unfold grewD; rw [if_pos hcl], hd, HDL, h, (HB.out.grown hgrow hbase (fun k hk => by cases hk)).setCell hg _⟩

end Go.Proofs.Qxb6603163a
