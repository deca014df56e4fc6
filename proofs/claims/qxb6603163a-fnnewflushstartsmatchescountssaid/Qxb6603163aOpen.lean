/- The arguments of the laws, as they are read: a slice of bytes, a slice of slices of bytes. -/
import Derived.Test.Qxb6603163aBase
import Derived.Deep.Matrix
import Derived.OpenShut
import Derived.ChangeOld
namespace Go.Proofs.Qxb6603163a
open Go.ChangeShapes Go.WideShapes Go.ChangeAt Go.RowKit

theorem own : ownKnob Try.prog.godebug = none := by kernel_rfl
theorem laidOut : laidOutB Try.prog = true := by kernel_rfl
theorem cells27 : Try.prog.cellsOf 27 = 1 := by kernel_rfl
theorem cells5 : Try.prog.cellsOf 5 = 1 := by kernel_rfl

theorem bytes_of {zs : List Int} {n : Nat} (h : ∀ z ∈ zs, (Lit.int .u8 z).wf = true) : Bytes (zs.take n) := fun z hz => bounds_u8 (h z (List.mem_of_mem_take hz))

theorem bcs_take {zs : List Int} {L j : Nat} {u : Value} (hu : (bcs (zs.take L))[j]? = some u) : j < L ∧ j < zs.length ∧ u = .int .u8 (zs.getD j 0) := by
  rw [bcs_get] at hu
  obtain ⟨z, hz, rfl⟩ := Option.map_eq_some_iff.1 hu
  obtain ⟨hlt, rfl⟩ := List.getElem?_eq_some_iff.1 hz
  have h1 : j < L := by simp at hlt; omega
  have h2 : j < zs.length := by simp at hlt; omega
  refine ⟨h1, h2, ?_⟩
  simp [h2]

theorem rd_of {H : Type} {enc : TypeId × Value → H} {W : World} {a : Option Addr} {len cap : Nat} {d : DataW H} {p : List MemPlace} (h : DataW.Trod enc Try.prog W 0 (fun _ => true) true 27 (.slice a len cap) d p) :
    ∃ xs, Rd W (.slice a len cap) xs := by
  obtain ⟨fuel, hf⟩ := h
  rcases open_ints Try.underlying27 Try.underlying5 cells5 hf with ⟨hcs, _⟩ | ⟨x, l, c, zs, hcs, _, hl, hm, hz, _, hcell, hwz⟩
  · simp [Value.cells] at hcs
    obtain ⟨rfl, rfl, rfl⟩ := hcs
    exact ⟨[], Rd.nil W⟩
  · simp [Value.cells] at hcs
    obtain ⟨rfl, rfl, rfl⟩ := hcs
    simp only [if_true] at hz
    have hlen : (zs.take len).length = len := by simp; omega
    refine ⟨zs.take len, bytes_of hwz, some x, cap, by rw [hlen], by omega, (fun hh => by cases hh), fun ad had j u hu => ?_⟩
    cases had
    obtain ⟨h1, h2, rfl⟩ := bcs_take hu
    exact hcell j h2

theorem mt_of {H : Type} {enc : TypeId × Value → H} {W : World} {a : Option Addr} {len cap : Nat} {d : DataW H} {p : List MemPlace} (h : DataW.Trod enc Try.prog W 0 (fun _ => true) true 26 (.slice a len cap) d p) :
    ∃ ds, Mt W (.slice a len cap) ds := by
  obtain ⟨fuel, hf⟩ := h
  rcases Deep.open_int_rows Try.underlying26 Try.underlying27 Try.underlying5 cells27 cells5 hf with ⟨hcs, _⟩ | ⟨x, l, c, A, L, C, Z, hcs, _, hl, hm, _, hx⟩
  · simp [Value.cells] at hcs
    obtain ⟨rfl, rfl, rfl⟩ := hcs
    exact ⟨[], [], none, 0, rfl, rfl, Nat.le_refl _, fun _ => rfl, (fun _ hh => by cases hh), fun j h d hh => by simp at hh⟩
  · simp [Value.cells] at hcs
    obtain ⟨rfl, rfl, rfl⟩ := hcs
    refine ⟨(List.range len).map fun r => (Z r).take (L r), (List.range len).map fun r => .slice (A r) (L r) (C r), some x, cap, by simp, by simp, by simpa using hl, (fun hh => by cases hh), fun ad had j u hu => ?_, fun j h d hh hd => ?_⟩
    · cases had
      rw [List.getElem?_map] at hu
      obtain ⟨r, hr, rfl⟩ := Option.map_eq_some_iff.1 hu
      obtain ⟨hlt, rfl⟩ := List.getElem?_eq_some_iff.1 hr
      simp at hlt
      simpa using (hx j (by omega)).1
    · rw [List.getElem?_map] at hh hd
      obtain ⟨r, hr, rfl⟩ := Option.map_eq_some_iff.1 hh
      rw [hr] at hd
      obtain ⟨hlt, rfl⟩ := List.getElem?_eq_some_iff.1 hr
      simp at hlt
      cases hd
      simp only [List.getElem_range] at *
      obtain ⟨h1, h2, h3, h4, h5, h6, h7⟩ := hx j (by omega)
      have hlen : ((Z j).take (L j)).length = L j := by simp; omega
      refine ⟨bytes_of h5, A j, C j, by rw [hlen], by omega, h6, fun ad had q u hu => ?_⟩
      obtain ⟨g1, g2, rfl⟩ := bcs_take hu
      exact (h7 ad had).2 q (by omega)

theorem Store.nil (w : World) (base : Nat) : Store w base (.slice none 0 0) [] :=
  ⟨[], rfl, World.ownsRow_nil w base 27 1, (fun j h d hh => by simp at hh), fun i j h h' _ hh => by simp at hh⟩

theorem Mt.form {w : World} {v : Value} {ds : List (List Int)} (h : Mt w v ds) : ∃ a c, v = .slice a ds.length c := by
  obtain ⟨_, a, c, _, e, _⟩ := h
  exact ⟨a, c, e⟩

/-- The bytes of a slice that is not empty, for the walk. -/
theorem Rd.cells {w : World} {a : Option Addr} {n c : Nat} {xs : List Int} (h : Rd w (.slice a n c) xs) (hp : 0 < xs.length) :
    ∃ b off, a = some ⟨b, off, none⟩ ∧ ∀ j, j < xs.length → w.cell? ⟨b, off + j, none⟩ = some (.int .u8 (xs.getD j 0)) := by
  obtain ⟨_, a', c', e, h1, h2, h3⟩ := h
  cases e
  cases a with
  | none => have := h2 rfl; omega
  | some ad =>
    obtain ⟨b, off, spot⟩ := ad
    have h0 := h3 _ rfl 0 _ (by rw [bcs_get, List.getElem?_eq_getElem hp]; rfl)
    have hs : spot = none := by simpa [Addr.add] using World.cell?_spot h0
    subst hs
    refine ⟨b, off, rfl, fun j hj => ?_⟩
    have := h3 _ rfl j _ (by rw [bcs_get, List.getElem?_eq_getElem hj]; rfl)
    rw [add_lit] at this
    rw [this]
    simp [hj]

/-- A law's end: true, and nothing that was there has turned. -/
def LawPost (w : World) (e : Ending) (w' : World) : Prop := e = .returned (.bool true) ∧ Below w.heap.size w w'

theorem Rd.form {w : World} {v : Value} {xs : List Int} (h : Rd w v xs) : ∃ a c, v = .slice a xs.length c := by
  obtain ⟨_, a, c, e, _⟩ := h
  exact ⟨a, c, e⟩

end Go.Proofs.Qxb6603163a
