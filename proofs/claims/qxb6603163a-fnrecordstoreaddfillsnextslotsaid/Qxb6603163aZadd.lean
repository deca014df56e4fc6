/- ZZRecordStoreAdd: add over a store made of plain fields. -/
import Derived.Test.Qxb6603163aAdd
namespace Go.Proofs.Qxb6603163a
open Go.ChangeShapes Go.WideShapes Go.ChangeAt Go.RowKit
theorem bdN {B : Nat} {a w : World} (h : Below B a w) (n : Nat) : Below B a (w.drewN n) := ⟨h.os, h.tape, h.output, h.size, h.block⟩

def ZAddPost (base N c size : Nat) (xs : List Int) (ds : List (List Int)) (w : World) (e : Ending) (w' : World) : Prop :=
  ∃ ao cap len, e = .returned (.tuple #[.int .u32 N, .int .i64 size, .int .u32 ((N : Int) + 1), .slice ao len cap]) ∧ Hid (len = (addD ds c (pad size xs)).length) ∧ Store w' base (.slice ao len cap) (addD ds c (pad size xs)) ∧ Below base w w'

set_option maxRecDepth 100000 in
set_option maxHeartbeats 1000000 in
theorem zadd_any (base N c size : Nat) (cv rv : Value) (xs : List Int) (ds : List (List Int)) (w : World) (h : Store w base cv ds) (hr : ∀ w', Below base w w' → Rd w' rv xs) (hbase : base ≤ w.heap.size)
    (hN : N < 1000000000) (hc : c = N / 4096) (hcd : c ≤ ds.length) (hsz : size ≤ 1024) (hx : xs.length ≤ size) (hroom : ∀ d, ds[c]? = some d → d.length + size ≤ 4096 * size) :
    Calls Try.prog 12 #[.int .i64 size, .int .u32 N, cv, rv] w fun e w' => ZAddPost base N c size xs ds w e w' := by
  obtain ⟨_, cva, ccap, _, hcv, _⟩ := h.mt
  subst hcv
  obtain ⟨_, ra, rc, hrv, _⟩ := hr w (Below.refl _ _)
  subst hrv
  have hbel0 : Below base w (w.alloc (.cells #[.int .i64 size, .int .u32 N, .slice cva ds.length ccap] 47)) := (Below.refl _ _).alloc hbase _
  have hsto : Sto (w.alloc (.cells #[.int .i64 size, .int .u32 N, .slice cva ds.length ccap] 47)) base w.heap.size size N (.slice cva ds.length ccap) ds :=
    ⟨heap_alloc_new w _, hbase, h.keep (fun k _ hk => (World.grownBy_alloc w _ none).block k hk (by simp))⟩
  have hcall := add_any base w.heap.size N c size _ _ xs ds _ hsto (fun w' hb => hr w' (hbel0.trans hb)) hN hc hcd hsz hx hroom
  have HC := hide hcall
  have HB := hide hbel0
  clear hcall hbel0 hsto hr h hroom
  go_enter Try.func12, Try.ntmps12
  go_wp2_with (go_at_call 21; refine (unhide HC).mono ?_; rintro e w1 ⟨rfl, ⟨cv1, hsto1⟩, hbel1⟩; obtain ⟨_, cva1, ccap1, _, hcv1, _⟩ := hsto1.st.mt; subst hcv1; obtain ⟨k0, k1, k2, _, _⟩ := hsto1.cells; obtain ⟨len, hlen⟩ : ∃ len, (addD ds c (pad size xs)).length = len := ⟨_, rfl⟩; rw [hlen] at k2; have HLEN := hide hlen; have HST := hide hsto1; have HB1 := hide hbel1; clear hlen hsto1 hbel1)
  go_quiet (fail)
  go_wp2
  refine bodyPost_ret (v := .tuple #[.int .u32 N, .int .i64 size, .int .u32 ((N : Int) + 1), .slice cva1 len ccap1]) (by simp [results, Try.results12, go_sem]) rfl ⟨cva1, ccap1, len, rfl, (unhide HLEN).symm, ?_, ?_⟩
  · have h := (unhide HST).st
    rw [unhide HLEN] at h
    exact h
  · exact bdN ((unhide HB).trans (unhide HB1)) nq

end Go.Proofs.Qxb6603163a
