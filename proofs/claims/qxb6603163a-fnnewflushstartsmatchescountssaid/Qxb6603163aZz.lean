/- The measures zzBytes_..: they read lengths alone. -/
import Derived.Test.Qxb6603163aBase
namespace Go.Proofs.Qxb6603163a
open Go.ChangeShapes Go.WideShapes Go.ChangeAt Go.RowKit

def Sized (ds : List (List Int)) : Prop := ds.length ≤ 1048576 ∧ ∀ d ∈ ds, d.length ≤ 1048576
def ZzPost (ds : List (List Int)) (w : World) (e : Ending) (w' : World) : Prop := (e = .returned (.bool true) ∧ Sized ds ∨ e = .returned (.bool false)) ∧ w' = w
def ZzPost9 (ds : List (List Int)) (xs : List Int) (w : World) (e : Ending) (w' : World) : Prop := (e = .returned (.bool true) ∧ Sized ds ∧ xs.length ≤ 1048576 ∨ e = .returned (.bool false)) ∧ w' = w

set_option maxHeartbeats 400000 in
theorem zzFills (v : Value) (ds : List (List Int)) (size n : Int) (rv : Value) (xs : List Int) (w : World) (h : Mt w v ds) (hr : Rd w rv xs) :
    Calls Try.prog 9 #[.int .i64 size, .int .u32 n, v, rv] w fun e w' => ZzPost9 ds xs w e w' := by
  obtain ⟨_, ra, rc, rfl, _, _, _⟩ := hr
  have hh := h
  obtain ⟨hs, a, c, e1, rfl, e3, e4, e5, e6⟩ := hh
  clear e5 e6 e1 hs e4
  have H := hide h
  clear h
  by_cases hn : (ds.length : Int) ≤ 1048576
  · go_enter Try.func9, Try.ntmps9
    go_wp2
    go_loop [9, 10] (fun z i => ∃ (k : Nat) (t : Int), k ≤ ds.length ∧ i = .int .i64 k ∧ z = .int .i64 t ∧ 0 ≤ t ∧ t ≤ 1048576 ∧ Hid (∀ (j : Nat) (d : List Int), j < k → ds[j]? = some d → d.length ≤ 1048576)) (fun _ i => ds.length - (intOf i).toNat)
    case atStart => exact ⟨0, ds.length, Nat.zero_le _, rfl, by go_num, by omega, by omega, fun j d hj => by omega⟩
    case round =>
      obtain ⟨k, t, hk, rfl, rfl, ht0, ht1, HB⟩ := hrel
      by_cases hlt : k < ds.length
      · obtain ⟨b, off, ao, l, cp, hsome, hcell, hl, _, _⟩ := (unhide H).row k hlt
        cases hsome
        obtain ⟨n, hnn⟩ : ∃ n, n = ds[k].length := ⟨_, rfl⟩
        rw [← hnn] at hl
        subst hl
        have HN := hide hnn
        clear hnn
        by_cases hbig : (l : Int) ≤ 1048576
        · go_wp2
          · go_ret
            exact ⟨.inr rfl, rfl⟩
          · go_round
            case rel =>
              refine ⟨k + 1, t + l, by omega, by go_num, by go_num, by omega, by omega, fun j d hj hd => ?_⟩
              by_cases hjk : j = k
              · subst hjk
                rw [List.getElem?_eq_getElem hlt] at hd
                cases hd
                rw [← unhide HN]
                omega
              · exact unhide HB j d (by omega) hd
            case measure => simp [intOf]; omega
        · go_wp2
          go_ret
          exact ⟨.inr rfl, rfl⟩
      · by_cases hx : (xs.length : Int) ≤ 1048576
        · go_wp2
          · go_ret
            exact ⟨.inr rfl, rfl⟩
          · go_ret
            refine ⟨.inl ⟨rfl, ⟨by omega, fun d hd => ?_⟩, by omega⟩, rfl⟩
            obtain ⟨j, hj, rfl⟩ := List.getElem_of_mem hd
            exact unhide HB j _ (by omega) (List.getElem?_eq_getElem hj)
        · go_wp2
          go_ret
          exact ⟨.inr rfl, rfl⟩
  · go_enter Try.func9, Try.ntmps9
    go_wp2
    go_ret
    exact ⟨.inr rfl, rfl⟩

set_option maxHeartbeats 400000 in
theorem zzScript (v : Value) (ds : List (List Int)) (size : Int) (w : World) (h : Mt w v ds) :
    Calls Try.prog 14 #[.int .i64 size, v] w fun e w' => ZzPost ds w e w' := by
  have hh := h
  obtain ⟨hs, a, c, e1, rfl, e3, e4, e5, e6⟩ := hh
  clear e5 e6 e1 hs e4
  have H := hide h
  clear h
  by_cases hn : (ds.length : Int) ≤ 1048576
  · go_enter Try.func14, Try.ntmps14
    go_wp2
    go_loop [5, 6] (fun z i => ∃ (k : Nat) (t : Int), k ≤ ds.length ∧ i = .int .i64 k ∧ z = .int .i64 t ∧ 0 ≤ t ∧ t ≤ 1048576 ∧ Hid (∀ (j : Nat) (d : List Int), j < k → ds[j]? = some d → d.length ≤ 1048576)) (fun _ i => ds.length - (intOf i).toNat)
    case atStart => exact ⟨0, ds.length, Nat.zero_le _, rfl, by go_num, by omega, by omega, fun j d hj => by omega⟩
    case round =>
      obtain ⟨k, t, hk, rfl, rfl, ht0, ht1, HB⟩ := hrel
      by_cases hlt : k < ds.length
      · obtain ⟨b, off, ao, l, cp, hsome, hcell, hl, _, _⟩ := (unhide H).row k hlt
        cases hsome
        obtain ⟨n, hnn⟩ : ∃ n, n = ds[k].length := ⟨_, rfl⟩
        rw [← hnn] at hl
        subst hl
        have HN := hide hnn
        clear hnn
        by_cases hbig : (l : Int) ≤ 1048576
        · go_wp2
          · go_ret
            exact ⟨.inr rfl, rfl⟩
          · go_round
            case rel =>
              refine ⟨k + 1, t + l, by omega, by go_num, by go_num, by omega, by omega, fun j d hj hd => ?_⟩
              by_cases hjk : j = k
              · subst hjk
                rw [List.getElem?_eq_getElem hlt] at hd
                cases hd
                rw [← unhide HN]
                omega
              · exact unhide HB j d (by omega) hd
            case measure => simp [intOf]; omega
        · go_wp2
          go_ret
          exact ⟨.inr rfl, rfl⟩
      · go_wp2
        go_ret
        refine ⟨.inl ⟨rfl, by omega, fun d hd => ?_⟩, rfl⟩
        obtain ⟨j, hj, rfl⟩ := List.getElem_of_mem hd
        exact unhide HB j _ (by omega) (List.getElem?_eq_getElem hj)
  · go_enter Try.func14, Try.ntmps14
    go_wp2
    go_ret
    exact ⟨.inr rfl, rfl⟩

set_option maxHeartbeats 400000 in
theorem zzCounts (v : Value) (ds : List (List Int)) (n s : Int) (w : World) (h : Mt w v ds) :
    Calls Try.prog 15 #[v, .int .i64 n, .int .i64 s] w fun e w' => ZzPost ds w e w' := by
  have hh := h
  obtain ⟨hs, a, c, e1, rfl, e3, e4, e5, e6⟩ := hh
  clear e5 e6 e1 hs e4
  have H := hide h
  clear h
  by_cases hn : (ds.length : Int) ≤ 1048576
  · go_enter Try.func15, Try.ntmps15
    go_wp2
    go_loop [7, 8] (fun z i => ∃ (k : Nat) (t : Int), k ≤ ds.length ∧ i = .int .i64 k ∧ z = .int .i64 t ∧ 0 ≤ t ∧ t ≤ 1048576 ∧ Hid (∀ (j : Nat) (d : List Int), j < k → ds[j]? = some d → d.length ≤ 1048576)) (fun _ i => ds.length - (intOf i).toNat)
    case atStart => exact ⟨0, ds.length, Nat.zero_le _, rfl, by go_num, by omega, by omega, fun j d hj => by omega⟩
    case round =>
      obtain ⟨k, t, hk, rfl, rfl, ht0, ht1, HB⟩ := hrel
      by_cases hlt : k < ds.length
      · obtain ⟨b, off, ao, l, cp, hsome, hcell, hl, _, _⟩ := (unhide H).row k hlt
        cases hsome
        obtain ⟨n, hnn⟩ : ∃ n, n = ds[k].length := ⟨_, rfl⟩
        rw [← hnn] at hl
        subst hl
        have HN := hide hnn
        clear hnn
        by_cases hbig : (l : Int) ≤ 1048576
        · go_wp2
          · go_ret
            exact ⟨.inr rfl, rfl⟩
          · go_round
            case rel =>
              refine ⟨k + 1, t + l, by omega, by go_num, by go_num, by omega, by omega, fun j d hj hd => ?_⟩
              by_cases hjk : j = k
              · subst hjk
                rw [List.getElem?_eq_getElem hlt] at hd
                cases hd
                rw [← unhide HN]
                omega
              · exact unhide HB j d (by omega) hd
            case measure => simp [intOf]; omega
        · go_wp2
          go_ret
          exact ⟨.inr rfl, rfl⟩
      · go_wp2
        go_ret
        refine ⟨.inl ⟨rfl, by omega, fun d hd => ?_⟩, rfl⟩
        obtain ⟨j, hj, rfl⟩ := List.getElem_of_mem hd
        exact unhide HB j _ (by omega) (List.getElem?_eq_getElem hj)
  · go_enter Try.func15, Try.ntmps15
    go_wp2
    go_ret
    exact ⟨.inr rfl, rfl⟩

set_option maxHeartbeats 400000 in
theorem zzTile (v : Value) (ds : List (List Int)) (n s : Int) (w : World) (h : Mt w v ds) :
    Calls Try.prog 18 #[v, .int .i64 n, .int .i64 s] w fun e w' => ZzPost ds w e w' := by
  have hh := h
  obtain ⟨hs, a, c, e1, rfl, e3, e4, e5, e6⟩ := hh
  clear e5 e6 e1 hs e4
  have H := hide h
  clear h
  by_cases hn : (ds.length : Int) ≤ 1048576
  · go_enter Try.func18, Try.ntmps18
    go_wp2
    go_loop [7, 8] (fun z i => ∃ (k : Nat) (t : Int), k ≤ ds.length ∧ i = .int .i64 k ∧ z = .int .i64 t ∧ 0 ≤ t ∧ t ≤ 1048576 ∧ Hid (∀ (j : Nat) (d : List Int), j < k → ds[j]? = some d → d.length ≤ 1048576)) (fun _ i => ds.length - (intOf i).toNat)
    case atStart => exact ⟨0, ds.length, Nat.zero_le _, rfl, by go_num, by omega, by omega, fun j d hj => by omega⟩
    case round =>
      obtain ⟨k, t, hk, rfl, rfl, ht0, ht1, HB⟩ := hrel
      by_cases hlt : k < ds.length
      · obtain ⟨b, off, ao, l, cp, hsome, hcell, hl, _, _⟩ := (unhide H).row k hlt
        cases hsome
        obtain ⟨n, hnn⟩ : ∃ n, n = ds[k].length := ⟨_, rfl⟩
        rw [← hnn] at hl
        subst hl
        have HN := hide hnn
        clear hnn
        by_cases hbig : (l : Int) ≤ 1048576
        · go_wp2
          · go_ret
            exact ⟨.inr rfl, rfl⟩
          · go_round
            case rel =>
              refine ⟨k + 1, t + l, by omega, by go_num, by go_num, by omega, by omega, fun j d hj hd => ?_⟩
              by_cases hjk : j = k
              · subst hjk
                rw [List.getElem?_eq_getElem hlt] at hd
                cases hd
                rw [← unhide HN]
                omega
              · exact unhide HB j d (by omega) hd
            case measure => simp [intOf]; omega
        · go_wp2
          go_ret
          exact ⟨.inr rfl, rfl⟩
      · go_wp2
        go_ret
        refine ⟨.inl ⟨rfl, by omega, fun d hd => ?_⟩, rfl⟩
        obtain ⟨j, hj, rfl⟩ := List.getElem_of_mem hd
        exact unhide HB j _ (by omega) (List.getElem?_eq_getElem hj)
  · go_enter Try.func18, Try.ntmps18
    go_wp2
    go_ret
    exact ⟨.inr rfl, rfl⟩

end Go.Proofs.Qxb6603163a
