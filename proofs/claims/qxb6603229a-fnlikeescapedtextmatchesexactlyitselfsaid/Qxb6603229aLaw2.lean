/- FnLikeEscapedTextMatchesExactlyItself: the law, out of the contracts of Like and of sameRunes. The frame is the guide's template; the walks are ours. -/
import Derived.Test.Qxb6603229aSame
import Derived.Test.Qxb6603229aUtf
import Derived.OpenShut
import Derived.ShutString
namespace Go.Proofs.Qxb6603229a.fnLikeEscapedTextMatchesExactlyItself
open Go.ChangeShapes Go.WideShapes Go.ChangeAt Go.RowKit
open Go.ChangeMaps (open_string shut_string)
set_option linter.unusedVariables false

theorem own : ownKnob Try.prog.godebug = none := by kernel_rfl
theorem info5 : (Try.prog.info? 5).map (fun i => (i.zero, i.size, i.bytes)) = some (some (.int .u8 0), 1, 1) := by kernel_rfl

def ZzPost (w : World) (e : Ending) (w' : World) : Prop := (e = .returned (.bool true) ∨ e = .returned (.bool false)) ∧ w' = w
theorem zz_any (a s : ByteArray) (ha : a.size ≤ maxLen) (hs : s.size ≤ maxLen) (w : World) : Calls Try.prog 11 #[.string a, .string s] w fun e w' => ZzPost w e w' := by
  unfold maxLen at ha hs
  by_cases h1 : 1048576 < (a.size : Int)
  · go_enter Try.func11, Try.ntmps11
    go_wp2
    go_ret
    exact ⟨.inr rfl, rfl⟩
  by_cases h2 : 1048576 < (s.size : Int)
  · go_enter Try.func11, Try.ntmps11
    go_wp2
    go_ret
    exact ⟨.inr rfl, rfl⟩
  by_cases h3 : 1048576 < (a.size : Int) + (s.size : Int)
  · go_enter Try.func11, Try.ntmps11
    go_wp2
    go_ret
    exact ⟨.inr rfl, rfl⟩
  · go_enter Try.func11, Try.ntmps11
    go_wp2
    go_ret
    exact ⟨.inl rfl, rfl⟩

/-- The bytes, escaped. -/
def escB : List UInt8 → List UInt8
  | [] => []
  | c :: t => if c.toNat = 37 ∨ c.toNat = 95 ∨ c.toNat = 92 then 92 :: c :: escB t else c :: escB t
theorem escB_append : ∀ l m, escB (l ++ m) = escB l ++ escB m
  | [], _ => rfl
  | c :: t, m => by
    simp only [List.cons_append, escB]
    split <;> simp [escB_append t m]
theorem escB_nat : ∀ l, (escB l).map (·.toNat) = escL (l.map (·.toNat))
  | [] => rfl
  | c :: t => by
    simp only [escB, List.map_cons, escL]
    split <;> simp [escB_nat t]
theorem escB_length : ∀ l, (escB l).length ≤ 2 * l.length
  | [] => by simp [escB]
  | c :: t => by
    have := escB_length t
    simp only [escB]
    split <;> simp <;> omega
def ucs (l : List UInt8) : List Value := l.map fun b => Value.int .u8 b.toNat

theorem make5 (K : Nat) (hK : K ≤ 1048576) (w : World) : (Instr.makeSlice 23 (.int .i64 0) (.int .i64 K)).run Try.prog w = .ok (.slice (some ⟨w.heap.size, 0, none⟩) 0 K) (w.alloc (.cells (madeCells #[.int .u8 0] K) 5)) := by
  obtain ⟨i, hi, hz0, hz1, hz2⟩ := info_parts info5
  have hr := run_make (P := Try.prog) w 23 5 i (.int .u8 0) Try.underlying23 hi hz0 .i64 .i64 0 K (by omega) (by omega) (by rw [hz2]; omega) (by omega)
  simpa [hz1, Value.cells] using hr

def LawPost (w : World) (e : Ending) (w' : World) : Prop := e = .returned (.bool true) ∧ Below w.heap.size w w'
theorem ret_same (b : Bool) : Ending.returned (.bool (b == b)) = .returned (.bool true) := by cases b <;> rfl

theorem take_snoc (s : ByteArray) (k : Nat) (h : k < s.size) : s.data.toList.take (k + 1) = s.data.toList.take k ++ [s[k]] := by
  rw [List.take_succ_eq_append_getElem (by simpa using h)]; rfl
theorem esc_spec {s : ByteArray} {k : Nat} {h : k < s.size} (hs : (s[k].toNat = 37 ∨ s[k].toNat = 95 ∨ s[k].toNat = 92)) : escB (s.data.toList.take (k + 1)) = escB (s.data.toList.take k) ++ [92, s[k]] := by
  rw [take_snoc s k h, escB_append]
  simp only [escB, hs, if_true]
theorem esc_plain {s : ByteArray} {k : Nat} {h : k < s.size} (hs : ¬ (s[k].toNat = 37 ∨ s[k].toNat = 95 ∨ s[k].toNat = 92)) : escB (s.data.toList.take (k + 1)) = escB (s.data.toList.take k) ++ [s[k]] := by
  rw [take_snoc s k h, escB_append]
  simp only [escB, hs, if_false]

theorem esc_one {w wr wa : World} {o : Obj} {B len n : Nat} {l l' : List UInt8} {c : UInt8} (hb : Below B w wr) (hB : B ≤ wr.heap.size) (hl : l' = l ++ [c])
    (oa : wa.ownsRow B 5 1 (.slice (some ⟨B, 0, none⟩) (len + 1) n) (len + 1) (ucs l ++ [.int .u8 c.toNat])) (ga : (wr.alloc o).grownBy wa (some B)) :
    Hid (wa.ownsRow B 5 1 (.slice (some ⟨B, 0, none⟩) (len + 1) n) (len + 1) (ucs l') ∧ Below B w wa ∧ B ≤ wa.heap.size) := by
  have hs1 := ga.size
  simp at hs1
  subst hl
  exact ⟨by simpa [ucs] using oa, (hb.alloc hB _).grown ga (by simp; omega) (fun k hk => by cases hk; exact Nat.le_refl _), by omega⟩
theorem esc_two {w wr wa wb : World} {o o2 : Obj} {B len n : Nat} {l l' : List UInt8} {c : UInt8} (hb : Below B w wr) (hB : B ≤ wr.heap.size) (hl : l' = l ++ [92, c])
    (oa : wa.ownsRow B 5 1 (.slice (some ⟨B, 0, none⟩) (len + 1) n) (len + 1) (ucs l ++ [.int .u8 92])) (ga : (wr.alloc o).grownBy wa (some B))
    (ob : wb.ownsRow B 5 1 (.slice (some ⟨B, 0, none⟩) (len + 1 + 1) n) (len + 1 + 1) (ucs l ++ [.int .u8 92] ++ [.int .u8 c.toNat])) (gb : (wa.alloc o2).grownBy wb (some B)) :
    Hid (wb.ownsRow B 5 1 (.slice (some ⟨B, 0, none⟩) (len + 1 + 1) n) (len + 1 + 1) (ucs l') ∧ Below B w wb ∧ B ≤ wb.heap.size) := by
  have h1 := (esc_one (l' := l ++ [92]) (c := 92) hb hB rfl oa ga).out
  have hu : ucs l ++ [.int .u8 92] = ucs (l ++ [92]) := by simp only [ucs, List.map_append]; rfl
  rw [hu] at ob
  exact esc_one (l := l ++ [92]) h1.2.1 h1.2.2 (by rw [hl]; simp) ob gb
theorem conv_back {w : World} {B n : Nat} {l xs : List UInt8} (h : w.ownsRow B 5 1 (.slice (some ⟨B, 0, none⟩) xs.length n) xs.length (ucs l)) (hl : l = xs) :
    (convert 23 9 (.slice (some ⟨B, 0, none⟩) xs.length n)).run Try.prog w = .ok (.string ⟨xs.toArray⟩) w := by
  subst hl
  refine run_convert_bytes_back (P := Try.prog) w 23 9 5 ⟨B, 0, none⟩ n l Try.underlying23 Try.underlying5 Try.underlying9 (fun j hj => ?_)
  have := h.cells (g := B) rfl j (.int .u8 (l[j].toNat : Int)) (by simp [ucs, hj])
  exact this

set_option maxRecDepth 100000 in
set_option maxHeartbeats 2000000 in
theorem walk (a s : ByteArray) (ha : a.size ≤ maxLen) (hs : s.size ≤ maxLen) (w : World) : Calls Try.prog 4 #[.string a, .string s] w fun e w' => LawPost w e w' := by
  have hz := zz_any a s ha hs
  unfold maxLen at ha hs
  have HZ := hide hz
  clear hz
  by_cases h1 : 4096 < (a.size : Int)
  · go_enter Try.func4, Try.ntmps4
    go_wp2_with (go_at_call 11; refine (unhide HZ _).mono ?_; rintro e w ⟨hz, rfl⟩; rcases hz with rfl | rfl)
    all_goals go_ret
    all_goals exact ⟨rfl, Below.refl _ _⟩
  have h1' : decide (4096 < (a.size : Int)) = false := by simpa using h1
  by_cases h2 : 4096 < (s.size : Int)
  · go_enter Try.func4, Try.ntmps4
    go_wp2_with (go_at_call 11; refine (unhide HZ _).mono ?_; rintro e w ⟨hz, rfl⟩; rcases hz with rfl | rfl)
    all_goals go_ret
    all_goals exact ⟨rfl, Below.refl _ _⟩
  obtain ⟨n, hn⟩ : ∃ n, n = 2 * a.size := ⟨_, rfl⟩
  have hmk := make5 n (by omega)
  have hn2 : (2 : Int) * (a.size : Int) = (n : Int) := by omega
  obtain ⟨i5, hi5, _, hs5, _⟩ := info_parts info5
  have HN := hide hn
  clear hn
  go_enter Try.func4, Try.ntmps4
  go_wp2_with (go_at_call 11; refine (unhide HZ _).mono ?_; rintro e w ⟨hz, rfl⟩; rcases hz with rfl | rfl)
  rotate_left
  · go_ret
    exact ⟨rfl, Below.refl _ _⟩
  go_loopw [5, 6, 7] (fun bv iv _ wr => ∃ (i len : Nat), i ≤ a.size ∧ len ≤ 2 * i ∧ iv = .int .i64 i ∧ bv = .slice (some ⟨w.heap.size, 0, none⟩) len n ∧
      Hid (len = (escB (a.data.toList.take i)).length) ∧ Hid (wr.ownsRow w.heap.size 5 1 (.slice (some ⟨w.heap.size, 0, none⟩) len n) len (ucs (escB (a.data.toList.take i))) ∧ Below w.heap.size w wr ∧ w.heap.size ≤ wr.heap.size)) (fun _ iv _ _ => a.size - (intOf iv).toNat)
  case atStart =>
    refine ⟨0, 0, Nat.zero_le _, Nat.le_refl _, rfl, rfl, rfl, ?_, (Below.refl _ _).alloc (Nat.le_refl _) _, by simp⟩
    exact World.ownsRow_made w _ n (Nat.le_refl _) (by unfold maxLen; have := unhide HN; omega) (by simp [size_madeCells])
  case round =>
  obtain ⟨i, len, hi, hlen, rfl, rfl, HLEN, HR⟩ := hrel
  clear hmk hn2
  by_cases hlt : i < a.size
  · have hn3 : len + 2 ≤ n := by have := unhide HN; omega
    by_cases hsp : a[i].toNat = 37 ∨ a[i].toNat = 95 ∨ a[i].toNat = 92
    · have HSP := hide (esc_spec hsp)
      by_cases h37 : a[i].toNat = 37
      · have b1 : ((a[i].toNat : Int) == 37) = true := by rw [beq_iff_eq]; omega
        clear hsp h37
        go_wp2_with (first | (at_builtin; refine wpList_append_fits _ rfl (.tmp 43) (.tmp 44) 23 rfl w.heap.size 5 i5 1 Try.underlying23 hi5 hs5 w.heap.size len n (ucs (escB (a.data.toList.take i))) rfl ((unhide HR).1.alloc _) ⟨wr.heap.size, 0, none⟩ 1 1 [.int .u8 92] rfl rfl (cell_one_new _ _ _) (by simp [Value.oneCell']) (by omega) ?_; intro wa oa ga) | (at_builtin; refine wpList_append_fits _ rfl (.tmp 46) (.tmp 48) 23 rfl w.heap.size 5 i5 1 Try.underlying23 hi5 hs5 w.heap.size (len + 1) n (ucs (escB (a.data.toList.take i)) ++ [.int .u8 92]) rfl (oa.alloc _) ⟨wa.heap.size, 0, none⟩ 1 1 [.int .u8 a[i].toNat] rfl rfl (cell_one_new _ _ _) (by simp [Value.oneCell']) (by omega) ?_; intro wb ob gb))
        go_roundw
        case rel => exact ⟨i + 1, len + 1 + 1, by omega, by omega, by go_num, rfl, (by have hq := unhide HLEN; show _ = _; rw [unhide HSP, List.length_append, ← hq]; simp), esc_two (unhide HR).2.1 (unhide HR).2.2 (unhide HSP) oa ga ob gb⟩
        case measure => simp [intOf] <;> omega
      · have b1 : ((a[i].toNat : Int) == 37) = false := by rw [beq_eq_false_iff_ne]; omega
        by_cases h95 : a[i].toNat = 95
        · have b2 : ((a[i].toNat : Int) == 95) = true := by rw [beq_iff_eq]; omega
          clear hsp h37 h95
          go_wp2_with (first | (at_builtin; refine wpList_append_fits _ rfl (.tmp 43) (.tmp 44) 23 rfl w.heap.size 5 i5 1 Try.underlying23 hi5 hs5 w.heap.size len n (ucs (escB (a.data.toList.take i))) rfl ((unhide HR).1.alloc _) ⟨wr.heap.size, 0, none⟩ 1 1 [.int .u8 92] rfl rfl (cell_one_new _ _ _) (by simp [Value.oneCell']) (by omega) ?_; intro wa oa ga) | (at_builtin; refine wpList_append_fits _ rfl (.tmp 46) (.tmp 48) 23 rfl w.heap.size 5 i5 1 Try.underlying23 hi5 hs5 w.heap.size (len + 1) n (ucs (escB (a.data.toList.take i)) ++ [.int .u8 92]) rfl (oa.alloc _) ⟨wa.heap.size, 0, none⟩ 1 1 [.int .u8 a[i].toNat] rfl rfl (cell_one_new _ _ _) (by simp [Value.oneCell']) (by omega) ?_; intro wb ob gb))
          go_roundw
          case rel => exact ⟨i + 1, len + 1 + 1, by omega, by omega, by go_num, rfl, (by have hq := unhide HLEN; show _ = _; rw [unhide HSP, List.length_append, ← hq]; simp), esc_two (unhide HR).2.1 (unhide HR).2.2 (unhide HSP) oa ga ob gb⟩
          case measure => simp [intOf] <;> omega
        · have b2 : ((a[i].toNat : Int) == 95) = false := by rw [beq_eq_false_iff_ne]; omega
          have b3 : ((a[i].toNat : Int) == 92) = true := by rw [beq_iff_eq]; omega
          clear hsp h37 h95
          go_wp2_with (first | (at_builtin; refine wpList_append_fits _ rfl (.tmp 43) (.tmp 44) 23 rfl w.heap.size 5 i5 1 Try.underlying23 hi5 hs5 w.heap.size len n (ucs (escB (a.data.toList.take i))) rfl ((unhide HR).1.alloc _) ⟨wr.heap.size, 0, none⟩ 1 1 [.int .u8 92] rfl rfl (cell_one_new _ _ _) (by simp [Value.oneCell']) (by omega) ?_; intro wa oa ga) | (at_builtin; refine wpList_append_fits _ rfl (.tmp 46) (.tmp 48) 23 rfl w.heap.size 5 i5 1 Try.underlying23 hi5 hs5 w.heap.size (len + 1) n (ucs (escB (a.data.toList.take i)) ++ [.int .u8 92]) rfl (oa.alloc _) ⟨wa.heap.size, 0, none⟩ 1 1 [.int .u8 a[i].toNat] rfl rfl (cell_one_new _ _ _) (by simp [Value.oneCell']) (by omega) ?_; intro wb ob gb))
          go_roundw
          case rel => exact ⟨i + 1, len + 1 + 1, by omega, by omega, by go_num, rfl, (by have hq := unhide HLEN; show _ = _; rw [unhide HSP, List.length_append, ← hq]; simp), esc_two (unhide HR).2.1 (unhide HR).2.2 (unhide HSP) oa ga ob gb⟩
          case measure => simp [intOf] <;> omega
    · have HSP := hide (esc_plain hsp)
      have b1 : ((a[i].toNat : Int) == 37) = false := by rw [beq_eq_false_iff_ne]; omega
      have b2 : ((a[i].toNat : Int) == 95) = false := by rw [beq_eq_false_iff_ne]; omega
      have b3 : ((a[i].toNat : Int) == 92) = false := by rw [beq_eq_false_iff_ne]; omega
      clear hsp
      go_wp2_with ((at_builtin; refine wpList_append_fits _ rfl (.tmp 46) (.tmp 48) 23 rfl w.heap.size 5 i5 1 Try.underlying23 hi5 hs5 w.heap.size len n (ucs (escB (a.data.toList.take i))) rfl ((unhide HR).1.alloc _) ⟨wr.heap.size, 0, none⟩ 1 1 [.int .u8 a[i].toNat] rfl rfl (cell_one_new _ _ _) (by simp [Value.oneCell']) (by omega) ?_; intro wa oa ga))
      go_roundw
      case rel => exact ⟨i + 1, len + 1, by omega, by omega, by go_num, rfl, (by have hq := unhide HLEN; show _ = _; rw [unhide HSP, List.length_append, ← hq]; simp), esc_one (unhide HR).2.1 (unhide HR).2.2 (unhide HSP) oa ga⟩
      case measure => simp [intOf] <;> omega
  · have hie : i = a.size := by omega
    obtain ⟨xs, hxs⟩ : ∃ xs, xs = escB (a.data.toList.take i) := ⟨_, rfl⟩
    have hx2 : bytesOf ⟨xs.toArray⟩ = escL (bytesOf a) := by
      rw [hxs, hie, List.take_of_length_le (by simp)]
      simp only [bytesOf]
      exact escB_nat _
    have hxl : xs.length ≤ 8192 := by
      have := escB_length (a.data.toList.take i)
      rw [← hxs] at this
      simp at this
      omega
    have hll : len = xs.length := by rw [hxs]; exact unhide HLEN
    subst hll
    have hcv := conv_back (unhide HR).1 (by rw [hxs])
    have hlk := like_any ⟨xs.toArray⟩ s (by show xs.toArray.size ≤ _; simp; omega) (by omega)
    have hsm := same_any a s (by omega) (by omega)
    have hlaw := esc_law a ⟨xs.toArray⟩ s hx2
    obtain ⟨b, hb⟩ : ∃ b, decide (rn a = rn s) = b := ⟨_, rfl⟩
    rw [hb] at hlaw
    have HL : Hid (∀ w, Calls Try.prog 9 #[.string ⟨xs.toArray⟩, .string s] w fun e w' => e = .returned (.bool b) ∧ Below w.heap.size w w') := fun w => by rw [← hlaw]; exact hlk w
    have HM : Hid (∀ w, Calls Try.prog 12 #[.string a, .string s] w fun e w' => e = .returned (.bool b) ∧ Below w.heap.size w w') := fun w => by rw [← hb]; exact hsm w
    have HBR := hide (unhide HR).2
    clear hlk hsm hlaw hb hx2 hxs HR HLEN
    go_wp2_with fail
    refine (unhide HL _).mono ?_
    rintro e wa ⟨rfl, hba⟩
    go_wp2_with fail
    refine (unhide HM _).mono ?_
    rintro e wb ⟨rfl, hbb⟩
    go_wp2
    go_ret
    exact ⟨by first | exact ret_same b | rfl, (unhide HBR).1.trans ((hba.mono (unhide HBR).2).trans (hbb.mono (Nat.le_trans (unhide HBR).2 hba.size)))⟩

theorem lifted (os : Os) (started : os.Started) (H : Type) (enc : TypeId × Value → H) :
    ReturnsInHanded {} Try.checked os 4 .any (Rows.fnLikeEscapedTextMatchesExactlyItselfSpec.pre6 enc Try.prog Try.f4 Rows.fnLikeEscapedTextMatchesExactlyItselfRow.domain false) (Rows.fnLikeEscapedTextMatchesExactlyItselfSpec.post enc Try.prog Try.f4 false true false false) := by
  refine returnsInHanded_of_change (C := Try.checked) own started (by kernel_rfl) Try.func4
    (ChangeSpec.witness6 (enc := enc) (C := Try.checked) false ⟨#[], #[.string ByteArray.empty, .string ByteArray.empty], []⟩ 8 (by kernel_rfl) (by kernel_rfl) (by kernel_rfl) (by kernel_rfl)) ?_
  intro W base args ds gs before hval0 hW hcnd _
  have hval : ∀ (j : Nat) t v, Try.f4.params[j]? = some t → args[j]? = some v → Value.okWide Try.prog W .any base t v := hval0
  have hW' := hW
  obtain ⟨p, q, hA0, hV, rfl, hfz, hnd⟩ := hW
  have hA : DataW.TrodAll enc Try.prog W 0 (fun _ => true) true Try.f4.params.toList args.toList ds p := hA0
  rw [Try.params4] at hA hval
  obtain ⟨v0, vs0, d0, ds0, p0, q0, hargs, rfl, rfl, h0, r0⟩ := trodAll_cons hA
  obtain ⟨v1, vs1, d1, ds1, p1, q1, rfl, rfl, rfl, h1, r1⟩ := trodAll_cons r0
  obtain ⟨rfl, rfl, rfl⟩ := trodAll_nil r1
  obtain rfl : args = #[v0, v1] := by cases args; simp_all
  obtain ⟨rfl, rfl⟩ := trodVars_none hV
  obtain ⟨a0, rfl, rfl, rfl, w0⟩ := open_string Try.underlying9 (hval 0 9 v0 rfl rfl) h0
  obtain ⟨a1, rfl, rfl, rfl, w1⟩ := open_string Try.underlying9 (hval 1 9 v1 rfl rfl) h1
  clear hA0 hval0
  refine (walk a0 a1 w0 w1 W).mono fun e W' ⟨he, bel⟩ => ?_
  subst he
  exact ⟨_, rfl, _, _, _, [], _, [], hW', trodAll_mk1 (shut_bool Try.underlying4 _), (trodAll_cons_mk (shut_string Try.underlying9 w0) (trodAll_cons_mk (shut_string Try.underlying9 w1) trodAll_mk0)), rfl, bel.frame _, fun h => by cases h⟩

theorem over : Rows.fnLikeEscapedTextMatchesExactlyItselfRow.holds Try.pinned (OpenSpec.ofChange Rows.fnLikeEscapedTextMatchesExactlyItselfSpec) :=
  OpenClaim.holds_of_wide 4 Try.f4 rfl rfl rfl rfl rfl rfl rfl ⟨rfl, rfl, rfl, rfl, rfl⟩ rfl rfl rfl rfl rfl (by kernel_rfl) Try.func4 (by kernel_rfl)
    (of_decide_eq_true (by kernel_rfl)) (by unfold Func.isWrapper; first | (rw [if_pos (by decide +kernel)]; kernel_rfl) | (rw [if_neg (by decide +kernel)]; exact ⟨rfl, rfl⟩))
    (fun os started H enc _ => lifted os started H enc)

/-- The given statement. -/
theorem proved : Rows.FnLikeEscapedTextMatchesExactlyItselfSaid := over
end Go.Proofs.Qxb6603229a.fnLikeEscapedTextMatchesExactlyItself
