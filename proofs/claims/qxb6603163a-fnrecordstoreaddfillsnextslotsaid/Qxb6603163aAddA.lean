/- Regions of (*recordStore).add that draw their order, each by itself. -/
import Derived.Test.Qxb6603163aSto
import Derived.Test.Qxb6603163aPlain
import Derived.BigQuiet
import Derived.Deep.QuietTactic
import Derived.Deep.RegionHeld3
import Derived.Deep.DrawnRows
namespace Go.Proofs.Qxb6603163a
open Go.ChangeShapes Go.WideShapes Go.ChangeAt Go.RowKit
attribute [local go_sem ↓] Go.wp_at_zero Go.wp_at_succ

/-- The region of number n in a code. -/
def rg (n : Nat) : Code → Option Code
  | .region id ops b => if id == n then some (.region id ops b) else none
  | .seq a b => match rg n a with
    | some c => some c
    | none => rg n b
  | .block _ c => rg n c
  | .scope c => rg n c
  | .loop c => rg n c
  | .cond _ a b => match rg n a with
    | some c => some c
    | none => rg n b
  | _ => none

set_option maxRecDepth 100000 in
set_option maxHeartbeats 4000000 in
theorem reg4 {QQ : Exit → Act → World → Prop} {u2 u3 u4 u7 u8 u9 u10 u11 u12 u13 u14 u15 u16 u17 u18 u19 u20 u21 u22 u23 u24 u25 u26 u27 u28 u29 u30 u31 u32 u33 u34 u35 u36 u37 u38 u39 u40 u41 u42 u43 u44 u45 u46 u47 u48 u49 u50 u51 u52 u53 u54 u55 u56 u57 u58 u59 u60 u61 u62 u63 u64 u65 u66 u67 u68 u69 u70 u71 u72 u73 u74 u75 u76 u77 u78 u79 u80 u81 u82 u83 u84 u85 u86 u87 u88 u89 u90 u91 u92 u93 u94 u95 u96 u97 u98 u99 u100 u101 u102 u103 u104 u105 u106 u107 u108 u109 u110 u111 u112 u113 u114 u115 u116 u117 u118 u119 u120 u121 u122 u123 u124 u125 u126 u127 u128 u129 u130 u131 u132 u133 u134 u135 u136 u137 u138 u139 u140 u141 u142 u143 u144 u145 u146 u147 u148 u149 u150 u151 u152 u153 u154 u155 u156 u157 u158 u159 u160 u161 u162 u163 u164 u165 u166 u167 u168 u169 u170 : Value} {S c len ccap base size N : Nat} {cva ra : Option Addr} {xl rc : Nat} {hs : List Value} {ds : List (List Int)} {w : World}
    (HALL : Hid (Sto w base S size N (.slice cva len ccap) ds ∧ hs.length = ds.length ∧ w.ownsRow base 27 1 (.slice cva len ccap) hs.length hs ∧ (∀ (j : Nat) (h : Value) (d : List Int), hs[j]? = some h → ds[j]? = some d → Own w base h d) ∧ Apart hs))
    (HLEN : Hid (ds.length = len)) (HH : Hid (c = len)) (hlb : hs.length < 1000000) (hsz : size ≤ 1024)
    (hK : ∀ (x26 x27 x28 x29 x30 x31 x32 x33 x34 x35 x36 x37 x38 x39 x40 : Value) (w2 : World), (∃ (g cap : Nat) (D : List (List Int)) (d : List Int), Hid (D = grewD ds c ∧ D[c]? = some d ∧ d.length + size ≤ 4096 * size ∧ Sto w2 base S size N (.slice (some ⟨g, 0, none⟩) D.length cap) D ∧ Below base w w2)) → QQ .normal ⟨#[.pointer (some ⟨S, 0, none⟩), .slice ra xl rc, u2, u3, u4, .int .u32 N, .int .i64 c, u7, u8, u9, u10, u11, u12, u13, u14, u15, u16, u17, u18, u19, u20, u21, u22, u23, u24, u25, x26, x27, x28, x29, x30, x31, x32, x33, x34, x35, x36, x37, x38, x39, x40, u41, u42, u43, u44, u45, u46, u47, u48, u49, u50, u51, u52, u53, u54, u55, u56, u57, u58, u59, u60, u61, u62, u63, u64, u65, u66, u67, u68, u69, u70, u71, u72, u73, u74, u75, u76, u77, u78, u79, u80, u81, u82, u83, u84, u85, u86, u87, u88, u89, u90, u91, u92, u93, u94, u95, u96, u97, u98, u99, u100, u101, u102, u103, u104, u105, u106, u107, u108, u109, u110, u111, u112, u113, u114, u115, u116, u117, u118, u119, u120, u121, u122, u123, u124, u125, u126, u127, u128, u129, u130, u131, u132, u133, u134, u135, u136, u137, u138, u139, u140, u141, u142, u143, u144, u145, u146, u147, u148, u149, u150, u151, u152, u153, u154, u155, u156, u157, u158, u159, u160, u161, u162, u163, u164, u165, u166, u167, u168, u169, u170], []⟩ w2) :
    Code.wp Try.prog ((Try.f21.body.bind (rg 4)).getD .skip) QQ ⟨#[.pointer (some ⟨S, 0, none⟩), .slice ra xl rc, u2, u3, u4, .int .u32 N, .int .i64 c, u7, u8, u9, u10, u11, u12, u13, u14, u15, u16, u17, u18, u19, u20, u21, u22, u23, u24, u25, u26, u27, u28, u29, u30, u31, u32, u33, u34, u35, u36, u37, u38, u39, u40, u41, u42, u43, u44, u45, u46, u47, u48, u49, u50, u51, u52, u53, u54, u55, u56, u57, u58, u59, u60, u61, u62, u63, u64, u65, u66, u67, u68, u69, u70, u71, u72, u73, u74, u75, u76, u77, u78, u79, u80, u81, u82, u83, u84, u85, u86, u87, u88, u89, u90, u91, u92, u93, u94, u95, u96, u97, u98, u99, u100, u101, u102, u103, u104, u105, u106, u107, u108, u109, u110, u111, u112, u113, u114, u115, u116, u117, u118, u119, u120, u121, u122, u123, u124, u125, u126, u127, u128, u129, u130, u131, u132, u133, u134, u135, u136, u137, u138, u139, u140, u141, u142, u143, u144, u145, u146, u147, u148, u149, u150, u151, u152, u153, u154, u155, u156, u157, u158, u159, u160, u161, u162, u163, u164, u165, u166, u167, u168, u169, u170], []⟩ w := by
  conv => arg 2; whnf
  obtain ⟨hc0, _, hc2, hfz, hS⟩ := (unhide HALL).1.cells
  have hbase : base ≤ w.heap.size := by have := (unhide HALL).1.hb; omega
  have hcvS : (Value.slice cva len ccap).ownBlock ≠ some S := by
    intro hh
    obtain ⟨_, hk⟩ := ownsRow_block (unhide HALL).2.2.1 (k := S) hh
    exact cells_ne hk (unhide HALL).1.blk (by decide) rfl
  obtain ⟨i27, hi27, hz0, hz1, hz2⟩ := info_parts Try.info27
  obtain ⟨K, hK0⟩ : ∃ K, K = 16 * size := ⟨_, rfl⟩
  have hK2 : (16 : Int) * (size : Int) = (K : Int) := by omega
  have hK3 : IntKind.i64.wrap ((16 : Int) * (size : Int)) = (K : Int) := by rw [hK2, IntKind.wrap_i64]; omega
  have hK4 : IntKind.i64.wrap (K : Int) = (K : Int) := by rw [IntKind.wrap_i64]; omega
  have hK5 : K ≤ 1000000000 := by omega
  have hmk := make_cap 0 K (by omega) hK5
  simp only [Int.natCast_zero] at hmk
  have HK := hide hK
  clear hK0 hK
  obtain ⟨n1, n2, n3, n4, n5⟩ := new_facts w S K (.slice cva len ccap) hc2 (hfz 2) hS
  refine wp_region_noPanic ?_
  go_region_law ((refine step_append_lies _ (by rfl) _ _ _ (by rfl) base 27 i27 _ 1 24 Try.underlying26 hi27 hz0 hz1 hz2 rfl (by omega) (.slice cva len ccap) hs.length hs (by rfl) ((((unhide HALL).2.2.1.alloc _).alloc _).drew) ⟨w.heap.size + 1, 0, none⟩ 1 1 [.slice (some ⟨w.heap.size, 0, none⟩) 0 K] (by rfl) (by rfl) (World.news_of_block (cs := #[.slice (some ⟨w.heap.size, 0, none⟩) 0 K]) (t := 27) (fr := (0, 0)) (by exact n1.out)) (by simp [Value.oneCell']) (by omega) (by unfold maxLen; omega) (by omega) (by exact Nat.le_trans hbase n5) (w.heap.size + 2) (by simp) ?_; intro gg cap1 w1 hown1 hgrow hat hltg; have s1 := (hgrow.cell_far ⟨S, 2, none⟩ n2.out (Ne.symm hcvS)).trans n3.out; have s3 := (hgrow.frozen_far ⟨S, 2, none⟩ n2.out (Ne.symm hcvS)).trans n4.out))
  all_goals exact unhide HK _ _ _ _ _ _ _ _ _ _ _ _ _ _ _ _ (push1 HALL (by rw [unhide HLEN]; exact (unhide HH).symm) rfl hbase hK5 (by omega) hgrow hown1 hat)


set_option maxRecDepth 100000 in
set_option maxHeartbeats 4000000 in
theorem reg6 {QQ : Exit → Act → World → Prop} {u2 u3 u4 u7 u8 u9 u10 u11 u12 u13 u14 u15 u16 u17 u18 u19 u20 u21 u22 u23 u24 u25 u26 u27 u28 u29 u30 u31 u32 u33 u34 u35 u36 u37 u38 u39 u40 u41 u42 u43 u44 u45 u46 u47 u48 u49 u50 u51 u52 u53 u54 u55 u56 u57 u58 u59 u60 u61 u62 u63 u64 u65 u66 u67 u68 u69 u70 u71 u72 u73 u74 u75 u76 u77 u78 u79 u80 u81 u82 u83 u84 u85 u86 u87 u88 u89 u90 u91 u92 u93 u94 u95 u96 u97 u98 u99 u100 u101 u102 u103 u104 u105 u106 u107 u108 u109 u110 u111 u112 u113 u114 u115 u116 u117 u118 u119 u120 u121 u122 u123 u124 u125 u126 u127 u128 u129 u130 u131 u132 u133 u134 u135 u136 u137 u138 u139 u140 u141 u142 u143 u144 u145 u146 u147 u148 u149 u150 u151 u152 u153 u154 u155 u156 u157 u158 u159 u160 u161 u162 u163 u164 u165 u166 u167 u168 u169 u170 : Value} {S c len ccap base size N : Nat} {cva ra : Option Addr} {xl rc : Nat} {hs : List Value} {ds : List (List Int)} {w : World}
    (HALL : Hid (Sto w base S size N (.slice cva len ccap) ds ∧ hs.length = ds.length ∧ w.ownsRow base 27 1 (.slice cva len ccap) hs.length hs ∧ (∀ (j : Nat) (h : Value) (d : List Int), hs[j]? = some h → ds[j]? = some d → Own w base h d) ∧ Apart hs))
    (HLEN : Hid (ds.length = len)) (HH : Hid (c = len)) (hlb : hs.length < 1000000) (hsz : size ≤ 1024)
    (hK : ∀ (x49 x50 x51 x52 x53 x54 x55 x56 x57 x58 x59 x60 x61 x62 x63 : Value) (w2 : World), (∃ (g cap : Nat) (D : List (List Int)) (d : List Int), Hid (D = grewD ds c ∧ D[c]? = some d ∧ d.length + size ≤ 4096 * size ∧ Sto w2 base S size N (.slice (some ⟨g, 0, none⟩) D.length cap) D ∧ Below base w w2)) → QQ .normal ⟨#[.pointer (some ⟨S, 0, none⟩), .slice ra xl rc, u2, u3, u4, .int .u32 N, .int .i64 c, u7, u8, u9, u10, u11, u12, u13, u14, u15, u16, u17, u18, u19, u20, u21, u22, u23, u24, u25, u26, u27, u28, u29, u30, u31, u32, u33, u34, u35, u36, u37, u38, u39, u40, u41, u42, u43, u44, u45, u46, u47, u48, x49, x50, x51, x52, x53, x54, x55, x56, x57, x58, x59, x60, x61, x62, x63, u64, u65, u66, u67, u68, u69, u70, u71, u72, u73, u74, u75, u76, u77, u78, u79, u80, u81, u82, u83, u84, u85, u86, u87, u88, u89, u90, u91, u92, u93, u94, u95, u96, u97, u98, u99, u100, u101, u102, u103, u104, u105, u106, u107, u108, u109, u110, u111, u112, u113, u114, u115, u116, u117, u118, u119, u120, u121, u122, u123, u124, u125, u126, u127, u128, u129, u130, u131, u132, u133, u134, u135, u136, u137, u138, u139, u140, u141, u142, u143, u144, u145, u146, u147, u148, u149, u150, u151, u152, u153, u154, u155, u156, u157, u158, u159, u160, u161, u162, u163, u164, u165, u166, u167, u168, u169, u170], []⟩ w2) :
    Code.wp Try.prog ((Try.f21.body.bind (rg 6)).getD .skip) QQ ⟨#[.pointer (some ⟨S, 0, none⟩), .slice ra xl rc, u2, u3, u4, .int .u32 N, .int .i64 c, u7, u8, u9, u10, u11, u12, u13, u14, u15, u16, u17, u18, u19, u20, u21, u22, u23, u24, u25, u26, u27, u28, u29, u30, u31, u32, u33, u34, u35, u36, u37, u38, u39, u40, u41, u42, u43, u44, u45, u46, u47, u48, u49, u50, u51, u52, u53, u54, u55, u56, u57, u58, u59, u60, u61, u62, u63, u64, u65, u66, u67, u68, u69, u70, u71, u72, u73, u74, u75, u76, u77, u78, u79, u80, u81, u82, u83, u84, u85, u86, u87, u88, u89, u90, u91, u92, u93, u94, u95, u96, u97, u98, u99, u100, u101, u102, u103, u104, u105, u106, u107, u108, u109, u110, u111, u112, u113, u114, u115, u116, u117, u118, u119, u120, u121, u122, u123, u124, u125, u126, u127, u128, u129, u130, u131, u132, u133, u134, u135, u136, u137, u138, u139, u140, u141, u142, u143, u144, u145, u146, u147, u148, u149, u150, u151, u152, u153, u154, u155, u156, u157, u158, u159, u160, u161, u162, u163, u164, u165, u166, u167, u168, u169, u170], []⟩ w := by
  conv => arg 2; whnf
  obtain ⟨hc0, _, hc2, hfz, hS⟩ := (unhide HALL).1.cells
  have hbase : base ≤ w.heap.size := by have := (unhide HALL).1.hb; omega
  have hcvS : (Value.slice cva len ccap).ownBlock ≠ some S := by
    intro hh
    obtain ⟨_, hk⟩ := ownsRow_block (unhide HALL).2.2.1 (k := S) hh
    exact cells_ne hk (unhide HALL).1.blk (by decide) rfl
  obtain ⟨i27, hi27, hz0, hz1, hz2⟩ := info_parts Try.info27
  obtain ⟨K, hK0⟩ : ∃ K, K = 4096 * size := ⟨_, rfl⟩
  have hK2 : (4096 : Int) * (size : Int) = (K : Int) := by omega
  have hK3 : IntKind.i64.wrap ((4096 : Int) * (size : Int)) = (K : Int) := by rw [hK2, IntKind.wrap_i64]; omega
  have hK4 : IntKind.i64.wrap (K : Int) = (K : Int) := by rw [IntKind.wrap_i64]; omega
  have hK5 : K ≤ 1000000000 := by omega
  have hmk := make_cap 0 K (by omega) hK5
  simp only [Int.natCast_zero] at hmk
  have HK := hide hK
  clear hK0 hK
  obtain ⟨n1, n2, n3, n4, n5⟩ := new_facts w S K (.slice cva len ccap) hc2 (hfz 2) hS
  refine wp_region_noPanic ?_
  go_region_law ((refine step_append_lies _ (by rfl) _ _ _ (by rfl) base 27 i27 _ 1 24 Try.underlying26 hi27 hz0 hz1 hz2 rfl (by omega) (.slice cva len ccap) hs.length hs (by rfl) ((((unhide HALL).2.2.1.alloc _).alloc _).drew) ⟨w.heap.size + 1, 0, none⟩ 1 1 [.slice (some ⟨w.heap.size, 0, none⟩) 0 K] (by rfl) (by rfl) (World.news_of_block (cs := #[.slice (some ⟨w.heap.size, 0, none⟩) 0 K]) (t := 27) (fr := (0, 0)) (by exact n1.out)) (by simp [Value.oneCell']) (by omega) (by unfold maxLen; omega) (by omega) (by exact Nat.le_trans hbase n5) (w.heap.size + 2) (by simp) ?_; intro gg cap1 w1 hown1 hgrow hat hltg; have s1 := (hgrow.cell_far ⟨S, 2, none⟩ n2.out (Ne.symm hcvS)).trans n3.out; have s3 := (hgrow.frozen_far ⟨S, 2, none⟩ n2.out (Ne.symm hcvS)).trans n4.out))
  all_goals exact unhide HK _ _ _ _ _ _ _ _ _ _ _ _ _ _ _ _ (push1 HALL (by rw [unhide HLEN]; exact (unhide HH).symm) rfl hbase hK5 (by omega) hgrow hown1 hat)


set_option maxRecDepth 100000 in
set_option maxHeartbeats 4000000 in
theorem reg7 {QQ : Exit → Act → World → Prop} {u2 u3 u4 u7 u8 u9 u10 u11 u12 u13 u14 u15 u16 u17 u18 u19 u20 u21 u22 u23 u24 u25 u26 u27 u28 u29 u30 u31 u32 u33 u34 u35 u36 u37 u38 u39 u40 u41 u42 u43 u44 u45 u46 u47 u48 u49 u50 u51 u52 u53 u54 u55 u56 u57 u58 u59 u60 u61 u62 u63 u64 u65 u66 u67 u68 u69 u70 u71 u72 u73 u74 u75 u76 u77 u78 u79 u80 u81 u82 u83 u84 u85 u86 u87 u88 u89 u90 u91 u92 u93 u94 u95 u96 u97 u98 u99 u100 u101 u102 u103 u104 u105 u106 u107 u108 u109 u110 u111 u112 u113 u114 u115 u116 u117 u118 u119 u120 u121 u122 u123 u124 u125 u126 u127 u128 u129 u130 u131 u132 u133 u134 u135 u136 u137 u138 u139 u140 u141 u142 u143 u144 u145 u146 u147 u148 u149 u150 u151 u152 u153 u154 u155 u156 u157 u158 u159 u160 u161 u162 u163 u164 u165 u166 u167 u168 u169 u170 : Value} {S c len ccap base size N g cp : Nat} {ao ra : Option Addr} {xl rc : Nat} {d : List Int} {ds : List (List Int)} {w : World}
    (HSTO : Hid (Sto w base S size N (.slice (some ⟨g, 0, none⟩) len ccap) ds)) (hc0 : w.cell? ⟨S, 0, none⟩ = some (.int .i64 size)) (hc2 : w.cell? ⟨S, 2, none⟩ = some (.slice (some ⟨g, 0, none⟩) len ccap)) (q4 : w.cell? ⟨g, c, none⟩ = some (.slice ao d.length cp))
    (hcl : c < len) (hsz : size ≤ 1024) (hd22 : d.length ≤ 4194304)
    (hK : ∀ (x65 x66 x67 x68 x69 x70 x71 x72 x73 x74 x75 x76 x77 x78 x79 x80 x81 x82 x83 x84 x85 x86 : Value) (w2 : World), Hid (Sto w2 base S size N (.slice (some ⟨g, 0, none⟩) len ccap) ds ∧ Below base w w2 ∧ w2.heap = w.heap) → QQ .normal ⟨#[.pointer (some ⟨S, 0, none⟩), .slice ra xl rc, u2, u3, u4, .int .u32 N, .int .i64 c, u7, u8, u9, u10, u11, u12, u13, u14, u15, u16, u17, u18, u19, u20, u21, u22, u23, u24, u25, u26, u27, u28, u29, u30, u31, u32, u33, u34, u35, u36, u37, u38, u39, u40, u41, u42, u43, u44, u45, u46, u47, u48, u49, u50, u51, u52, u53, u54, u55, u56, u57, u58, u59, u60, u61, u62, u63, .bool (decide ((cp : Int) < (d.length : Int) + (size : Int))), x65, x66, x67, x68, x69, x70, x71, x72, x73, x74, x75, x76, x77, x78, x79, x80, x81, x82, x83, x84, x85, x86, u87, u88, u89, u90, u91, u92, u93, u94, u95, u96, u97, u98, u99, u100, u101, u102, u103, u104, u105, u106, u107, u108, u109, u110, u111, u112, u113, u114, u115, u116, u117, u118, u119, u120, u121, u122, u123, u124, u125, u126, u127, u128, u129, u130, u131, u132, u133, u134, u135, u136, u137, u138, u139, u140, u141, u142, u143, u144, u145, u146, u147, u148, u149, u150, u151, u152, u153, u154, u155, u156, u157, u158, u159, u160, u161, u162, u163, u164, u165, u166, u167, u168, u169, u170], []⟩ w2) :
    Code.wp Try.prog ((Try.f21.body.bind (rg 7)).getD .skip) QQ ⟨#[.pointer (some ⟨S, 0, none⟩), .slice ra xl rc, u2, u3, u4, .int .u32 N, .int .i64 c, u7, u8, u9, u10, u11, u12, u13, u14, u15, u16, u17, u18, u19, u20, u21, u22, u23, u24, u25, u26, u27, u28, u29, u30, u31, u32, u33, u34, u35, u36, u37, u38, u39, u40, u41, u42, u43, u44, u45, u46, u47, u48, u49, u50, u51, u52, u53, u54, u55, u56, u57, u58, u59, u60, u61, u62, u63, u64, u65, u66, u67, u68, u69, u70, u71, u72, u73, u74, u75, u76, u77, u78, u79, u80, u81, u82, u83, u84, u85, u86, u87, u88, u89, u90, u91, u92, u93, u94, u95, u96, u97, u98, u99, u100, u101, u102, u103, u104, u105, u106, u107, u108, u109, u110, u111, u112, u113, u114, u115, u116, u117, u118, u119, u120, u121, u122, u123, u124, u125, u126, u127, u128, u129, u130, u131, u132, u133, u134, u135, u136, u137, u138, u139, u140, u141, u142, u143, u144, u145, u146, u147, u148, u149, u150, u151, u152, u153, u154, u155, u156, u157, u158, u159, u160, u161, u162, u163, u164, u165, u166, u167, u168, u169, u170], []⟩ w := by
  conv => arg 2; whnf
  have hc0' : (0 : Int) ≤ (c : Int) := by omega
  have hc1' : (c : Int) < (len : Int) := by omega
  have hwa : IntKind.i64.wrap ((d.length : Int) + (size : Int)) = (d.length : Int) + (size : Int) := by rw [IntKind.wrap_i64]; omega
  have HK := hide hK
  clear hK
  go_quiet (fail)
  exact unhide HK _ _ _ _ _ _ _ _ _ _ _ _ _ _ _ _ _ _ _ _ _ _ _ ⟨⟨(unhide HSTO).blk, (unhide HSTO).hb, (unhide HSTO).st⟩, ⟨rfl, rfl, rfl, Nat.le_refl _, fun _ _ => rfl⟩, rfl⟩


set_option maxRecDepth 100000 in
set_option maxHeartbeats 4000000 in
theorem reg8 {QQ : Exit → Act → World → Prop} {u2 u3 u4 u5 u7 u8 u9 u10 u11 u12 u13 u14 u15 u16 u17 u18 u19 u20 u21 u22 u23 u24 u25 u26 u27 u28 u29 u30 u31 u32 u33 u34 u35 u36 u37 u38 u39 u40 u41 u42 u43 u44 u45 u46 u47 u48 u49 u50 u51 u52 u53 u54 u55 u56 u57 u58 u59 u60 u61 u62 u63 u64 u65 u66 u67 u68 u69 u70 u71 u72 u73 u74 u75 u76 u77 u78 u79 u80 u81 u82 u83 u84 u85 u86 u87 u88 u89 u90 u91 u92 u93 u94 u95 u96 u97 u98 u99 u100 u101 u102 u103 u104 u105 u106 u107 u108 u109 u110 u111 u112 u113 u114 u115 u116 u117 u118 u119 u120 u121 u122 u123 u124 u125 u126 u127 u128 u129 u130 u131 u132 u133 u134 u135 u136 u137 u138 u139 u140 u141 u142 u143 u144 u145 u146 u147 u148 u149 u150 u151 u152 u153 u154 u155 u156 u157 u158 u159 u160 u161 u162 u163 u164 u165 u166 u167 u168 u169 u170 : Value} {S c len ccap size g cp K : Nat} {ao ra : Option Addr} {xl rc : Nat} {d : List Int} {wc : World}
    (r0 : wc.cell? ⟨S, 0, none⟩ = some (.int .i64 size)) (r2 : wc.cell? ⟨S, 2, none⟩ = some (.slice (some ⟨g, 0, none⟩) len ccap)) (r4 : wc.cell? ⟨g, c, none⟩ = some (.slice ao d.length cp))
    (hcl : c < len) (hsz : size ≤ 1024) (hcp : cp ≤ 8388608) (hKK : K = min (2 * cp) (4096 * size)) (hK1 : d.length ≤ K)
    (hK : ∀ (x87 x88 x89 x90 x91 x92 x93 x94 x95 x96 x97 x98 x99 x100 x101 x102 x103 x104 x105 x106 x107 x108 x109 x110 : Value) (w2 : World), w2 = (wc.alloc (.cells (madeCells #[.int .u8 0] K) 5)).drew → QQ .normal ⟨#[.pointer (some ⟨S, 0, none⟩), .slice ra xl rc, u2, u3, u4, u5, .int .i64 c, .slice (some ⟨wc.heap.size, 0, none⟩) d.length K, u8, u9, u10, u11, u12, u13, u14, u15, u16, u17, u18, u19, u20, u21, u22, u23, u24, u25, u26, u27, u28, u29, u30, u31, u32, u33, u34, u35, u36, u37, u38, u39, u40, u41, u42, u43, u44, u45, u46, u47, u48, u49, u50, u51, u52, u53, u54, u55, u56, u57, u58, u59, u60, u61, u62, u63, u64, u65, u66, u67, u68, u69, u70, u71, u72, u73, u74, u75, u76, u77, u78, u79, u80, u81, u82, u83, u84, u85, u86, x87, x88, x89, x90, x91, x92, x93, x94, x95, x96, x97, x98, x99, x100, x101, x102, x103, x104, x105, x106, x107, x108, x109, x110, u111, u112, u113, u114, u115, u116, u117, u118, u119, u120, u121, u122, u123, u124, u125, u126, u127, u128, u129, u130, u131, u132, u133, u134, u135, u136, u137, u138, u139, u140, u141, u142, u143, u144, u145, u146, u147, u148, u149, u150, u151, u152, u153, u154, u155, u156, u157, u158, u159, u160, u161, u162, u163, u164, u165, u166, u167, u168, u169, u170], []⟩ w2) :
    Code.wp Try.prog ((Try.f21.body.bind (rg 8)).getD .skip) QQ ⟨#[.pointer (some ⟨S, 0, none⟩), .slice ra xl rc, u2, u3, u4, u5, .int .i64 c, u7, u8, u9, u10, u11, u12, u13, u14, u15, u16, u17, u18, u19, u20, u21, u22, u23, u24, u25, u26, u27, u28, u29, u30, u31, u32, u33, u34, u35, u36, u37, u38, u39, u40, u41, u42, u43, u44, u45, u46, u47, u48, u49, u50, u51, u52, u53, u54, u55, u56, u57, u58, u59, u60, u61, u62, u63, u64, u65, u66, u67, u68, u69, u70, u71, u72, u73, u74, u75, u76, u77, u78, u79, u80, u81, u82, u83, u84, u85, u86, u87, u88, u89, u90, u91, u92, u93, u94, u95, u96, u97, u98, u99, u100, u101, u102, u103, u104, u105, u106, u107, u108, u109, u110, u111, u112, u113, u114, u115, u116, u117, u118, u119, u120, u121, u122, u123, u124, u125, u126, u127, u128, u129, u130, u131, u132, u133, u134, u135, u136, u137, u138, u139, u140, u141, u142, u143, u144, u145, u146, u147, u148, u149, u150, u151, u152, u153, u154, u155, u156, u157, u158, u159, u160, u161, u162, u163, u164, u165, u166, u167, u168, u169, u170], []⟩ wc := by
  conv => arg 2; whnf
  have hc0' : (0 : Int) ≤ (c : Int) := by omega
  have hc1' : (c : Int) < (len : Int) := by omega
  have hK5 : K ≤ 1000000000 := by omega
  have hw1 : IntKind.i64.wrap ((2 : Int) * (cp : Int)) = (2 : Int) * (cp : Int) := by rw [IntKind.wrap_i64]; omega
  have hw2 : IntKind.i64.wrap ((4096 : Int) * (size : Int)) = (4096 : Int) * (size : Int) := by rw [IntKind.wrap_i64]; omega
  have hmk := make_cap d.length K hK1 hK5
  have hmin : (if (4096 : Int) * (size : Int) < (2 : Int) * (cp : Int) then (4096 : Int) * (size : Int) else (2 : Int) * (cp : Int)) = (K : Int) := by split <;> omega
  have hSl := World.block_lt_of_cell? wc _ r0
  have hgl := World.block_lt_of_cell? wc _ r4
  have HK := hide hK
  clear hK hKK
  go_region_held3 (fun w' => w'.cell? ⟨S, 2, none⟩ = some (.slice (some ⟨g, 0, none⟩) len ccap) ∧ w'.cell? ⟨g, c, none⟩ = some (.slice ao d.length cp) ∧ w'.cell? ⟨S, 0, none⟩ = some (.int .i64 size)) (go_keep) (fail)
  exact unhide HK _ _ _ _ _ _ _ _ _ _ _ _ _ _ _ _ _ _ _ _ _ _ _ _ _ rfl


set_option maxRecDepth 100000 in
set_option maxHeartbeats 4000000 in
theorem reg11 {QQ : Exit → Act → World → Prop} {u2 u3 u4 u5 u7 u8 u9 u10 u11 u12 u13 u14 u15 u16 u17 u18 u19 u20 u21 u22 u23 u24 u25 u26 u27 u28 u29 u30 u31 u32 u33 u34 u35 u36 u37 u38 u39 u40 u41 u42 u43 u44 u45 u46 u47 u48 u49 u50 u51 u52 u53 u54 u55 u56 u57 u58 u59 u60 u61 u62 u63 u64 u65 u66 u67 u68 u69 u70 u71 u72 u73 u74 u75 u76 u77 u78 u79 u80 u81 u82 u83 u84 u85 u86 u87 u88 u89 u90 u91 u92 u93 u94 u95 u96 u97 u98 u99 u100 u101 u102 u103 u104 u105 u106 u107 u108 u109 u110 u111 u112 u113 u114 u115 u116 u117 u118 u119 u120 u121 u122 u123 u124 u125 u126 u127 u128 u129 u130 u131 u132 u133 u134 u135 u136 u137 u138 u139 u140 u141 u142 u143 u144 u145 u146 u147 u148 u149 u150 u151 u152 u153 u154 u155 u156 u157 u158 u159 u160 u161 u162 u163 u164 u165 u166 u167 u168 u169 u170 : Value} {S c len cap base size N g : Nat} {ra : Option Addr} {rc : Nat} {xs d : List Int} {D : List (List Int)} {w wc : World}
    (HSTO2 : Hid (Sto wc base S size N (.slice (some ⟨g, 0, none⟩) D.length cap) D)) (HLEN : Hid (D.length = len)) (hDd : D[c]? = some d) (hrd : Rd wc (.slice ra xs.length rc) xs) (hbel : Below base w wc)
    (hsz : size ≤ 1024) (hx : xs.length ≤ size) (hd22 : d.length ≤ 4194304)
    (hK : ∀ (x127 x128 x129 x130 x131 x132 x133 x134 x135 x136 x137 x138 x139 x140 x141 : Value) (w2 : World), Hid (Sto w2 base S size N (.slice (some ⟨g, 0, none⟩) len cap) (D.set c (d ++ xs)) ∧ Below base w w2) → QQ .normal ⟨#[.pointer (some ⟨S, 0, none⟩), .slice ra xs.length rc, u2, u3, u4, u5, .int .i64 c, u7, u8, u9, u10, u11, u12, u13, u14, u15, u16, u17, u18, u19, u20, u21, u22, u23, u24, u25, u26, u27, u28, u29, u30, u31, u32, u33, u34, u35, u36, u37, u38, u39, u40, u41, u42, u43, u44, u45, u46, u47, u48, u49, u50, u51, u52, u53, u54, u55, u56, u57, u58, u59, u60, u61, u62, u63, u64, u65, u66, u67, u68, u69, u70, u71, u72, u73, u74, u75, u76, u77, u78, u79, u80, u81, u82, u83, u84, u85, u86, u87, u88, u89, u90, u91, u92, u93, u94, u95, u96, u97, u98, u99, u100, u101, u102, u103, u104, u105, u106, u107, u108, u109, u110, u111, u112, u113, u114, u115, u116, u117, u118, u119, u120, u121, u122, u123, u124, u125, u126, x127, x128, x129, x130, x131, x132, x133, x134, x135, x136, x137, x138, x139, x140, x141, u142, u143, u144, u145, u146, u147, u148, u149, u150, u151, u152, u153, u154, u155, u156, u157, u158, u159, u160, u161, u162, u163, u164, u165, u166, u167, u168, u169, u170], []⟩ w2) :
    Code.wp Try.prog ((Try.f21.body.bind (rg 11)).getD .skip) QQ ⟨#[.pointer (some ⟨S, 0, none⟩), .slice ra xs.length rc, u2, u3, u4, u5, .int .i64 c, u7, u8, u9, u10, u11, u12, u13, u14, u15, u16, u17, u18, u19, u20, u21, u22, u23, u24, u25, u26, u27, u28, u29, u30, u31, u32, u33, u34, u35, u36, u37, u38, u39, u40, u41, u42, u43, u44, u45, u46, u47, u48, u49, u50, u51, u52, u53, u54, u55, u56, u57, u58, u59, u60, u61, u62, u63, u64, u65, u66, u67, u68, u69, u70, u71, u72, u73, u74, u75, u76, u77, u78, u79, u80, u81, u82, u83, u84, u85, u86, u87, u88, u89, u90, u91, u92, u93, u94, u95, u96, u97, u98, u99, u100, u101, u102, u103, u104, u105, u106, u107, u108, u109, u110, u111, u112, u113, u114, u115, u116, u117, u118, u119, u120, u121, u122, u123, u124, u125, u126, u127, u128, u129, u130, u131, u132, u133, u134, u135, u136, u137, u138, u139, u140, u141, u142, u143, u144, u145, u146, u147, u148, u149, u150, u151, u152, u153, u154, u155, u156, u157, u158, u159, u160, u161, u162, u163, u164, u165, u166, u167, u168, u169, u170], []⟩ wc := by
  conv => arg 2; whnf
  have hsto := unhide HSTO2
  obtain ⟨hlt, ao, cp, q1, q2, q3, q4, q5, q6, q7, q8⟩ := hsto.at' hDd
  obtain ⟨p0, p1, p2, p3, p4⟩ := hsto.cells
  have hc0' : (0 : Int) ≤ (c : Int) := by omega
  have hc1' : (c : Int) < (D.length : Int) := by omega
  have hbase : base ≤ wc.heap.size := by have := hsto.hb; omega
  have HOWN := hide q6
  rw [unhide HLEN] at p2 hc1' hlt
  have HRD := hide hrd
  have HBEL := hide hbel
  have HO : Hid (∀ k, (Value.slice ao d.length cp).ownBlock = some k → base ≤ k) := fun k hk => ((unhide HOWN).2.lt k hk).1
  have HK := hide hK
  clear hDd q6 hrd hsto hbel hK
  refine wp_region_noPanic ?_
  go_region_law ((refine step_append_bytes _ (by rfl) _ _ (by rfl) base (.slice ao d.length cp) (.slice ra xs.length rc) d xs (by rfl) (by rfl) (unhide HOWN) (unhide HRD) (by omega) (by first | exact hbase | simpa using hbase) ?_; intro ao1 cap1 w1 hown1 hgrow hat1; have s1 := hgrow.cell_far ⟨S, 2, none⟩ p4 (Ne.symm q7); have s2 := hgrow.cell_far ⟨g, c, none⟩ q2 (Ne.symm q8); have s3 := hgrow.frozen_far ⟨g, c, none⟩ q2 (Ne.symm q8)))
  all_goals exact unhide HK _ _ _ _ _ _ _ _ _ _ _ _ _ _ _ _ (put1 HSTO2 HLEN hlt q1 q4 (unhide HO) hbase HBEL hgrow hown1 hat1 (by simp))


end Go.Proofs.Qxb6603163a
