/- Regions of (*recordStore).add that draw their order, each by itself. -/
import Derived.Test.Qxb6603163aSto
import Derived.Test.Qxb6603163aPlain
import Derived.Test.Qxb6603163aAddA
import Derived.BigQuiet
import Derived.Deep.QuietTactic
import Derived.Deep.RegionHeld3
import Derived.Deep.DrawnRows
namespace Go.Proofs.Qxb6603163a
open Go.ChangeShapes Go.WideShapes Go.ChangeAt Go.RowKit
attribute [local go_sem ↓] Go.wp_at_zero Go.wp_at_succ

set_option maxRecDepth 100000 in
set_option maxHeartbeats 4000000 in
theorem reg12 {QQ : Exit → Act → World → Prop} {u2 u3 u4 u5 u7 u8 u9 u10 u11 u12 u13 u14 u15 u16 u17 u18 u19 u20 u21 u22 u23 u24 u25 u26 u27 u28 u29 u30 u31 u32 u33 u34 u35 u36 u37 u38 u39 u40 u41 u42 u43 u44 u45 u46 u47 u48 u49 u50 u51 u52 u53 u54 u55 u56 u57 u58 u59 u60 u61 u62 u63 u64 u65 u66 u67 u68 u69 u70 u71 u72 u73 u74 u75 u76 u77 u78 u79 u80 u81 u82 u83 u84 u85 u86 u87 u88 u89 u90 u91 u92 u93 u94 u95 u96 u97 u98 u99 u100 u101 u102 u103 u104 u105 u106 u107 u108 u109 u110 u111 u112 u113 u114 u115 u116 u117 u118 u119 u120 u121 u122 u123 u124 u125 u126 u127 u128 u129 u130 u131 u132 u133 u134 u135 u136 u137 u138 u139 u140 u141 u142 u143 u144 u145 u146 u147 u148 u149 u150 u151 u152 u153 u154 u155 u156 u157 u158 u159 u160 u161 u162 u163 u164 u165 u166 u167 u168 u169 u170 : Value} {S c len cap base size N g m : Nat} {ra : Option Addr} {rc xl : Nat} {E : List Int} {D : List (List Int)} {w wc : World}
    (HSTO2 : Hid (Sto wc base S size N (.slice (some ⟨g, 0, none⟩) D.length cap) D)) (HLEN : Hid (D.length = len)) (hDd : D[c]? = some E) (hbel : Below base w wc)
    (hsz : size ≤ 1024) (hm : xl + m = size) (hxl : E.length + size ≤ 1000000000)
    (hK : ∀ (x142 x143 x144 x145 x146 x147 x148 x149 x150 x151 x152 x153 x154 x155 x156 x157 x158 x159 x160 x161 x162 : Value) (w2 : World), Hid (Sto w2 base S size N (.slice (some ⟨g, 0, none⟩) len cap) (D.set c (E ++ List.replicate m 0)) ∧ Below base w w2) → QQ .normal ⟨#[.pointer (some ⟨S, 0, none⟩), .slice ra xl rc, u2, u3, u4, u5, .int .i64 c, u7, u8, u9, u10, u11, u12, u13, u14, u15, u16, u17, u18, u19, u20, u21, u22, u23, u24, u25, u26, u27, u28, u29, u30, u31, u32, u33, u34, u35, u36, u37, u38, u39, u40, u41, u42, u43, u44, u45, u46, u47, u48, u49, u50, u51, u52, u53, u54, u55, u56, u57, u58, u59, u60, u61, u62, u63, u64, u65, u66, u67, u68, u69, u70, u71, u72, u73, u74, u75, u76, u77, u78, u79, u80, u81, u82, u83, u84, u85, u86, u87, u88, u89, u90, u91, u92, u93, u94, u95, u96, u97, u98, u99, u100, u101, u102, u103, u104, u105, u106, u107, u108, u109, u110, u111, u112, u113, u114, u115, u116, u117, u118, u119, u120, u121, u122, u123, u124, u125, u126, u127, u128, u129, u130, u131, u132, u133, u134, u135, u136, u137, u138, u139, u140, u141, x142, x143, x144, x145, x146, x147, x148, x149, x150, x151, x152, x153, x154, x155, x156, x157, x158, x159, x160, x161, x162, u163, u164, u165, u166, u167, u168, u169, u170], []⟩ w2) :
    Code.wp Try.prog ((Try.f21.body.bind (rg 12)).getD .skip) QQ ⟨#[.pointer (some ⟨S, 0, none⟩), .slice ra xl rc, u2, u3, u4, u5, .int .i64 c, u7, u8, u9, u10, u11, u12, u13, u14, u15, u16, u17, u18, u19, u20, u21, u22, u23, u24, u25, u26, u27, u28, u29, u30, u31, u32, u33, u34, u35, u36, u37, u38, u39, u40, u41, u42, u43, u44, u45, u46, u47, u48, u49, u50, u51, u52, u53, u54, u55, u56, u57, u58, u59, u60, u61, u62, u63, u64, u65, u66, u67, u68, u69, u70, u71, u72, u73, u74, u75, u76, u77, u78, u79, u80, u81, u82, u83, u84, u85, u86, u87, u88, u89, u90, u91, u92, u93, u94, u95, u96, u97, u98, u99, u100, u101, u102, u103, u104, u105, u106, u107, u108, u109, u110, u111, u112, u113, u114, u115, u116, u117, u118, u119, u120, u121, u122, u123, u124, u125, u126, u127, u128, u129, u130, u131, u132, u133, u134, u135, u136, u137, u138, u139, u140, u141, u142, u143, u144, u145, u146, u147, u148, u149, u150, u151, u152, u153, u154, u155, u156, u157, u158, u159, u160, u161, u162, u163, u164, u165, u166, u167, u168, u169, u170], []⟩ wc := by
  conv => arg 2; whnf
  have hsto := unhide HSTO2
  obtain ⟨hlt, ao, cp, q1, q2, q3, q4, q5, q6, q7, q8⟩ := hsto.at' hDd
  obtain ⟨p0, p1, p2, p3, p4⟩ := hsto.cells
  have hc0' : (0 : Int) ≤ (c : Int) := by omega
  have hc1' : (c : Int) < (D.length : Int) := by omega
  have hbase : base ≤ wc.heap.size := by have := hsto.hb; omega
  have HOWN := hide q6
  rw [unhide HLEN] at p2 hc1' hlt
  have HBEL := hide hbel
  have HO : Hid (∀ k, (Value.slice ao E.length cp).ownBlock = some k → base ≤ k) := fun k hk => ((unhide HOWN).2.lt k hk).1
  have hzz : (size : Int) - (xl : Int) = (m : Int) := by omega
  have hwm : IntKind.i64.wrap (m : Int) = (m : Int) := by rw [IntKind.wrap_i64]; omega
  have hwm2 : IntKind.i64.wrap ((size : Int) - (xl : Int)) = (m : Int) := by rw [hzz]; exact hwm
  have hm2 : m ≤ size := by omega
  have HK := hide hK
  clear hDd q6 hsto hbel hK hm
  refine wp_region_noPanic ?_
  go_region_law ((refine step_append_zeros _ (by rfl) _ _ (by rfl) base (.slice ao E.length cp) E m (by rfl) (by rfl) (unhide HOWN) (by omega) (by first | exact hbase | simpa using hbase) ?_; intro ao1 cap1 w1 hown1 hgrow hat1; have s1 := hgrow.cell_far ⟨S, 2, none⟩ p4 (Ne.symm q7); have s2 := hgrow.cell_far ⟨g, c, none⟩ q2 (Ne.symm q8); have s3 := hgrow.frozen_far ⟨g, c, none⟩ q2 (Ne.symm q8)))
  all_goals exact unhide HK _ _ _ _ _ _ _ _ _ _ _ _ _ _ _ _ _ _ _ _ _ _ (put1 HSTO2 HLEN hlt q1 q4 (unhide HO) hbase HBEL hgrow hown1 hat1 (by simp))


end Go.Proofs.Qxb6603163a
