/- The law's walk: the terms reversed. -/
import Derived.Test.Qxb6615124aRows
import Derived.Test.Qxb6615124aLeafA
import Derived.Test.Qxb6615124aLeafB
import Derived.Test.Qxb6615124aLeafC
import Derived.Test.Qxb6615124aLaw
import Derived.Test.Qxb6615124aCopy
import Derived.Test.Qxb6615124aEnv
import Derived.Test.Qxb6615124aRestD
import Derived.WalkKit
import Derived.WalkSpells
import Derived.WalkLawsBesides
import Derived.Deep.LoopGhost
import Derived.Deep.OwnRows
import Derived.Deep.QuietTactic
import Derived.BigQuiet
import Derived.Deep.Cut
import Derived.Deep.CutRange
import Derived.Deep.CutBlock
import Derived.Deep.DeepCutAuto
import Derived.Deep.DeepMust
namespace Go.Proofs.Qxb6615124a
open Go.RowKit

set_option maxRecDepth 100000 in
set_option maxHeartbeats 2000000 in
theorem rest_c (n nU nT kk ub ob cb co cC : Nat) (U : Nat → Bool) (On : Nat → Nat) (A : Nat → Option Addr) (L C RB RO : Nat → Nat) (Zn : Nat → Nat → Nat) (t2 f2 : Option Addr) (tb2 tx2 c2 fb2 fo2 d2 : Nat) (Tn : Nat → Nat) (F : Nat → Bool) (g1 g2 pp : Nat) (w w1 : World) (hb1 : Below w.heap.size w w1) (hn : n ≤ 65536) (bU : nU ≤ 1048576) (bU1 : 1 ≤ nU) (bT : nT ≤ 1048576) (hkk : kk < n) (hI : Inp w1 n nU ub ob cb co U On A L C RB RO Zn) (hT : Trs w1 n nT t2 tb2 tx2 c2 f2 fb2 fo2 d2 Tn F) (hpp : pp ≤ nT) (hk : ∀ i, i < nT → Tn i ≠ kk) (h1 : ∀ i, i < nT + 1 → w1.cell? ⟨g1, 0 + i, none⟩ = some (.int .i64 ((ins pp kk Tn i : Nat) : Int))) (h2 : ∀ i, i < nT + 1 → w1.cell? ⟨g2, 0 + i, none⟩ = some (.bool (ins pp true F i)))
    (u7 u8 u9 u10 u11 u12 u13 u14 u15 u16 u17 u18 u19 u20 u21 u25 u26 u27 u28 u29 u30 u31 u32 u33 u34 u35 u36 u37 u38 u39 u40 u41 u42 u43 u44 u45 u46 u47 u48 u49 u50 u51 u52 u53 u54 u55 u56 u57 u58 u59 u60 u61 u62 u63 u64 u65 u66 u67 u68 u69 u70 u71 u72 u73 u74 u75 u76 u77 u78 u79 u80 u81 u82 u83 u84 u85 u86 u87 u88 u89 u90 u91 u92 u93 u94 u95 u96 u97 u98 u99 u100 u101 u102 u103 u104 u105 u106 u107 u108 u109 u110 u111 u112 u113 u114 u115 u116 u117 u118 u119 u120 u121 u122 u123 u124 u125 u126 u127 u128 u129 u130 u131 u132 u133 u134 u135 u136 u137 u138 u139 u140 u141 u142 u143 u144 u145 u146 u147 u148 u149 u150 u151 u152 u153 u154 u155 u156 u157 u158 u159 u160 u161 u162 u163 u164 u165 u166 u167 u168 u169 u170 u171 u172 u173 u174 u175 u176 u177 u178 u179 u180 u181 u182 u183 u184 u185 u186 u187 u188 u189 u190 u191 u192 u193 u194 u195 u196 u197 u198 u199 u200 u201 u202 u203 u204 u205 u206 u207 u208 u209 u210 u211 u212 u213 u214 u215 u216 u217 u218 u219 u220 u221 u222 u223 u224 u225 u226 u227 u228 u229 u230 u231 u232 u233 u234 u235 u236 u237 u238 u239 u240 u241 u242 u243 u244 u245 u246 u247 u248 u249 u250 u251 u252 u253 u254 u255 u256 u257 u258 u259 u260 : Value) :
    Code.wp Try.prog (dropS 21 (Try.f3.body.getD .skip)) (bodyPost Try.prog Try.f3 (Fine w)) ⟨#[.int .i64 n, .slice (some ⟨ub, 0, none⟩) nU nU, .slice (some ⟨ob, 0, none⟩) nU nU, .slice (some ⟨cb, co, none⟩) nU cC, .slice t2 nT c2, .slice f2 nT d2, .int .i64 kk, u7, u8, u9, u10, u11, u12, u13, u14, u15, u16, u17, u18, u19, u20, u21, .int .i64 nT, .slice (some ⟨g1, 0, none⟩) (nT + 1) (nT + 1), .slice (some ⟨g2, 0, none⟩) (nT + 1) (nT + 1), u25, u26, u27, u28, u29, u30, u31, u32, u33, u34, u35, u36, u37, u38, u39, u40, u41, u42, u43, u44, u45, u46, u47, u48, u49, u50, u51, u52, u53, u54, u55, u56, u57, u58, u59, u60, u61, u62, u63, u64, u65, u66, u67, u68, u69, u70, u71, u72, u73, u74, u75, u76, u77, u78, u79, u80, u81, u82, u83, u84, u85, u86, u87, u88, u89, u90, u91, u92, u93, u94, u95, u96, u97, u98, u99, u100, u101, u102, u103, u104, u105, u106, u107, u108, u109, u110, u111, u112, u113, u114, u115, u116, u117, u118, u119, u120, u121, u122, u123, u124, u125, u126, u127, u128, u129, u130, u131, u132, u133, u134, u135, u136, u137, u138, u139, u140, u141, u142, u143, u144, u145, u146, u147, u148, u149, u150, u151, u152, u153, u154, u155, u156, u157, u158, u159, u160, u161, u162, u163, u164, u165, u166, u167, u168, u169, u170, u171, u172, u173, u174, u175, u176, u177, u178, u179, u180, u181, u182, u183, u184, u185, u186, u187, u188, u189, u190, u191, u192, u193, u194, u195, u196, u197, u198, u199, u200, u201, u202, u203, u204, u205, u206, u207, u208, u209, u210, u211, u212, u213, u214, u215, u216, u217, u218, u219, u220, u221, u222, u223, u224, u225, u226, u227, u228, u229, u230, u231, u232, u233, u234, u235, u236, u237, u238, u239, u240, u241, u242, u243, u244, u245, u246, u247, u248, u249, u250, u251, u252, u253, u254, u255, u256, u257, u258, u259, u260], []⟩ w1 := by
  conv => arg 2; whnf
  have HI : Hid (Inp w1 n nU ub ob cb co U On A L C RB RO Zn) := hI
  have HT : Hid (Trs w1 n nT t2 tb2 tx2 c2 f2 fb2 fo2 d2 Tn F) := hT
  have HK : Hid ((∀ i, i < nT → Tn i ≠ kk) ∧ (∀ i, i < nT + 1 → w1.cell? ⟨g1, 0 + i, none⟩ = some (.int .i64 ((ins pp kk Tn i : Nat) : Int))) ∧ (∀ i, i < nT + 1 → w1.cell? ⟨g2, 0 + i, none⟩ = some (.bool (ins pp true F i)))) := ⟨hk, h1, h2⟩
  clear hI hT hk h1 h2
  have hmk1 := run_make_row' (P := Try.prog) 23 3 (.int .i64 0) 8 Try.underlying23 Try.info3 rfl .i64 .i64 nT (by omega) (by omega)
  have hmk2 := run_make_row' (P := Try.prog) 22 4 (.bool false) 1 Try.underlying22 Try.info4 rfl .i64 .i64 nT (by omega) (by omega)
  go_upto_block 2 with fail
  clear hmk1 hmk2
  have hs0 := rev_start w1 nT Tn F
  go_cut [27] (fun s27 wx => Rev w1 nT Tn F nT wx)
  case first =>
    go_wp2_with fail
    go_loopg [27] nT (fun g s27 wx => ∃ r : Nat, r ≤ nT ∧ g = nT - r ∧ s27 = .int .i64 r ∧ Rev w1 nT Tn F r wx)
    case atStart => exact ⟨0, Nat.zero_le _, rfl, rfl, hs0⟩
    case round =>
      obtain ⟨r, hr, rfl, rfl, hR⟩ := hrel
      clear hs0
      by_cases hlt : r < nT
      · have hT' := HT.out.later hR.below
        obtain rfl := hT'.ta (by omega)
        obtain rfl := hT'.fa (by omega)
        have x1 : wr.cell? ⟨tb2, tx2 + r, none⟩ = some (.int .i64 (Tn r)) := hT'.tc r hlt
        have x2 : wr.cell? ⟨fb2, fo2 + r, none⟩ = some (.bool (F r)) := hT'.fc r hlt
        have x3 := hR.rc.cell (i := nT - 1 - r) (by omega)
        have x4 := hR.rc.frozen (nT - 1 - r)
        have x5 : ∀ v, (wr.setCell ⟨w1.heap.size, nT - 1 - r, none⟩ v).cell? ⟨w1.heap.size + 1, nT - 1 - r, none⟩ = some (if nT ≤ (nT - 1 - r) + r then .bool (F (nT - 1 - (nT - 1 - r))) else .bool false) := fun v => ((hR.rf.setOther (by show w1.heap.size + 1 ≠ w1.heap.size; omega) v).cell (i := nT - 1 - r) (by omega))
        have x6 : ∀ v, (wr.setCell ⟨w1.heap.size, nT - 1 - r, none⟩ v).frozen? ⟨w1.heap.size + 1, nT - 1 - r, none⟩ = false := fun v => (hR.rf.setOther (by show w1.heap.size + 1 ≠ w1.heap.size; omega) v).frozen _
        have x7 : ∀ v, (wr.setCell ⟨w1.heap.size, nT - 1 - r, none⟩ v).cell? ⟨fb2, fo2 + r, none⟩ = some (.bool (F r)) := fun v => by
          have hl := World.block_lt_of_cell? _ _ (HT.out.fc r hlt)
          exact (World.cell?_of_block (w := wr) (Below.heap_setCell _ _ _ _ (by show fb2 ≠ w1.heap.size; exact Nat.ne_of_lt hl))).trans x2
        rw [if_neg (by omega)] at x3
        have x5' : ∀ v, (wr.setCell ⟨w1.heap.size, nT - 1 - r, none⟩ v).cell? ⟨w1.heap.size + 1, nT - 1 - r, none⟩ = some (.bool false) := fun v => by rw [x5 v, if_neg (by omega)]
        have x8 : (r : Int) < (nT : Int) := by omega
        have HR : Hid (Rev w1 nT Tn F r wr) := hR
        clear hR hT' x5
        go_wp2
        go_roundg (nT - (r + 1))
        case measure => omega
        case rel => exact ⟨r + 1, by omega, rfl, by go_num, rev_step HR.out hlt⟩
      · obtain rfl : nT = r := by omega
        go_wp2
        go_meet
        case rel => exact hR
  case rest =>
    have hb2 := hcut.below
    go_step
    exact rest_d n nU nT kk ub ob cb co cC U On A L C RB RO Zn t2 f2 tb2 tx2 c2 fb2 fo2 d2 Tn F g1 g2 w1.heap.size (w1.heap.size + 1) pp w wc (hb1.trans (hb2.mono hb1.size)) hn bU bU1 bT hkk (HI.out.later hb2) (HT.out.later hb2) hpp HK.out.1 (fun i hi => cell_later hb2 (HK.out.2.1 i hi)) (fun i hi => cell_later hb2 (HK.out.2.2 i hi)) (fun i hi => by rw [Nat.zero_add, hcut.rc.cell hi, if_pos (by omega)]) (fun i hi => by rw [Nat.zero_add, hcut.rf.cell hi, if_pos (by omega)]) _ _ _ _ _ _ _ _ _ _ _ _ _ _ _ _ _ _ _ _ _ _ _ _ _ _ _ _ _ _ _ _ _ _ _ _ _ _ _ _ _ _ _ _ _ _ _ _ _ _ _ _ _ _ _ _ _ _ _ _ _ _ _ _ _ _ _ _ _ _ _ _ _ _ _ _ _ _ _ _ _ _ _ _ _ _ _ _ _ _ _ _ _ _ _ _ _ _ _ _ _ _ _ _ _ _ _ _ _ _ _ _ _ _ _ _ _ _ _ _ _ _ _ _ _ _ _ _ _ _ _ _ _ _ _ _ _ _ _ _ _ _ _ _ _ _ _ _ _ _ _ _ _ _ _ _ _ _ _ _ _ _ _ _ _ _ _ _ _ _ _ _ _ _ _ _ _ _ _ _ _ _ _ _ _ _ _ _ _ _ _ _ _ _ _ _ _ _ _ _ _ _ _ _ _ _ _ _ _ _ _ _ _ _ _ _ _ _ _ _ _ _ _ _ _ _ _ _ _ _ _ _ _ _ _ _ _ _ _ _ _ _ _ _ _ _ _ _ _ _

end Go.Proofs.Qxb6615124a
