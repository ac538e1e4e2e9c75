/- The law's walk: the flags with one more laid in. -/
import Derived.Test.Qxb6615124aRows
import Derived.Test.Qxb6615124aLeafA
import Derived.Test.Qxb6615124aLeafB
import Derived.Test.Qxb6615124aLeafC
import Derived.Test.Qxb6615124aLaw
import Derived.Test.Qxb6615124aCopy
import Derived.Test.Qxb6615124aEnv
import Derived.Test.Qxb6615124aRestC
import Derived.WalkKit
import Derived.WalkSpells
import Derived.WalkLawsBesides
import Derived.Deep.LoopGhost
import Derived.Deep.OwnRows
import Derived.Deep.QuietTactic
import Derived.BigQuiet
import Derived.Deep.Cut
import Derived.Deep.CutRange
import Derived.Deep.CutBlock
import Derived.Deep.DeepCutAuto
import Derived.Deep.DeepMust
namespace Go.Proofs.Qxb6615124a
open Go.RowKit

set_option maxRecDepth 100000 in
set_option maxHeartbeats 2000000 in
theorem rest_b (n nU nT kk ub ob cb co cC : Nat) (U : Nat → Bool) (On : Nat → Nat) (A : Nat → Option Addr) (L C RB RO : Nat → Nat) (Zn : Nat → Nat → Nat) (t2 f2 : Option Addr) (tb2 tx2 c2 fb2 fo2 d2 : Nat) (Tn : Nat → Nat) (F : Nat → Bool) (g1 pp : Nat) (w w1 : World) (hb1 : Below w.heap.size w w1) (hn : n ≤ 65536) (bU : nU ≤ 1048576) (bU1 : 1 ≤ nU) (bT : nT ≤ 1048576) (hkk : kk < n) (hI : Inp w1 n nU ub ob cb co U On A L C RB RO Zn) (hT : Trs w1 n nT t2 tb2 tx2 c2 f2 fb2 fo2 d2 Tn F) (hpp : pp ≤ nT) (hk : ∀ i, i < nT → Tn i ≠ kk) (h1 : ∀ i, i < nT + 1 → w1.cell? ⟨g1, 0 + i, none⟩ = some (.int .i64 ((ins pp kk Tn i : Nat) : Int)))
    (u8 u9 u10 u11 u12 u13 u14 u15 u16 u17 u18 u19 u20 u21 u24 u25 u26 u27 u28 u29 u30 u31 u32 u33 u34 u35 u36 u37 u38 u39 u40 u41 u42 u43 u44 u45 u46 u47 u48 u49 u50 u51 u52 u53 u54 u55 u56 u57 u58 u59 u60 u61 u62 u63 u64 u65 u66 u67 u68 u69 u70 u71 u72 u73 u74 u75 u76 u77 u78 u79 u80 u81 u82 u83 u84 u85 u86 u87 u88 u89 u90 u91 u92 u93 u94 u95 u96 u97 u98 u99 u100 u101 u102 u103 u104 u105 u106 u107 u108 u109 u110 u111 u112 u113 u114 u115 u116 u117 u118 u119 u120 u121 u122 u123 u124 u125 u126 u127 u128 u129 u130 u131 u132 u133 u134 u135 u136 u137 u138 u139 u140 u141 u142 u143 u144 u145 u146 u147 u148 u149 u150 u151 u152 u153 u154 u155 u156 u157 u158 u159 u160 u161 u162 u163 u164 u165 u166 u167 u168 u169 u170 u171 u172 u173 u174 u175 u176 u177 u178 u179 u180 u181 u182 u183 u184 u185 u186 u187 u188 u189 u190 u191 u192 u193 u194 u195 u196 u197 u198 u199 u200 u201 u202 u203 u204 u205 u206 u207 u208 u209 u210 u211 u212 u213 u214 u215 u216 u217 u218 u219 u220 u221 u222 u223 u224 u225 u226 u227 u228 u229 u230 u231 u232 u233 u234 u235 u236 u237 u238 u239 u240 u241 u242 u243 u244 u245 u246 u247 u248 u249 u250 u251 u252 u253 u254 u255 u256 u257 u258 u259 u260 : Value) :
    Code.wp Try.prog (dropS 17 (Try.f3.body.getD .skip)) (bodyPost Try.prog Try.f3 (Fine w)) ⟨#[.int .i64 n, .slice (some ⟨ub, 0, none⟩) nU nU, .slice (some ⟨ob, 0, none⟩) nU nU, .slice (some ⟨cb, co, none⟩) nU cC, .slice t2 nT c2, .slice f2 nT d2, .int .i64 kk, .int .i64 pp, u8, u9, u10, u11, u12, u13, u14, u15, u16, u17, u18, u19, u20, u21, .int .i64 nT, .slice (some ⟨g1, 0, none⟩) (nT + 1) (nT + 1), u24, u25, u26, u27, u28, u29, u30, u31, u32, u33, u34, u35, u36, u37, u38, u39, u40, u41, u42, u43, u44, u45, u46, u47, u48, u49, u50, u51, u52, u53, u54, u55, u56, u57, u58, u59, u60, u61, u62, u63, u64, u65, u66, u67, u68, u69, u70, u71, u72, u73, u74, u75, u76, u77, u78, u79, u80, u81, u82, u83, u84, u85, u86, u87, u88, u89, u90, u91, u92, u93, u94, u95, u96, u97, u98, u99, u100, u101, u102, u103, u104, u105, u106, u107, u108, u109, u110, u111, u112, u113, u114, u115, u116, u117, u118, u119, u120, u121, u122, u123, u124, u125, u126, u127, u128, u129, u130, u131, u132, u133, u134, u135, u136, u137, u138, u139, u140, u141, u142, u143, u144, u145, u146, u147, u148, u149, u150, u151, u152, u153, u154, u155, u156, u157, u158, u159, u160, u161, u162, u163, u164, u165, u166, u167, u168, u169, u170, u171, u172, u173, u174, u175, u176, u177, u178, u179, u180, u181, u182, u183, u184, u185, u186, u187, u188, u189, u190, u191, u192, u193, u194, u195, u196, u197, u198, u199, u200, u201, u202, u203, u204, u205, u206, u207, u208, u209, u210, u211, u212, u213, u214, u215, u216, u217, u218, u219, u220, u221, u222, u223, u224, u225, u226, u227, u228, u229, u230, u231, u232, u233, u234, u235, u236, u237, u238, u239, u240, u241, u242, u243, u244, u245, u246, u247, u248, u249, u250, u251, u252, u253, u254, u255, u256, u257, u258, u259, u260], []⟩ w1 := by
  conv => arg 2; whnf
  obtain ⟨i4, hi4, hz40, hz41, hz42⟩ := info_parts Try.info4
  obtain ⟨FV, hFV⟩ : ∃ FV : Nat → Value, FV = fun i => .bool (F i) := ⟨_, rfl⟩
  have HFV : Hid (FV = fun i => .bool (F i)) := hFV
  have HFc : Hid (∀ i, i < nT → w1.cell? ⟨fb2, fo2 + i, none⟩ = some (FV i)) := fun i hi => by rw [hFV]; exact hT.fc i hi
  have O1 : Hid (∀ i, (FV i).oneCell' = true) := fun i => by rw [hFV]; rfl
  have HI : Hid (Inp w1 n nU ub ob cb co U On A L C RB RO Zn) := hI
  have HT : Hid (Trs w1 n nT t2 tb2 tx2 c2 f2 fb2 fo2 d2 Tn F) := hT
  have HK : Hid ((∀ i, i < nT → Tn i ≠ kk) ∧ (∀ i, i < nT + 1 → w1.cell? ⟨g1, 0 + i, none⟩ = some (.int .i64 ((ins pp kk Tn i : Nat) : Int)))) := ⟨hk, h1⟩
  have hfl := hT.fl
  have hpd : (pp : Int) ≤ (d2 : Int) := by omega
  have hlen : pp + 1 + (nT - pp) = nT + 1 := by omega
  clear hI hT hk h1 hFV
  go_upto_region 40 with (at_make; go_must (refine wpList_make_own _ rfl _ _ 22 rfl w1.heap.size 4 i4 (.bool false) 1 Try.underlying22 hi4 hz40 hz41 .i64 .i64 _ (nT + 1) rfl rfl (by omega) (by rw [hz42]; omega) (by unfold maxLen; omega) (Nat.le_refl _) ?_); intro w2 hown2 hgr2)
  have hb2 : Below w1.heap.size w1 w2 := (Below.refl _ _).grown hgr2 (Nat.le_refl _) (fun k e => by cases e)
  clear hgr2
  go_upto_region 41 with (at_builtin; go_must (refine wpList_append_fits_any _ rfl _ _ 22 rfl w1.heap.size 4 i4 1 Try.underlying22 hi4 hz41 w1.heap.size 0 (nT + 1) [] rfl hown2 _ pp d2 (seg FV 0 pp) rfl (seg_length _ _ _) (fun e => by have := HT.out.f0 e; omega) (cells_at (s := 0) (fun i hi => cell_later hb2 (HFc.out i hi)) (by omega) (fun h => HT.out.fa (by omega))) (seg_one O1.out _ _) (by omega) ?_); intro w3 hown3 hgr3)
  simp only [Nat.zero_add, List.nil_append] at hown3
  have hb3 : Below w1.heap.size w1 w3 := hb2.grown hgr3 hb2.size (fun k e => by cases e; exact Nat.le_refl _)
  clear hgr3 hb2 hown2
  go_upto_region 42 with (at_builtin; go_must (refine wpList_append_fits _ rfl _ _ 22 rfl w1.heap.size 4 i4 1 Try.underlying22 hi4 hz41 w1.heap.size pp (nT + 1) (seg FV 0 pp) rfl (hown3.alloc _) ⟨w3.heap.size, 0, none⟩ 1 1 [.bool true] rfl rfl (World.news_of_block (cs := #[.bool true]) (t := 4) (fr := (0, 0)) (heap_alloc_new w3 _)) (by simp [Value.oneCell']) (by omega) ?_); intro w4 hown4 hgr4)
  have hb4 : Below w1.heap.size w1 w4 := (hb3.alloc hb3.size _).grown hgr4 (by have := hb3.size; simp; omega) (fun k e => by cases e; exact Nat.le_refl _)
  clear hgr4 hb3 hown3
  go_cut [5, 24] (fun s5 s24 wx => s5 = .slice f2 nT d2 ∧ s24 = .slice (some ⟨w1.heap.size, 0, none⟩) (nT + 1) (nT + 1) ∧ wx.ownsRow w1.heap.size 4 1 (.slice (some ⟨w1.heap.size, 0, none⟩) (nT + 1) (nT + 1)) (nT + 1) (seg FV 0 pp ++ [.bool true] ++ seg FV pp (nT - pp)) ∧ Below w1.heap.size w1 wx)
  case first =>
    go_wp2_with (at_builtin; go_must (refine wpList_append_fits_any _ rfl _ _ 22 rfl w1.heap.size 4 i4 1 Try.underlying22 hi4 hz41 w1.heap.size (pp + 1) (nT + 1) (seg FV 0 pp ++ [.bool true]) rfl hown4 _ (nT - pp) (d2 - pp) (seg FV pp (nT - pp)) rfl (seg_length _ _ _) (fun e => by have h0 : f2 = none := (by revert e; split <;> simp); have := HT.out.f0 h0; omega) (cells_at (s := pp) (fun i hi => cell_later hb4 (HFc.out i hi)) (by omega) (fun h => by rw [if_neg (by omega), HT.out.fa (by omega)]; simp [Addr.add])) (seg_one O1.out _ _) (by omega) ?_); intro w5 hown5 hgr5)
    all_goals
      go_meet
      case rel =>
        rw [hlen] at hown5
        exact ⟨by first | rfl | (rw [show d2 = pp by assumption]), by first | rfl | simp [hlen], hown5, hb4.grown hgr5 hb4.size (fun k e => by cases e; exact Nat.le_refl _)⟩
  case rest =>
    obtain ⟨rfl, rfl, hown5, hb5⟩ := hcut
    rw [seg_ins FV (.bool true) hpp] at hown5
    go_step
    exact rest_c n nU nT kk ub ob cb co cC U On A L C RB RO Zn t2 f2 tb2 tx2 c2 fb2 fo2 d2 Tn F g1 w1.heap.size pp w wc (hb1.trans (hb5.mono hb1.size)) hn bU bU1 bT hkk (HI.out.later hb5) (HT.out.later hb5) hpp HK.out.1 (fun i hi => cell_later hb5 (HK.out.2 i hi)) (fun i hi => by rw [Nat.zero_add, own_cell hown5 hi, HFV.out]; simp only [ins]; split <;> (try split) <;> rfl) _ _ _ _ _ _ _ _ _ _ _ _ _ _ _ _ _ _ _ _ _ _ _ _ _ _ _ _ _ _ _ _ _ _ _ _ _ _ _ _ _ _ _ _ _ _ _ _ _ _ _ _ _ _ _ _ _ _ _ _ _ _ _ _ _ _ _ _ _ _ _ _ _ _ _ _ _ _ _ _ _ _ _ _ _ _ _ _ _ _ _ _ _ _ _ _ _ _ _ _ _ _ _ _ _ _ _ _ _ _ _ _ _ _ _ _ _ _ _ _ _ _ _ _ _ _ _ _ _ _ _ _ _ _ _ _ _ _ _ _ _ _ _ _ _ _ _ _ _ _ _ _ _ _ _ _ _ _ _ _ _ _ _ _ _ _ _ _ _ _ _ _ _ _ _ _ _ _ _ _ _ _ _ _ _ _ _ _ _ _ _ _ _ _ _ _ _ _ _ _ _ _ _ _ _ _ _ _ _ _ _ _ _ _ _ _ _ _ _ _ _ _ _ _ _ _ _ _ _ _ _ _ _ _ _ _ _ _ _ _ _ _ _ _ _ _ _ _ _ _ _

end Go.Proofs.Qxb6615124a
