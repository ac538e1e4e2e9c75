/- The law's walk: k is new; the columns with k laid in. -/
import Derived.Test.Qxb6615124aRows
import Derived.Test.Qxb6615124aLeafA
import Derived.Test.Qxb6615124aLeafB
import Derived.Test.Qxb6615124aLeafC
import Derived.Test.Qxb6615124aLaw
import Derived.Test.Qxb6615124aCopy
import Derived.Test.Qxb6615124aEnv
import Derived.Test.Qxb6615124aRestB
import Derived.WalkKit
import Derived.WalkSpells
import Derived.WalkLawsBesides
import Derived.Deep.LoopGhost
import Derived.Deep.OwnRows
import Derived.Deep.QuietTactic
import Derived.BigQuiet
import Derived.Deep.Cut
import Derived.Deep.CutRange
import Derived.Deep.CutBlock
import Derived.Deep.DeepCutAuto
import Derived.Deep.DeepMust
namespace Go.Proofs.Qxb6615124a
open Go.RowKit

set_option maxRecDepth 100000 in
set_option maxHeartbeats 2000000 in
theorem rest_a (n nU nT kk ub ob cb co cC : Nat) (U : Nat → Bool) (On : Nat → Nat) (A : Nat → Option Addr) (L C RB RO : Nat → Nat) (Zn : Nat → Nat → Nat) (t2 f2 : Option Addr) (tb2 tx2 c2 fb2 fo2 d2 : Nat) (Tn : Nat → Nat) (F : Nat → Bool) (p : Int) (w w1 : World) (hb1 : Below w.heap.size w w1) (hn : n ≤ 65536) (bU : nU ≤ 1048576) (bU1 : 1 ≤ nU) (bT : nT ≤ 1048576) (hkk : kk < n) (hI : Inp w1 n nU ub ob cb co U On A L C RB RO Zn) (hT : Trs w1 n nT t2 tb2 tx2 c2 f2 fb2 fo2 d2 Tn F) 
    (u8 u9 u10 u11 u12 u13 u14 u15 u16 u17 u18 u19 u20 u21 u22 u23 u24 u25 u26 u27 u28 u29 u30 u31 u32 u33 u34 u35 u36 u37 u38 u39 u40 u41 u42 u43 u44 u45 u46 u47 u48 u49 u50 u51 u52 u53 u54 u55 u56 u57 u58 u59 u60 u61 u62 u63 u64 u65 u66 u67 u68 u69 u70 u71 u72 u73 u74 u75 u76 u77 u78 u79 u80 u81 u82 u83 u84 u85 u86 u87 u88 u89 u90 u91 u92 u93 u94 u95 u96 u97 u98 u99 u100 u101 u102 u103 u104 u105 u106 u107 u108 u109 u110 u111 u112 u113 u114 u115 u116 u117 u118 u119 u120 u121 u122 u123 u124 u125 u126 u127 u128 u129 u130 u131 u132 u133 u134 u135 u136 u137 u138 u139 u140 u141 u142 u143 u144 u145 u146 u147 u148 u149 u150 u151 u152 u153 u154 u155 u156 u157 u158 u159 u160 u161 u162 u163 u164 u165 u166 u167 u168 u169 u170 u171 u172 u173 u174 u175 u176 u177 u178 u179 u180 u181 u182 u183 u184 u185 u186 u187 u188 u189 u190 u191 u192 u193 u194 u195 u196 u197 u198 u199 u200 u201 u202 u203 u204 u205 u206 u207 u208 u209 u210 u211 u212 u213 u214 u215 u216 u217 u218 u219 u220 u221 u222 u223 u224 u225 u226 u227 u228 u229 u230 u231 u232 u233 u234 u235 u236 u237 u238 u239 u240 u241 u242 u243 u244 u245 u246 u247 u248 u249 u250 u251 u252 u253 u254 u255 u256 u257 u258 u259 u260 : Value) :
    Code.wp Try.prog (dropS 10 (Try.f3.body.getD .skip)) (bodyPost Try.prog Try.f3 (Fine w)) ⟨#[.int .i64 n, .slice (some ⟨ub, 0, none⟩) nU nU, .slice (some ⟨ob, 0, none⟩) nU nU, .slice (some ⟨cb, co, none⟩) nU cC, .slice t2 nT c2, .slice f2 nT d2, .int .i64 kk, .int .i64 p, u8, u9, u10, u11, u12, u13, u14, u15, u16, u17, u18, u19, u20, u21, u22, u23, u24, u25, u26, u27, u28, u29, u30, u31, u32, u33, u34, u35, u36, u37, u38, u39, u40, u41, u42, u43, u44, u45, u46, u47, u48, u49, u50, u51, u52, u53, u54, u55, u56, u57, u58, u59, u60, u61, u62, u63, u64, u65, u66, u67, u68, u69, u70, u71, u72, u73, u74, u75, u76, u77, u78, u79, u80, u81, u82, u83, u84, u85, u86, u87, u88, u89, u90, u91, u92, u93, u94, u95, u96, u97, u98, u99, u100, u101, u102, u103, u104, u105, u106, u107, u108, u109, u110, u111, u112, u113, u114, u115, u116, u117, u118, u119, u120, u121, u122, u123, u124, u125, u126, u127, u128, u129, u130, u131, u132, u133, u134, u135, u136, u137, u138, u139, u140, u141, u142, u143, u144, u145, u146, u147, u148, u149, u150, u151, u152, u153, u154, u155, u156, u157, u158, u159, u160, u161, u162, u163, u164, u165, u166, u167, u168, u169, u170, u171, u172, u173, u174, u175, u176, u177, u178, u179, u180, u181, u182, u183, u184, u185, u186, u187, u188, u189, u190, u191, u192, u193, u194, u195, u196, u197, u198, u199, u200, u201, u202, u203, u204, u205, u206, u207, u208, u209, u210, u211, u212, u213, u214, u215, u216, u217, u218, u219, u220, u221, u222, u223, u224, u225, u226, u227, u228, u229, u230, u231, u232, u233, u234, u235, u236, u237, u238, u239, u240, u241, u242, u243, u244, u245, u246, u247, u248, u249, u250, u251, u252, u253, u254, u255, u256, u257, u258, u259, u260], []⟩ w1 := by
  conv => arg 2; whnf
  have HI : Hid (Inp w1 n nU ub ob cb co U On A L C RB RO Zn) := hI
  have HT : Hid (Trs w1 n nT t2 tb2 tx2 c2 f2 fb2 fo2 d2 Tn F) := hT
  have htl := hT.tl
  clear hI hT
  go_wp2
  go_loopg [21] nT (fun g i wx => wx = w1 ∧ ∃ r : Nat, r ≤ nT ∧ g = nT - r ∧ i = .int .i64 r ∧ ∀ i, i < r → Tn i ≠ kk)
  case atStart => exact ⟨rfl, 0, Nat.zero_le _, rfl, rfl, fun i hi => absurd hi (Nat.not_lt_zero _)⟩
  case round =>
    obtain ⟨hwr, r, hr, rfl, rfl, hne⟩ := hrel
    subst hwr
    have HNe : Hid (∀ i, i < r → Tn i ≠ kk) := hne
    clear hne
    by_cases hrT : r < nT
    · obtain rfl := HT.out.ta (by omega)
      have a1 := HT.out.tc r hrT
      have a2 : (r : Int) < (nT : Int) := by omega
      by_cases e : Tn r = kk
      · have e1 : ((Tn r : Int) == (kk : Int)) = true := by simp [e]
        clear e
        go_wp2
        go_ret
        exact ⟨rfl, hb1⟩
      · have e1 : ((Tn r : Int) == (kk : Int)) = false := by simpa using (fun h => e (by omega))
        have HE : Hid (¬ Tn r = kk) := e
        clear e
        go_wp2
        go_roundg (nT - (r + 1))
        case measure => omega
        case rel =>
          refine ⟨rfl, r + 1, by omega, rfl, by go_num, fun i hi => ?_⟩
          by_cases e : i = r
          · subst e; exact HE.out
          · exact HNe.out i (by omega)
    · obtain rfl : nT = r := by omega
      by_cases hp0 : p < 0
      · go_wp2_with fail
        go_ret
        exact ⟨rfl, hb1⟩
      by_cases hp1 : (nT : Int) < p
      · go_wp2_with fail
        go_ret
        exact ⟨rfl, hb1⟩
      obtain ⟨pp, rfl⟩ : ∃ pp : Nat, p = (pp : Int) := ⟨p.toNat, by omega⟩
      have hpp : pp ≤ nT := by omega
      have hpc : (pp : Int) ≤ (c2 : Int) := by omega
      clear hp0 hp1
      obtain ⟨i3, hi3, hz30, hz31, hz32⟩ := info_parts Try.info3
      obtain ⟨TV, hTV⟩ : ∃ TV : Nat → Value, TV = fun i => .int .i64 (Tn i) := ⟨_, rfl⟩
      have HTV : Hid (TV = fun i => .int .i64 (Tn i)) := hTV
      have HTc : Hid (∀ i, i < nT → wr.cell? ⟨tb2, tx2 + i, none⟩ = some (TV i)) := fun i hi => by rw [hTV]; exact HT.out.tc i hi
      have O1 : Hid (∀ i, (TV i).oneCell' = true) := fun i => by rw [hTV]; rfl
      clear hTV
      have hlen : pp + 1 + (nT - pp) = nT + 1 := by omega
      go_upto_region 36 with (at_make; go_must (refine wpList_make_own _ rfl _ _ 23 rfl wr.heap.size 3 i3 (.int .i64 0) 1 Try.underlying23 hi3 hz30 hz31 .i64 .i64 _ (nT + 1) rfl rfl (by omega) (by rw [hz32]; omega) (by unfold maxLen; omega) (Nat.le_refl _) ?_); intro w2 hown2 hgr2)
      have hb2 : Below wr.heap.size wr w2 := (Below.refl _ _).grown hgr2 (Nat.le_refl _) (fun k e => by cases e)
      clear hgr2
      go_upto_region 37 with (at_builtin; go_must (refine wpList_append_fits_any _ rfl _ _ 23 rfl wr.heap.size 3 i3 1 Try.underlying23 hi3 hz31 wr.heap.size 0 (nT + 1) [] rfl hown2 _ pp c2 (seg TV 0 pp) rfl (seg_length _ _ _) (fun e => by have := HT.out.t0 e; omega) (cells_at (s := 0) (fun i hi => cell_later hb2 (HTc.out i hi)) (by omega) (fun h => HT.out.ta (by omega))) (seg_one O1.out _ _) (by omega) ?_); intro w3 hown3 hgr3)
      simp only [Nat.zero_add, List.nil_append] at hown3
      have hb3 : Below wr.heap.size wr w3 := hb2.grown hgr3 hb2.size (fun k e => by cases e; exact Nat.le_refl _)
      clear hgr3 hb2 hown2
      go_upto_region 38 with (at_builtin; go_must (refine wpList_append_fits _ rfl _ _ 23 rfl wr.heap.size 3 i3 1 Try.underlying23 hi3 hz31 wr.heap.size pp (nT + 1) (seg TV 0 pp) rfl (hown3.alloc _) ⟨w3.heap.size, 0, none⟩ 1 1 [.int .i64 kk] rfl rfl (World.news_of_block (cs := #[.int .i64 kk]) (t := 3) (fr := (0, 0)) (heap_alloc_new w3 _)) (by simp [Value.oneCell']) (by omega) ?_); intro w4 hown4 hgr4)
      have hb4 : Below wr.heap.size wr w4 := (hb3.alloc hb3.size _).grown hgr4 (by have := hb3.size; simp; omega) (fun k e => by cases e; exact Nat.le_refl _)
      clear hgr4 hb3 hown3
      go_cut [4, 23] (fun s4 s23 wx => s4 = .slice t2 nT c2 ∧ s23 = .slice (some ⟨wr.heap.size, 0, none⟩) (nT + 1) (nT + 1) ∧ wx.ownsRow wr.heap.size 3 1 (.slice (some ⟨wr.heap.size, 0, none⟩) (nT + 1) (nT + 1)) (nT + 1) (seg TV 0 pp ++ [.int .i64 kk] ++ seg TV pp (nT - pp)) ∧ Below wr.heap.size wr wx)
      case first =>
        go_wp2_with (at_builtin; go_must (refine wpList_append_fits_any _ rfl _ _ 23 rfl wr.heap.size 3 i3 1 Try.underlying23 hi3 hz31 wr.heap.size (pp + 1) (nT + 1) (seg TV 0 pp ++ [.int .i64 kk]) rfl hown4 _ (nT - pp) (c2 - pp) (seg TV pp (nT - pp)) rfl (seg_length _ _ _) (fun e => by have h0 : t2 = none := (by revert e; split <;> simp); have := HT.out.t0 h0; omega) (cells_at (s := pp) (fun i hi => cell_later hb4 (HTc.out i hi)) (by omega) (fun h => by rw [if_neg (by omega), HT.out.ta (by omega)]; simp [Addr.add])) (seg_one O1.out _ _) (by omega) ?_); intro w5 hown5 hgr5)
        all_goals
          go_meet
          case rel =>
            rw [hlen] at hown5
            exact ⟨by first | rfl | (rw [show c2 = pp by assumption]), by first | rfl | simp [hlen], hown5, hb4.grown hgr5 hb4.size (fun k e => by cases e; exact Nat.le_refl _)⟩
      case rest =>
        obtain ⟨rfl, rfl, hown5, hb5⟩ := hcut
        rw [seg_ins TV (.int .i64 kk) hpp] at hown5
        go_step
        exact rest_b n nU nT kk ub ob cb co cC U On A L C RB RO Zn t2 f2 tb2 tx2 c2 fb2 fo2 d2 Tn F wr.heap.size pp w wc (hb1.trans (hb5.mono hb1.size)) hn bU bU1 bT hkk (HI.out.later hb5) (HT.out.later hb5) hpp HNe.out (fun i hi => by rw [Nat.zero_add, own_cell hown5 hi, HTV.out]; simp only [ins]; split <;> (try split) <;> rfl) _ _ _ _ _ _ _ _ _ _ _ _ _ _ _ _ _ _ _ _ _ _ _ _ _ _ _ _ _ _ _ _ _ _ _ _ _ _ _ _ _ _ _ _ _ _ _ _ _ _ _ _ _ _ _ _ _ _ _ _ _ _ _ _ _ _ _ _ _ _ _ _ _ _ _ _ _ _ _ _ _ _ _ _ _ _ _ _ _ _ _ _ _ _ _ _ _ _ _ _ _ _ _ _ _ _ _ _ _ _ _ _ _ _ _ _ _ _ _ _ _ _ _ _ _ _ _ _ _ _ _ _ _ _ _ _ _ _ _ _ _ _ _ _ _ _ _ _ _ _ _ _ _ _ _ _ _ _ _ _ _ _ _ _ _ _ _ _ _ _ _ _ _ _ _ _ _ _ _ _ _ _ _ _ _ _ _ _ _ _ _ _ _ _ _ _ _ _ _ _ _ _ _ _ _ _ _ _ _ _ _ _ _ _ _ _ _ _ _ _ _ _ _ _ _ _ _ _ _ _ _ _ _ _ _ _ _ _ _ _ _ _ _ _ _ _ _ _ _ _ _

end Go.Proofs.Qxb6615124a
