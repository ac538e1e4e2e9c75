/- The law's walk, last part: the three calls, the completed index, the comparison. -/
import Derived.Test.Qxb6615124aRows
import Derived.Test.Qxb6615124aLeafA
import Derived.Test.Qxb6615124aLeafB
import Derived.Test.Qxb6615124aLeafC
import Derived.Test.Qxb6615124aLaw
import Derived.Test.Qxb6615124aCopy
import Derived.Test.Qxb6615124aEnv
import Derived.WalkKit
import Derived.WalkSpells
import Derived.WalkLawsBesides
import Derived.Deep.LoopGhost
import Derived.Deep.OwnRows
import Derived.Deep.QuietTactic
import Derived.BigQuiet
import Derived.Deep.Cut
import Derived.Deep.CutRange
import Derived.Deep.CutBlock
import Derived.Deep.DeepCutAuto
import Derived.Deep.DeepMust
namespace Go.Proofs.Qxb6615124a
open Go.RowKit

set_option maxRecDepth 100000 in
set_option maxHeartbeats 2000000 in
theorem rest_d (n nU nT kk ub ob cb co cC : Nat) (U : Nat → Bool) (On : Nat → Nat) (A : Nat → Option Addr) (L C RB RO : Nat → Nat) (Zn : Nat → Nat → Nat) (t2 f2 : Option Addr) (tb2 tx2 c2 fb2 fo2 d2 : Nat) (Tn : Nat → Nat) (F : Nat → Bool) (g1 g2 g3 g4 pp : Nat) (w w1 : World) (hb1 : Below w.heap.size w w1) (hn : n ≤ 65536) (bU : nU ≤ 1048576) (bU1 : 1 ≤ nU) (bT : nT ≤ 1048576) (hkk : kk < n) (hI : Inp w1 n nU ub ob cb co U On A L C RB RO Zn) (hT : Trs w1 n nT t2 tb2 tx2 c2 f2 fb2 fo2 d2 Tn F) (hpp : pp ≤ nT) (hk : ∀ i, i < nT → Tn i ≠ kk) (h1 : ∀ i, i < nT + 1 → w1.cell? ⟨g1, 0 + i, none⟩ = some (.int .i64 ((ins pp kk Tn i : Nat) : Int))) (h2 : ∀ i, i < nT + 1 → w1.cell? ⟨g2, 0 + i, none⟩ = some (.bool (ins pp true F i))) (h3 : ∀ i, i < nT → w1.cell? ⟨g3, 0 + i, none⟩ = some (.int .i64 (Tn (nT - 1 - i)))) (h4 : ∀ i, i < nT → w1.cell? ⟨g4, 0 + i, none⟩ = some (.bool (F (nT - 1 - i))))
    (u7 u8 u9 u10 u11 u12 u13 u14 u15 u16 u17 u18 u19 u20 u21 u22 u27 u28 u29 u30 u31 u32 u33 u34 u35 u36 u37 u38 u39 u40 u41 u42 u43 u44 u45 u46 u47 u48 u49 u50 u51 u52 u53 u54 u55 u56 u57 u58 u59 u60 u61 u62 u63 u64 u65 u66 u67 u68 u69 u70 u71 u72 u73 u74 u75 u76 u77 u78 u79 u80 u81 u82 u83 u84 u85 u86 u87 u88 u89 u90 u91 u92 u93 u94 u95 u96 u97 u98 u99 u100 u101 u102 u103 u104 u105 u106 u107 u108 u109 u110 u111 u112 u113 u114 u115 u116 u117 u118 u119 u120 u121 u122 u123 u124 u125 u126 u127 u128 u129 u130 u131 u132 u133 u134 u135 u136 u137 u138 u139 u140 u141 u142 u143 u144 u145 u146 u147 u148 u149 u150 u151 u152 u153 u154 u155 u156 u157 u158 u159 u160 u161 u162 u163 u164 u165 u166 u167 u168 u169 u170 u171 u172 u173 u174 u175 u176 u177 u178 u179 u180 u181 u182 u183 u184 u185 u186 u187 u188 u189 u190 u191 u192 u193 u194 u195 u196 u197 u198 u199 u200 u201 u202 u203 u204 u205 u206 u207 u208 u209 u210 u211 u212 u213 u214 u215 u216 u217 u218 u219 u220 u221 u222 u223 u224 u225 u226 u227 u228 u229 u230 u231 u232 u233 u234 u235 u236 u237 u238 u239 u240 u241 u242 u243 u244 u245 u246 u247 u248 u249 u250 u251 u252 u253 u254 u255 u256 u257 u258 u259 u260 : Value) :
    Code.wp Try.prog (dropS 24 (Try.f3.body.getD .skip)) (bodyPost Try.prog Try.f3 (Fine w)) ⟨#[.int .i64 n, .slice (some ⟨ub, 0, none⟩) nU nU, .slice (some ⟨ob, 0, none⟩) nU nU, .slice (some ⟨cb, co, none⟩) nU cC, .slice t2 nT c2, .slice f2 nT d2, .int .i64 kk, u7, u8, u9, u10, u11, u12, u13, u14, u15, u16, u17, u18, u19, u20, u21, u22, .slice (some ⟨g1, 0, none⟩) (nT + 1) (nT + 1), .slice (some ⟨g2, 0, none⟩) (nT + 1) (nT + 1), .slice (some ⟨g3, 0, none⟩) nT nT, .slice (some ⟨g4, 0, none⟩) nT nT, u27, u28, u29, u30, u31, u32, u33, u34, u35, u36, u37, u38, u39, u40, u41, u42, u43, u44, u45, u46, u47, u48, u49, u50, u51, u52, u53, u54, u55, u56, u57, u58, u59, u60, u61, u62, u63, u64, u65, u66, u67, u68, u69, u70, u71, u72, u73, u74, u75, u76, u77, u78, u79, u80, u81, u82, u83, u84, u85, u86, u87, u88, u89, u90, u91, u92, u93, u94, u95, u96, u97, u98, u99, u100, u101, u102, u103, u104, u105, u106, u107, u108, u109, u110, u111, u112, u113, u114, u115, u116, u117, u118, u119, u120, u121, u122, u123, u124, u125, u126, u127, u128, u129, u130, u131, u132, u133, u134, u135, u136, u137, u138, u139, u140, u141, u142, u143, u144, u145, u146, u147, u148, u149, u150, u151, u152, u153, u154, u155, u156, u157, u158, u159, u160, u161, u162, u163, u164, u165, u166, u167, u168, u169, u170, u171, u172, u173, u174, u175, u176, u177, u178, u179, u180, u181, u182, u183, u184, u185, u186, u187, u188, u189, u190, u191, u192, u193, u194, u195, u196, u197, u198, u199, u200, u201, u202, u203, u204, u205, u206, u207, u208, u209, u210, u211, u212, u213, u214, u215, u216, u217, u218, u219, u220, u221, u222, u223, u224, u225, u226, u227, u228, u229, u230, u231, u232, u233, u234, u235, u236, u237, u238, u239, u240, u241, u242, u243, u244, u245, u246, u247, u248, u249, u250, u251, u252, u253, u254, u255, u256, u257, u258, u259, u260], []⟩ w1 := by
  conv => arg 2; whnf
  have z1 := zz_any n nU nT (some ⟨ub, 0, none⟩) (some ⟨ob, 0, none⟩) (some ⟨cb, co, none⟩) t2 f2 nU nU cC c2 d2 ub 0 ob 0 cb co tb2 tx2 fb2 fo2 U On A L C RB RO Zn Tn F w1 hn bU bU1 (by omega) hI.hL rfl hI.hU rfl hI.hO rfl hI.hrow hI.hA hI.hZ hT.ta hT.tc hT.fa hT.fc hI.hOL hI.hZn hT.hn hT.hd
  have z2 : ∀ wz, Below w1.heap.size w1 wz → Calls Try.prog 7 #[.int .i64 n, .slice (some ⟨ub, 0, none⟩) nU nU, .slice (some ⟨ob, 0, none⟩) nU nU, .slice (some ⟨cb, co, none⟩) nU cC, .slice (some ⟨g1, 0, none⟩) (nT + 1) (nT + 1), .slice (some ⟨g2, 0, none⟩) (nT + 1) (nT + 1)] wz (Ans wz nU (good U On Zn (nT + 1) (ins pp kk Tn) (ins pp true F))) := fun wz hz =>
    have hI' := hI.later hz
    zz_any n nU (nT + 1) _ _ _ _ _ nU nU cC (nT + 1) (nT + 1) ub 0 ob 0 cb co g1 0 g2 0 U On A L C RB RO Zn (ins pp kk Tn) (ins pp true F) wz hn bU bU1 (by omega) hI'.hL rfl hI'.hU rfl hI'.hO rfl hI'.hrow hI'.hA hI'.hZ (fun _ => rfl) (fun i hi => cell_later hz (h1 i hi)) (fun _ => rfl) (fun i hi => cell_later hz (h2 i hi)) hI'.hOL hI'.hZn (ins_lt hpp hT.hn hkk) (ins_dist hpp hT.hd hk)
  have z3 : ∀ wz, Below w1.heap.size w1 wz → Calls Try.prog 7 #[.int .i64 n, .slice (some ⟨ub, 0, none⟩) nU nU, .slice (some ⟨ob, 0, none⟩) nU nU, .slice (some ⟨cb, co, none⟩) nU cC, .slice (some ⟨g3, 0, none⟩) nT nT, .slice (some ⟨g4, 0, none⟩) nT nT] wz (Ans wz nU (good U On Zn nT (fun t => Tn (nT - 1 - t)) (fun t => F (nT - 1 - t)))) := fun wz hz =>
    have hI' := hI.later hz
    zz_any n nU nT _ _ _ _ _ nU nU cC nT nT ub 0 ob 0 cb co g3 0 g4 0 U On A L C RB RO Zn (fun t => Tn (nT - 1 - t)) (fun t => F (nT - 1 - t)) wz hn bU bU1 (by omega) hI'.hL rfl hI'.hU rfl hI'.hO rfl hI'.hrow hI'.hA hI'.hZ (fun _ => rfl) (fun i hi => cell_later hz (h3 i hi)) (fun _ => rfl) (fun i hi => cell_later hz (h4 i hi)) hI'.hOL hI'.hZn (fun i hi => hT.hn _ (by omega)) (rev_dist hT.hd)
  have HZ2 : Hid (∀ wz, Below w1.heap.size w1 wz → Calls Try.prog 7 #[.int .i64 n, .slice (some ⟨ub, 0, none⟩) nU nU, .slice (some ⟨ob, 0, none⟩) nU nU, .slice (some ⟨cb, co, none⟩) nU cC, .slice (some ⟨g1, 0, none⟩) (nT + 1) (nT + 1), .slice (some ⟨g2, 0, none⟩) (nT + 1) (nT + 1)] wz (Ans wz nU (good U On Zn (nT + 1) (ins pp kk Tn) (ins pp true F)))) := z2
  have HZ3 : Hid (∀ wz, Below w1.heap.size w1 wz → Calls Try.prog 7 #[.int .i64 n, .slice (some ⟨ub, 0, none⟩) nU nU, .slice (some ⟨ob, 0, none⟩) nU nU, .slice (some ⟨cb, co, none⟩) nU cC, .slice (some ⟨g3, 0, none⟩) nT nT, .slice (some ⟨g4, 0, none⟩) nT nT] wz (Ans wz nU (good U On Zn nT (fun t => Tn (nT - 1 - t)) (fun t => F (nT - 1 - t))))) := z3
  have HI : Hid (Inp w1 n nU ub ob cb co U On A L C RB RO Zn) := hI
  have HT : Hid (Trs w1 n nT t2 tb2 tx2 c2 f2 fb2 fo2 d2 Tn F) := hT
  clear h1 h2 h3 h4 z2 z3 hI hT hk
  go_wp2_with fail
  refine z1.mono ?_
  rintro e w2 ⟨hb2, a, rfl, ha⟩
  clear z1
  go_wp2_with fail
  refine (HZ2.out w2 hb2).mono ?_
  rintro e w3 ⟨hb3', b, rfl, hb⟩
  have hb3 := hb2.trans (hb3'.mono hb2.size)
  clear HZ2 hb3' hb2
  go_wp2_with fail
  refine (HZ3.out w3 hb3).mono ?_
  rintro e w4 ⟨hb4', c, rfl, hc⟩
  have hb4 := hb3.trans (hb4'.mono hb3.size)
  clear HZ3 hb4' hb3
  obtain rfl : a = c := ha.unique (hc.congr (good_congr fx_rev))
  clear hc
  have HA : Hid (IsFirst nU (good U On Zn nT Tn F) a) := ha
  have HBb : Hid (IsFirst nU (fun i => good U On Zn nT Tn F i || Pl.completed (U i) (On i) (Zn i) (Pl.fx nT Tn F) kk) b) := hb.congr (good_more hpp)
  clear ha hb
  have hT4 := HT.out.later hb4
  have cf := fixed_any n t2 f2 nT c2 d2 tb2 tx2 fb2 fo2 Tn F w4 hn bT hT4.ta hT4.tc hT4.fa hT4.fc hT4.hn
  clear hT4 HT
  go_wp2_with fail
  refine cf.mono ?_
  rintro e w5 ⟨rfl, hb5', hfr⟩
  clear cf
  have hb5 := hb4.trans (hb5'.mono hb4.size)
  have hI5 := HI.out.later hb5
  have HW : Hid (Below w.heap.size w w5) := hb1.trans (hb5.mono hb1.size)
  have HFx : Hid (∀ x, x < n → w5.cell? ⟨w4.heap.size, x, none⟩ = some (.bool (Pl.fx nT Tn F x))) := fun x hx => hfr.cell hx
  have HI5 : Hid (Inp w5 n nU ub ob cb co U On A L C RB RO Zn) := hI5
  clear hb1 hb4 hb5' hb5 hfr HI hI5
  obtain ⟨g5, hg5⟩ : ∃ g5, g5 = w4.heap.size := ⟨_, rfl⟩
  rw [← hg5] at HFx
  rw [← hg5]
  clear hg5
  go_wp2_with fail
  go_loopg [32, 33] (nU - 1) (fun g s32 s33 wx => ∃ r q : Nat, 1 ≤ r ∧ r ≤ nU ∧ g = nU - r ∧ s33 = .int .i64 r ∧ s32 = .int .i64 (-1) ∧ wx = w5.drewN q ∧ ∀ j, 1 ≤ j → j < r → Pl.completed (U j) (On j) (Zn j) (Pl.fx nT Tn F) kk = false)
  case atStart => exact ⟨1, 0, by omega, by omega, rfl, rfl, rfl, rfl, fun j j1 j2 => by omega⟩
  case round =>
    obtain ⟨r, q, hr1, hr, rfl, rfl, rfl, rfl, hno⟩ := hrel
    have HNo : Hid (∀ j, 1 ≤ j → j < r → Pl.completed (U j) (On j) (Zn j) (Pl.fx nT Tn F) kk = false) := hno
    clear hno
    by_cases hlt : r < nU
    · have hI6 := HI5.out.later (below_drewN (Below.refl w5.heap.size w5) q)
      have hF6 : ∀ x, x < n → (w5.drewN q).cell? ⟨g5, x, none⟩ = some (.bool (Pl.fx nT Tn F x)) := HFx.out
      have hW6 : Below w.heap.size w (w5.drewN q) := below_drewN HW.out q
      have hdr : ∀ m, (w5.drewN q).drewN m = w5.drewN (q + m) := fun m => by simp
      have HDr : Hid (∀ m, (w5.drewN q).drewN m = w5.drewN (q + m)) := hdr
      clear hdr
      generalize w5.drewN q = w6 at *
      have x1 : w6.cell? ⟨ub, r, none⟩ = some (.bool (U r)) := by simpa using hI6.hU r hlt
      have x2 : w6.cell? ⟨ob, r, none⟩ = some (.int .i64 (On r)) := by simpa using hI6.hO r hlt
      have x3 := hI6.hrow r hlt
      have x4 : (r : Int) < (nU : Int) := by omega
      have cc : ∀ m, Calls Try.prog 9 #[.bool (U r), .int .i64 (On r), .slice (A r) (L r) (C r), .slice (some ⟨g5, 0, none⟩) n n, .int .i64 kk] (w6.drewN m) fun e w' => e = .returned (.bool (Pl.completed (U r) (On r) (Zn r) (Pl.fx nT Tn F) kk)) ∧ w' = w6.drewN m := fun m => by
        cases hu : U r
        · exact completed_no (On r) (A r) (L r) (C r) g5 n kk (Zn r) (Pl.fx nT Tn F) (w6.drewN m)
        · exact completed_yes (On r) (A r) (L r) (C r) (RB r) (RO r) g5 n kk (Zn r) (Pl.fx nT Tn F) (w6.drewN m) (hI6.hOL r hlt) (hI6.hL r hlt) (hI6.hA r hlt) (hI6.hZ r hlt) (hI6.hZn r hlt) hF6
      obtain ⟨cr, hcr⟩ : ∃ cr, cr = Pl.completed (U r) (On r) (Zn r) (Pl.fx nT Tn F) kk := ⟨_, rfl⟩
      rw [← hcr] at cc
      have HC : Hid (cr = Pl.completed (U r) (On r) (Zn r) (Pl.fx nT Tn F) kk) := hcr
      have CC : Hid (∀ m, Calls Try.prog 9 #[.bool (U r), .int .i64 (On r), .slice (A r) (L r) (C r), .slice (some ⟨g5, 0, none⟩) n n, .int .i64 kk] (w6.drewN m) fun e w' => e = .returned (.bool cr) ∧ w' = w6.drewN m) := cc
      clear hcr cc hI6 hF6
      go_wp2_with fail
      go_quiet ((go_at_call 9; exact Calls.quiet_of_same (CC.out _)))
      cases hcr : cr
      · rw [hcr] at HC
        clear hcr CC x1 x2 x3
        go_wp2
        go_roundg (nU - (r + 1))
        case measure => omega
        case rel =>
          refine ⟨r + 1, q + nq, by omega, by omega, rfl, by go_num, rfl, HDr.out nq, fun j j1 j2 => ?_⟩
          by_cases e : j = r
          · subst e; exact HC.out.symm
          · exact HNo.out j j1 (by omega)
      · rw [hcr] at HC
        have hq : IsFirst nU (fun i => Pl.completed (U i) (On i) (Zn i) (Pl.fx nT Tn F) kk) (r : Int) := Or.inl ⟨r, hr1, hlt, HC.out.symm, HNo.out, rfl⟩
        have hbb := HA.out.either hq HBb.out
        have e1 : ((r : Int) != -1) = true := by simp
        clear hcr CC x1 x2 x3 HC HNo hq
        by_cases ea : a = -1
        · rw [if_pos ⟨by omega, Or.inl ea⟩] at hbb
          subst ea
          subst hbb
          go_wp2
          go_ret
          exact ⟨by simp, below_drewN hW6 _⟩
        · have e2 : (a == -1) = false := by simpa using ea
          by_cases el : (r : Int) < a
          · rw [if_pos ⟨by omega, Or.inr el⟩] at hbb
            subst hbb
            clear ea
            go_wp2
            go_ret
            exact ⟨by simp, below_drewN hW6 _⟩
          · rw [if_neg (by omega)] at hbb
            subst hbb
            clear ea
            go_wp2
            go_ret
            exact ⟨by simp, below_drewN hW6 _⟩
    · have hq : IsFirst nU (fun i => Pl.completed (U i) (On i) (Zn i) (Pl.fx nT Tn F) kk) (-1) := Or.inr ⟨fun j j1 j2 => HNo.out j j1 (by omega), rfl⟩
      have hbb := HA.out.either hq HBb.out
      rw [if_neg (by simp)] at hbb
      subst hbb
      clear HNo hq
      go_wp2
      go_ret
      exact ⟨by simp, below_drewN HW.out _⟩

end Go.Proofs.Qxb6615124a
