/- FnGroupsLenCountsTheGroupsThatTileMembers: the walk's second half (behind the three copies). -/
import Derived.Test.Qxb6615556aRows
import Derived.Test.Qxb6615556aGrpA
import Derived.WalkKit
import Derived.WalkSpells
import Derived.WalkLawsBesides
import Derived.Deep.LoopGhost
import Derived.Deep.QuietTactic
import Derived.BigQuiet
namespace Go.Proofs.Qxb6615556a
open Go.RowKit

def Fine (w : World) (e : Ending) (w' : World) : Prop := e = .returned (.bool true) ∧ Below w.heap.size w w'

/-- The function's statements from the k-th on. -/
def dropS : Nat → Code → Code
  | 0, c => c
  | n + 1, .seq _ b => dropS n b
  | _ + 1, c => c

theorem mono_all {n : Nat} {S : Nat → Int} (h : ∀ i, 1 ≤ i → i < n → S (i - 1) ≤ S i) : ∀ i j, i ≤ j → j < n → S i ≤ S j := by
  intro i j hij
  induction j with
  | zero => intro _; obtain rfl : i = 0 := by omega
            exact Int.le_refl _
  | succ m ih =>
    intro hm
    by_cases e : i = m + 1
    · subst e; exact Int.le_refl _
    · have h1 := ih (by omega) (by omega)
      have h2 := h (m + 1) (by omega) hm
      simp only [Nat.add_sub_cancel] at h2
      omega

set_option maxRecDepth 100000 in
set_option maxHeartbeats 2000000 in
theorem grp_rest (oa ma : Option Addr) (nO cO nM cM nS cS mb mo sb so : Nat) (M S : Nat → Int) (w w1 : World) (hb1 : Below w.heap.size w w1)
    (lM : nM ≤ 4096) (lS : nS ≤ 4096) (lS1 : 1 ≤ nS) (hcM : nM ≤ cM) (lcM : cM ≤ 9223372036854775807)
    (hma : 0 < nM → ma = some ⟨mb, mo, none⟩) (hM : ∀ i, i < nM → w1.cell? ⟨mb, mo + i, none⟩ = some (.int .i32 (M i)))
    (hS : ∀ i, i < nS → w1.cell? ⟨sb, so + i, none⟩ = some (.int .i64 (S i))) (hS0 : S 0 = 0) (hS1 : S (nS - 1) = (nM : Int))
    (u3 u4 u5 u6 u7 u8 u9 u10 u11 u12 u13 u14 u15 u16 u17 u18 u19 u20 u21 u22 u23 u24 u25 u26 u27 u28 u29 u30 u31 u32 u33 u34 u35 u36 u37 u38 u39 u40 u41 u42 u43 u44 u45 u46 u47 u48 u49 u50 u51 u52 u53 u54 u55 u56 u57 u58 u59 u60 u61 u62 u63 u64 u65 u66 u67 u68 u69 u70 u71 u72 u73 u74 u75 u76 u77 u78 u79 u80 u81 u82 u83 u84 u85 u86 u87 u88 u89 u90 u91 u92 u93 u94 u95 u96 u97 u98 u99 u100 u101 u102 u103 u104 u105 u106 u107 u108 u109 u110 u111 u112 u113 u114 u115 u116 u117 u118 u119 u120 u121 u122 u123 u124 u125 u126 u127 u128 u129 u130 u131 u132 u133 u134 u135 u136 u137 u138 u139 u140 u141 u142 u143 u144 u145 u146 u147 u148 u149 u150 u151 u152 u153 u154 u155 : Value) :
    Code.wp Try.prog (dropS 7 (Try.f4.body.getD .skip)) (bodyPost Try.prog Try.f4 (Fine w)) ⟨#[.slice oa nO cO, .slice ma nM cM, .slice (some ⟨sb, so, none⟩) nS cS, u3, u4, u5, u6, u7, u8, u9, u10, u11, u12, u13, u14, u15, u16, u17, u18, u19, u20, u21, u22, u23, u24, u25, u26, u27, u28, u29, u30, u31, u32, u33, u34, u35, u36, u37, u38, u39, u40, u41, u42, u43, u44, u45, u46, u47, u48, u49, u50, u51, u52, u53, u54, u55, u56, u57, u58, u59, u60, u61, u62, u63, u64, u65, u66, u67, u68, u69, u70, u71, u72, u73, u74, u75, u76, u77, u78, u79, u80, u81, u82, u83, u84, u85, u86, u87, u88, u89, u90, u91, u92, u93, u94, u95, u96, u97, u98, u99, u100, u101, u102, u103, u104, u105, u106, u107, u108, u109, u110, u111, u112, u113, u114, u115, u116, u117, u118, u119, u120, u121, u122, u123, u124, u125, u126, u127, u128, u129, u130, u131, u132, u133, u134, u135, u136, u137, u138, u139, u140, u141, u142, u143, u144, u145, u146, u147, u148, u149, u150, u151, u152, u153, u154, u155], []⟩ w1 := by
  conv => arg 2; whnf
  have HQ : Hid (S 0 = 0 ∧ S (nS - 1) = (nM : Int)) := ⟨hS0, hS1⟩
  have HM : Hid ((0 < nM → ma = some ⟨mb, mo, none⟩) ∧ (∀ i, i < nM → w1.cell? ⟨mb, mo + i, none⟩ = some (.int .i32 (M i)))) := ⟨hma, hM⟩
  clear hS0 hS1 hma hM
  go_wp2
  go_loopg [10] (nS - 1) (fun g i wx => ∃ r q : Nat, 1 ≤ r ∧ r ≤ nS ∧ g = nS - r ∧ i = .int .i64 r ∧ wx = w1.drewN q ∧ ∀ i, 1 ≤ i → i < r → S (i - 1) ≤ S i)
  case atStart => exact ⟨1, 0, by omega, by omega, rfl, rfl, rfl, fun i h1 h2 => by omega⟩
  case round =>
    obtain ⟨r, q, hr1, hr, rfl, rfl, rfl, hmon⟩ := hrel
    have HMo : Hid (∀ i, 1 ≤ i → i < r → S (i - 1) ≤ S i) := hmon
    clear hmon
    by_cases hlt : r < nS
    · have a1 := hS r hlt
      have a2 := hS (r - 1) (by omega)
      have a3 : (r : Int) < (nS : Int) := by omega
      have a4 : (r : Int) - 1 < (nS : Int) := by omega
      have a5 : (0 : Int) ≤ (r : Int) - 1 := by omega
      clear hS
      by_cases hd : S r < S (r - 1)
      · go_wp2
        go_quiet (fail)
        go_wp2
        go_ret
        exact ⟨rfl, below_drewN (below_drewN hb1 _) _⟩
      · go_wp2
        go_quiet (fail)
        go_wp2
        go_roundg (nS - (r + 1))
        case measure => omega
        case rel =>
          refine ⟨r + 1, q + nq, by omega, by omega, rfl, by go_num, (by simp), fun i h1 h2 => ?_⟩
          by_cases e : i = r
          · subst e; omega
          · exact HMo.out i h1 (by omega)
    · obtain rfl : nS = r := by omega
      obtain ⟨Sn, hSn⟩ : ∃ Sn : Nat → Nat, Sn = fun i => (S i).toNat := ⟨_, rfl⟩
      have hall := mono_all HMo.out
      have hpos : ∀ i, i < nS → S i = (Sn i : Int) := fun i hi => by
        have := hall 0 i (by omega) hi
        have h0 := HQ.out.1
        rw [hSn]; simp only; omega
      have HSn : Hid ((∀ i, i < nS → w1.cell? ⟨sb, so + i, none⟩ = some (.int .i64 (Sn i))) ∧ (∀ i, i + 1 < nS → Sn i ≤ Sn (i + 1)) ∧ (∀ i, i < nS → Sn i ≤ nM) ∧ Sn 0 = 0 ∧ Sn (nS - 1) = nM) := by
        refine ⟨fun i hi => by rw [← hpos i hi]; exact hS i hi, fun i hi => ?_, fun i hi => ?_, ?_, ?_⟩
        · have h1 := hall i (i + 1) (by omega) hi
          have h2 := hpos i (by omega)
          have h3 := hpos (i + 1) hi
          omega
        · have h1 := hall i (nS - 1) (by omega) (by omega)
          have h2 := hpos i hi
          have h3 := HQ.out.2
          omega
        · have h2 := hpos 0 (by omega)
          have h3 := HQ.out.1
          omega
        · have h2 := hpos (nS - 1) (by omega)
          have h3 := HQ.out.2
          omega
      clear hS HMo HQ hSn hall hpos
      go_wp2_with fail
      refine (len8 oa ma (some ⟨sb, so, none⟩) nO cO nM cM nS cS _ lS lS1).mono ?_
      rintro e w2 ⟨rfl, hb2'⟩
      have hb2 : Below w1.heap.size w1 w2 := (below_drewN (Below.refl _ _) q).trans hb2'
      clear hb2'
      go_wp2_with fail
      go_loopg [12, 13] (nS - 1) (fun g s12 s13 wx => ∃ i : Nat, i ≤ nS - 1 ∧ g = nS - 1 - i ∧ s13 = .int .i64 i ∧ s12 = .int .i64 (Sn i) ∧ Below w1.heap.size w1 wx)
      case atStart => exact ⟨0, by omega, by omega, rfl, by rw [HSn.out.2.2.2.1]; rfl, hb2⟩
      case round =>
        obtain ⟨i, hi, rfl, rfl, rfl, hbi⟩ := hrel
        clear hb2
        by_cases hlt2 : i < nS - 1
        · have c1 : wr.cell? ⟨sb, so + i, none⟩ = some (.int .i64 (Sn i)) := cell_later hbi (HSn.out.1 i (by omega))
          have c2 : wr.cell? ⟨sb, so + (i + 1), none⟩ = some (.int .i64 (Sn (i + 1))) := cell_later hbi (HSn.out.1 (i + 1) (by omega))
          have l1 := HSn.out.2.1 i (by omega)
          have l2 := HSn.out.2.2.1 (i + 1) (by omega)
          obtain ⟨lo, hlo⟩ : ∃ lo, lo = Sn i := ⟨_, rfl⟩
          obtain ⟨hi', hhi⟩ : ∃ hi', hi' = Sn (i + 1) := ⟨_, rfl⟩
          rw [← hlo] at c1 l1
          rw [← hhi] at c2 l1 l2
          rw [← hlo]
          have HI : Hid (lo = Sn i ∧ hi' = Sn (i + 1)) := ⟨hlo, hhi⟩
          clear hlo hhi
          have cg := group9 oa ma nO cO nM cM nS cS sb so i lo hi' wr lS (by omega) l1 (by omega) c1 c2
          have a3 : (i : Int) < (nS : Int) - 1 := by omega
          go_wp2_with fail
          refine cg.mono ?_
          clear cg
          rintro e w3 ⟨rfl, hb3⟩
          have d1 : w3.cell? ⟨sb, so + i, none⟩ = some (.int .i64 lo) := cell_later hb3 c1
          have d2 : w3.cell? ⟨sb, so + (i + 1), none⟩ = some (.int .i64 hi') := cell_later hb3 c2
          have d3 : (((hi' - lo : Nat) : Int) != (hi' : Int) - (lo : Int)) = false := by
            have : ((hi' - lo : Nat) : Int) = (hi' : Int) - (lo : Int) := by omega
            simp [this]
          have d4 : (i : Int) + 1 < (nS : Int) := by omega
          have d5 : (i : Int) < (nS : Int) := by omega
          have hbw : Below w1.heap.size w1 w3 := hbi.trans (hb3.mono hbi.size)
          clear c1 c2 hbi hb3
          go_wp2
          go_quiet (fail)
          go_wp2
          have hbw2 : Below w1.heap.size w1 (w3.drewN nq) := below_drewN hbw _
          clear hbw d1 d2 d3 d4
          obtain ⟨ga, hga⟩ : ∃ ga, cutAt ma cM lo = ga := ⟨_, rfl⟩
          rw [hga]
          have HGa : Hid (lo < nM → ga = some ⟨mb, mo + lo, none⟩) := fun h => by
            rw [← hga, cutAt, if_neg (by omega), HM.out.1 (by omega)]
            simp [Addr.add]
          clear hga
          generalize w3.drewN nq = w4 at *
          go_loopg [12, 15] (hi' - lo) (fun g s12 s15 wx => ∃ j ps q : Nat, j ≤ hi' - lo ∧ g = hi' - lo - j ∧ s15 = .int .i64 j ∧ s12 = .int .i64 ps ∧ Hid (ps = lo + j) ∧ wx = w4.drewN q)
          case atStart => exact ⟨0, lo, 0, by omega, rfl, rfl, rfl, (rfl : lo = lo + 0), rfl⟩
          case round =>
            obtain ⟨j, ps, q3, hj, rfl, rfl, rfl, hps, rfl⟩ := hrel
            by_cases hjl : j < hi' - lo
            · have hpsM : ps < nM := by have := hps.out; omega
              have e1 : w4.cell? ⟨mb, mo + ps, none⟩ = some (.int .i32 (M ps)) := cell_later hbw2 (HM.out.2 ps hpsM)
              have e2 : w4.cell? ⟨mb, mo + lo + j, none⟩ = some (.int .i32 (M ps)) := by rw [Nat.add_assoc, ← hps.out]; exact e1
              have e3 : decide ((nM : Int) ≤ (ps : Int)) = false := by simpa using (by omega : (ps : Int) < nM)
              have e4 : (ps : Int) < (nM : Int) := by omega
              have e5 : (j : Int) < ((hi' - lo : Nat) : Int) := by omega
              obtain rfl := HGa.out (by omega)
              obtain rfl := HM.out.1 (by omega)
              clear HM HGa HSn
              go_wp2
              go_quiet (fail)
              go_wp2
              go_roundg (hi' - lo - (j + 1))
              case measure => omega
              case rel => exact ⟨j + 1, ps + 1, q3 + nq, by omega, rfl, by go_num, by go_num, (by have := hps.out; show ps + 1 = lo + (j + 1); omega), by simp⟩
            · have hpe : ps = hi' := by have := hps.out; omega
              have HPe : Hid (ps = hi') := hpe
              clear hpe hps
              have f1 : ¬ (j : Int) < ((hi' - lo : Nat) : Int) := by omega
              go_wp2
              go_roundg (nS - 1 - (i + 1))
              case measure => omega
              case rel => exact ⟨i + 1, by omega, rfl, by go_num, by rw [HPe.out, HI.out.2], below_drewN hbw2 _⟩
        · obtain rfl : i = nS - 1 := by omega
          have g1 : ¬ ((nS - 1 : Nat) : Int) < (nS : Int) - 1 := by omega
          have g2 : ((Sn (nS - 1) : Int) == (nM : Int)) = true := by rw [HSn.out.2.2.2.2]; simp
          go_wp2
          go_ret
          exact ⟨rfl, hb1.trans (hbi.mono hb1.size)⟩

end Go.Proofs.Qxb6615556a
