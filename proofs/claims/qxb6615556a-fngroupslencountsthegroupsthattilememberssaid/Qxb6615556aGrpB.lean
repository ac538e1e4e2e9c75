/- FnGroupsLenCountsTheGroupsThatTileMembers: the walk. -/
import Derived.Test.Qxb6615556aRows
import Derived.Test.Qxb6615556aGrpA
import Derived.Test.Qxb6615556aGrpR
import Derived.Test.Qxb6615556aCopy
import Derived.WalkKit
import Derived.WalkSpells
import Derived.WalkLawsBesides
import Derived.Deep.LoopGhost
import Derived.Deep.OwnRows
import Derived.Deep.QuietTactic
import Derived.BigQuiet
import Derived.Deep.Cut
import Derived.Deep.CutRange
import Derived.Deep.DeepCutAuto
import Derived.Deep.DeepMust
namespace Go.Proofs.Qxb6615556a
open Go.RowKit

theorem Try.info3 : (Try.prog.info? 3).map (fun i => (i.zero, i.size, i.bytes)) = some (some (.int .i64 0), 1, 8) := by kernel_rfl
theorem Try.info21 : (Try.prog.info? 21).map (fun i => (i.zero, i.size, i.bytes)) = some (some (.int .i32 0), 1, 4) := by kernel_rfl
theorem Try.size3 : (Try.prog.info? 3).map (·.size) = some 1 := by kernel_rfl
theorem Try.size21 : (Try.prog.info? 21).map (·.size) = some 1 := by kernel_rfl

set_option maxRecDepth 100000 in
set_option maxHeartbeats 2000000 in
theorem grp_walk (oa ma sa : Option Addr) (nO cO nM cM nS cS ob oo mb mo sb so : Nat) (V M S : Nat → Int) (w : World)
    (lO : nO ≤ 9223372036854775807) (lM : nM ≤ 9223372036854775807) (lS : nS ≤ 9223372036854775807)
    (hoa : 0 < nO → oa = some ⟨ob, oo, none⟩) (hV : ∀ i, i < nO → w.cell? ⟨ob, oo + i, none⟩ = some (.int .i64 (V i)))
    (hma : 0 < nM → ma = some ⟨mb, mo, none⟩) (hM : ∀ i, i < nM → w.cell? ⟨mb, mo + i, none⟩ = some (.int .i32 (M i)))
    (hsa : 0 < nS → sa = some ⟨sb, so, none⟩) (hS : ∀ i, i < nS → w.cell? ⟨sb, so + i, none⟩ = some (.int .i64 (S i)))
    (hma0 : ma = none → nM = 0 ∧ cM = 0) :
    Calls Try.prog 4 #[.slice oa nO cO, .slice ma nM cM, .slice sa nS cS] w (Fine w) := by
  have HMa0 : Hid (ma = none → nM = 0 ∧ cM = 0) := hma0
  clear hma0
  have HV : Hid ((0 < nO → oa = some ⟨ob, oo, none⟩) ∧ (∀ i, i < nO → w.cell? ⟨ob, oo + i, none⟩ = some (.int .i64 (V i)))) := ⟨hoa, hV⟩
  have HM : Hid ((0 < nM → ma = some ⟨mb, mo, none⟩) ∧ (∀ i, i < nM → w.cell? ⟨mb, mo + i, none⟩ = some (.int .i32 (M i)))) := ⟨hma, hM⟩
  clear hoa hV hma hM
  have c7 := bytes7 oa ma sa nO cO nM cM nS cS w lO lM lS
  go_enter Try.func4, Try.ntmps4
  go_wp2_with fail
  refine c7.mono ?_
  rintro e w' ⟨r, rfl, rfl⟩
  clear c7
  cases r
  · go_wp2_with fail
    go_ret
    exact ⟨rfl, Below.refl _ _⟩
  by_cases q1 : 4096 < nO
  · have d1 : decide ((4096 : Int) < (nO : Int)) = true := by simpa using (by omega : (4096 : Int) < nO)
    go_wp2_with fail
    go_ret
    exact ⟨rfl, Below.refl _ _⟩
  have d1 : decide ((4096 : Int) < (nO : Int)) = false := by simpa using (by omega : (nO : Int) ≤ 4096)
  by_cases q2 : 4096 < nM
  · have d2 : decide ((4096 : Int) < (nM : Int)) = true := by simpa using (by omega : (4096 : Int) < nM)
    go_wp2_with fail
    go_ret
    exact ⟨rfl, Below.refl _ _⟩
  have d2 : decide ((4096 : Int) < (nM : Int)) = false := by simpa using (by omega : (nM : Int) ≤ 4096)
  by_cases q3 : 4096 < nS
  · have d3 : decide ((4096 : Int) < (nS : Int)) = true := by simpa using (by omega : (4096 : Int) < nS)
    go_wp2_with fail
    go_ret
    exact ⟨rfl, Below.refl _ _⟩
  have d3 : decide ((4096 : Int) < (nS : Int)) = false := by simpa using (by omega : (nS : Int) ≤ 4096)
  by_cases q4 : nS < 1
  · have d4 : decide ((nS : Int) < 1) = true := by simpa using (by omega : (nS : Int) < 1)
    go_wp2_with fail
    go_ret
    exact ⟨rfl, Below.refl _ _⟩
  have d4 : decide ((nS : Int) < 1) = false := by simpa using (by omega : (1 : Int) ≤ nS)
  clear lO lM lS
  obtain rfl := hsa (by omega)
  have s0 : w'.cell? ⟨sb, so, none⟩ = some (.int .i64 (S 0)) := by simpa using hS 0 (by omega)
  have s1 : w'.cell? ⟨sb, so + (nS - 1), none⟩ = some (.int .i64 (S (nS - 1))) := hS (nS - 1) (by omega)
  by_cases q5 : S 0 = 0
  · by_cases q6 : S (nS - 1) = (nM : Int)
    · have q5' : (S 0 != 0) = false := by simp [q5]
      have q6' : (S (nS - 1) != (nM : Int)) = false := by simp [q6]
      have HQ : Hid (S 0 = 0 ∧ S (nS - 1) = (nM : Int)) := ⟨q5, q6⟩
      have HS : Hid (∀ i, i < nS → w'.cell? ⟨sb, so + i, none⟩ = some (.int .i64 (S i))) := hS
      clear q5 q6 hS hsa
      go_upto_if 55 with fail
      go_cut [0] (fun s0 wx => ∃ (a : Option Addr) (c : Nat), s0 = .slice a nO c ∧ Below w'.heap.size w' wx)
      case first =>
        cases oa with
        | none =>
          go_wp2_with fail
          go_meet
          case rel => exact ⟨none, cO, rfl, Below.refl _ _⟩
        | some ad =>
          have hmk := run_make_row' (P := Try.prog) 25 3 (.int .i64 0) 8 Try.underlying25 Try.info3 rfl .i64 .i64 nO (by omega) (by omega)
          go_upto_region 9 with fail
          clear hmk
          have tok3 : True := trivial
          go_wp2_with (have _t := tok3; refine wpList_copy_made rfl _ _ 25 25 rfl 3 Try.underlying25 Try.size3 w'.heap.size nO cO (some ad) rfl rfl _ 3 (World.rowIs_made w' (.int .i64 0) nO 3) ob oo HV.out.1 (fun i => .int .i64 (V i)) (fun i hi => cell_later ((Below.refl _ _).alloc (Nat.le_refl _) _) (HV.out.2 i hi)) (fun _ => rfl) ?_; intro w4 hrw4 hgr4; clear tok3)
          go_meet
          case rel => exact ⟨some ⟨w'.heap.size, 0, none⟩, nO, rfl, ((Below.refl _ _).alloc (Nat.le_refl _) _).grown hgr4 (by simp) (fun k e => by cases e; exact Nat.le_refl _)⟩
      case rest =>
        obtain ⟨oa2, cO2, rfl, hb2⟩ := hcut
        clear HV d1 d2 d3 d4 s0 s1 q5' q6'
        obtain ⟨w2, hw2⟩ : ∃ w2 : World, w2 = wc := ⟨_, rfl⟩
        subst hw2
        go_upto_if 64 with fail
        go_cut [1] (fun s1 wx => ∃ (m2 : Option Addr) (mb2 mo2 c2 : Nat), s1 = .slice m2 nM c2 ∧ (0 < nM → m2 = some ⟨mb2, mo2, none⟩) ∧ (∀ i, i < nM → wx.cell? ⟨mb2, mo2 + i, none⟩ = some (.int .i32 (M i))) ∧ nM ≤ c2 ∧ c2 ≤ 9223372036854775807 ∧ Below w2.heap.size w2 wx)
        case first =>
          cases ma with
          | none =>
            have H00 : Hid (nM = 0 ∧ cM = 0) := HMa0.out rfl
            clear HMa0
            go_wp2_with fail
            go_meet
            case rel => exact ⟨none, mb, mo, cM, rfl, (fun h => by have := H00.out.1; omega), (fun i hi => by have := H00.out.1; omega), by have := H00.out; omega, by have := H00.out; omega, Below.refl _ _⟩
          | some ad =>
            have hmk := run_make_row' (P := Try.prog) 26 21 (.int .i32 0) 4 Try.underlying26 Try.info21 rfl .i64 .i64 nM (by omega) (by omega)
            go_upto_region 13 with fail
            clear hmk
            have tok3 : True := trivial
            go_wp2_with (have _t := tok3; refine wpList_copy_made rfl _ _ 26 26 rfl 21 Try.underlying26 Try.size21 w2.heap.size nM cM (some ad) rfl rfl _ 21 (World.rowIs_made w2 (.int .i32 0) nM 21) mb mo HM.out.1 (fun i => .int .i32 (M i)) (fun i hi => cell_later ((Below.refl _ _).alloc (Nat.le_refl _) _) (cell_later hb2 (HM.out.2 i hi))) (fun _ => rfl) ?_; intro w4 hrw4 hgr4; clear tok3)
            go_meet
            case rel => exact ⟨some ⟨w2.heap.size, 0, none⟩, w2.heap.size, 0, nM, rfl, fun _ => rfl, fun i hi => by rw [Nat.zero_add]; exact hrw4.cell hi, Nat.le_refl _, by omega, ((Below.refl _ _).alloc (Nat.le_refl _) _).grown hgr4 (by simp) (fun k e => by cases e; exact Nat.le_refl _)⟩
        case rest =>
          obtain ⟨m2, mb2, mo2, c2, rfl, v1, v2, v3, v4, hb3⟩ := hcut
          have HM2 : Hid ((0 < nM → m2 = some ⟨mb2, mo2, none⟩) ∧ (∀ i, i < nM → wc.cell? ⟨mb2, mo2 + i, none⟩ = some (.int .i32 (M i)))) := ⟨v1, v2⟩
          have hbw : Below w'.heap.size w' wc := hb2.trans (hb3.mono hb2.size)
          clear v1 v2 HM HMa0 hb2 hb3
          obtain ⟨w3, hw3⟩ : ∃ w3 : World, w3 = wc := ⟨_, rfl⟩
          subst hw3
          have hmk := run_make_row' (P := Try.prog) 25 3 (.int .i64 0) 8 Try.underlying25 Try.info3 rfl .i64 .i64 nS (by omega) (by omega)
          go_upto_if 73 with fail
          go_cut [2] (fun s2 wx => s2 = .slice (some ⟨w3.heap.size, 0, none⟩) nS nS ∧ wx.rowIs w3.heap.size 3 nS (fun i => .int .i64 (S i)) ∧ Below w3.heap.size w3 wx)
          case first =>
            go_upto_region 17 with fail
            clear hmk
            have tok3 : True := trivial
            go_wp2_with (have _t := tok3; refine wpList_copy_made rfl _ _ 25 25 rfl 3 Try.underlying25 Try.size3 w3.heap.size nS cS (some ⟨sb, so, none⟩) rfl rfl _ 3 (World.rowIs_made w3 (.int .i64 0) nS 3) sb so (fun _ => rfl) (fun i => .int .i64 (S i)) (fun i hi => cell_later ((Below.refl _ _).alloc (Nat.le_refl _) _) (cell_later hbw (HS.out i hi))) (fun _ => rfl) ?_; intro w4 hrw4 hgr4; clear tok3)
            go_meet
            case rel => exact ⟨rfl, hrw4, ((Below.refl _ _).alloc (Nat.le_refl _) _).grown hgr4 (by simp) (fun k e => by cases e; exact Nat.le_refl _)⟩
          case rest =>
            obtain ⟨rfl, hrw, hb4⟩ := hcut
            clear hmk
            go_step
            exact grp_rest oa2 m2 nO cO2 nM c2 nS nS mb2 mo2 w3.heap.size 0 M S w' wc (hbw.trans (hb4.mono hbw.size)) (by omega) (by omega) (by omega) v3 v4 HM2.out.1 (fun i hi => cell_later hb4 (HM2.out.2 i hi)) (fun i hi => by rw [Nat.zero_add]; exact hrw.cell hi) HQ.out.1 HQ.out.2 _ _ _ _ _ _ _ _ _ _ _ _ _ _ _ _ _ _ _ _ _ _ _ _ _ _ _ _ _ _ _ _ _ _ _ _ _ _ _ _ _ _ _ _ _ _ _ _ _ _ _ _ _ _ _ _ _ _ _ _ _ _ _ _ _ _ _ _ _ _ _ _ _ _ _ _ _ _ _ _ _ _ _ _ _ _ _ _ _ _ _ _ _ _ _ _ _ _ _ _ _ _ _ _ _ _ _ _ _ _ _ _ _ _ _ _ _ _ _ _ _ _ _ _ _ _ _ _ _ _ _ _ _ _ _ _ _ _ _ _ _ _ _ _ _ _ _ _ _ _ _ _ _
    · have q5' : (S 0 != 0) = false := by simp [q5]
      have q6' : (S (nS - 1) != (nM : Int)) = true := by simpa using q6
      clear q5 q6 hS
      go_wp2_with fail
      go_ret
      exact ⟨rfl, Below.refl _ _⟩
  · have q5' : (S 0 != 0) = true := by simpa using q5
    clear q5 hS s1
    go_wp2_with fail
    go_ret
    exact ⟨rfl, Below.refl _ _⟩

end Go.Proofs.Qxb6615556a
