/- The law's own walk. -/
import Derived.Test.Qxb6615124aRows
import Derived.Test.Qxb6615124aLeafA
import Derived.Test.Qxb6615124aLeafB
import Derived.Test.Qxb6615124aLeafC
import Derived.Test.Qxb6615124aLaw
import Derived.Test.Qxb6615124aCopy
import Derived.Test.Qxb6615124aEnv
import Derived.Test.Qxb6615124aRestA
import Derived.WalkKit
import Derived.WalkSpells
import Derived.WalkLawsBesides
import Derived.Deep.LoopGhost
import Derived.Deep.OwnRows
import Derived.Deep.QuietTactic
import Derived.BigQuiet
import Derived.Deep.Cut
import Derived.Deep.CutRange
import Derived.Deep.DeepCutAuto
import Derived.Deep.DeepMust
namespace Go.Proofs.Qxb6615124a
open Go.RowKit

set_option maxRecDepth 100000 in
set_option maxHeartbeats 2000000 in
theorem main_walk (nc k p : Int) (ua oa ca ta fa : Option Addr) (nU cU nO cO nC cC nT cT nF cF : Nat) (ub uo ob oo cb co tb tx fb fo : Nat) (U : Nat → Bool) (O : Nat → Int) (A : Nat → Option Addr) (L C RB RO : Nat → Nat) (Z : Nat → Nat → Int) (T : Nat → Int) (F : Nat → Bool) (w : World)
    (mU : nU ≤ 9223372036854775807) (mO : nO ≤ 9223372036854775807) (mC : nC ≤ 9223372036854775807) (mT : nT ≤ 9223372036854775807) (mF : nF ≤ 9223372036854775807) (mL : ∀ r, r < nC → L r ≤ 9223372036854775807)
    (hua : 0 < nU → ua = some ⟨ub, uo, none⟩) (hUc : ∀ i, i < nU → w.cell? ⟨ub, uo + i, none⟩ = some (.bool (U i)))
    (hoa : 0 < nO → oa = some ⟨ob, oo, none⟩) (hOc : ∀ i, i < nO → w.cell? ⟨ob, oo + i, none⟩ = some (.int .i64 (O i)))
    (hca : 0 < nC → ca = some ⟨cb, co, none⟩) (hrow : ∀ r, r < nC → w.cell? ⟨cb, co + r, none⟩ = some (.slice (A r) (L r) (C r)))
    (hA : ∀ r, r < nC → 0 < L r → A r = some ⟨RB r, RO r, none⟩) (hZ : ∀ r, r < nC → ∀ j, j < L r → w.cell? ⟨RB r, RO r + j, none⟩ = some (.int .i64 (Z r j)))
    (hta : 0 < nT → ta = some ⟨tb, tx, none⟩) (hTc : ∀ i, i < nT → w.cell? ⟨tb, tx + i, none⟩ = some (.int .i64 (T i)))
    (hfa : 0 < nF → fa = some ⟨fb, fo, none⟩) (hFc : ∀ i, i < nF → w.cell? ⟨fb, fo + i, none⟩ = some (.bool (F i)))
    (hta0 : ta = none → nT = 0 ∧ cT = 0) (hfa0 : fa = none → nF = 0 ∧ cF = 0) :
    Calls Try.prog 3 #[.int .i64 nc, .slice ua nU cU, .slice oa nO cO, .slice ca nC cC, .slice ta nT cT, .slice fa nF cF, .int .i64 k, .int .i64 p] w (Fine w) := by
  have HTa0 : Hid (ta = none → nT = 0 ∧ cT = 0) := hta0
  have HFa0 : Hid (fa = none → nF = 0 ∧ cF = 0) := hfa0
  clear hta0 hfa0
  have c4 := bytes_any nc k p ua oa ca ta fa nU cU nO cO nC cC nT cT nF cF cb co A L C w mU mO mC mT mF mL hca hrow
  go_enter Try.func3, Try.ntmps3
  go_wp2_with fail
  refine c4.mono ?_
  rintro e w' ⟨r, rfl, rfl, hr⟩
  clear c4
  cases r
  · go_wp2_with fail
    go_ret
    exact ⟨rfl, Below.refl _ _⟩
  obtain ⟨bU, bO, bC, bT, bF, bL⟩ := hr rfl
  clear hr mU mO mC mT mF mL
  have c5 := fit_any ua oa ca ta fa nU cU nO cO nC cC nT cT nF cF cb co A L C w' bU bO bC bT bF bL hca hrow
  go_wp2_with fail
  refine c5.mono ?_
  rintro e w ⟨r, rfl, rfl⟩
  clear c5
  cases r
  · go_wp2_with fail
    go_ret
    exact ⟨rfl, Below.refl _ _⟩
  by_cases hn0 : nc < 0
  · go_wp2_with fail
    go_ret
    exact ⟨rfl, Below.refl _ _⟩
  by_cases hn1 : 65536 < nc
  · go_wp2_with fail
    go_ret
    exact ⟨rfl, Below.refl _ _⟩
  obtain ⟨n, rfl⟩ : ∃ n : Nat, nc = (n : Int) := ⟨nc.toNat, by omega⟩
  have hn : n ≤ 65536 := by omega
  clear hn0 hn1
  by_cases hpre : nU = 0 ∨ ¬ nO = nU ∨ ¬ nC = nU ∨ ¬ nF = nT
  · have c6 := premise_no n ua oa ca ta fa nU cU nO cO nC cC nT cT nF cF w ⟨bU, bO, bC, bT, bF⟩ hpre
    clear hpre
    go_wp2_with fail
    refine c6.mono ?_
    rintro e w' ⟨rfl, rfl⟩
    go_wp2_with fail
    go_ret
    exact ⟨rfl, Below.refl _ _⟩
  obtain ⟨q1, q2, q3, q4⟩ : ¬ nU = 0 ∧ nU = nO ∧ nU = nC ∧ nT = nF := by omega
  subst q2
  subst q3
  subst q4
  clear hpre bO bC bF
  have c6 := premise_go n ua oa ca ta fa nU cU cO cC nT cT cF ob oo cb co tb tx O A L C RB RO Z T w hn bU (by omega) bT bL hoa hOc hca hrow hA hZ hta hTc
  go_wp2_with fail
  refine c6.mono ?_
  clear c6
  rintro e w1 ⟨r, rfl, hb1, hr⟩
  cases r
  · go_wp2_with fail
    go_ret
    exact ⟨rfl, hb1⟩
  obtain ⟨g1, g2, g3⟩ := hr rfl
  clear hr
  by_cases hk0 : k < 0
  · clear hUc hOc hrow hA hZ hta hTc hfa hFc g1 g2 g3
    go_wp2_with fail
    go_ret
    exact ⟨rfl, hb1⟩
  by_cases hk1 : (n : Int) ≤ k
  · clear hUc hOc hrow hA hZ hta hTc hfa hFc g1 g2 g3
    go_wp2_with fail
    go_ret
    exact ⟨rfl, hb1⟩
  obtain ⟨kk, rfl⟩ : ∃ kk : Nat, k = (kk : Int) := ⟨k.toNat, by omega⟩
  have hkk : kk < n := by omega
  clear hk0 hk1
  -- plain numbers
  obtain rfl := hua (by omega)
  obtain rfl := hoa (by omega)
  obtain rfl := hca (by omega)
  obtain ⟨On, hOn⟩ : ∃ On : Nat → Nat, On = fun i => (O i).toNat := ⟨_, rfl⟩
  obtain ⟨Zn, hZn⟩ : ∃ Zn : Nat → Nat → Nat, Zn = fun i j => (Z i j).toNat := ⟨_, rfl⟩
  obtain ⟨Tn, hTn⟩ : ∃ Tn : Nat → Nat, Tn = fun i => (T i).toNat := ⟨_, rfl⟩
  have HIn : Hid ((∀ i, i < nU → w1.cell? ⟨ub, uo + i, none⟩ = some (.bool (U i))) ∧ (∀ i, i < nU → w1.cell? ⟨ob, oo + i, none⟩ = some (.int .i64 (On i))) ∧ (∀ r, r < nU → w1.cell? ⟨cb, co + r, none⟩ = some (.slice (A r) (L r) (C r))) ∧
      (∀ r, r < nU → 0 < L r → A r = some ⟨RB r, RO r, none⟩) ∧ (∀ r, r < nU → ∀ j, j < L r → w1.cell? ⟨RB r, RO r + j, none⟩ = some (.int .i64 (Zn r j)))) := by
    refine ⟨fun i hi => cell_later hb1 (hUc i hi), fun i hi => ?_, fun r hr => cell_later hb1 (hrow r hr), hA, fun r hr j hj => ?_⟩
    · rw [cell_later hb1 (hOc i hi), hOn]; have := (g1 i hi).1; simp; omega
    · rw [cell_later hb1 (hZ r hr j hj), hZn]; have := ((g1 r hr).2.2 j hj).1; simp; omega
  have HTm : Hid ((0 < nT → ta = some ⟨tb, tx, none⟩) ∧ (∀ i, i < nT → w1.cell? ⟨tb, tx + i, none⟩ = some (.int .i64 (Tn i))) ∧ (0 < nT → fa = some ⟨fb, fo, none⟩) ∧ (∀ i, i < nT → w1.cell? ⟨fb, fo + i, none⟩ = some (.bool (F i)))) := by
    refine ⟨hta, fun i hi => ?_, hfa, fun i hi => cell_later hb1 (hFc i hi)⟩
    rw [cell_later hb1 (hTc i hi), hTn]; have := (g2 i hi).1; simp; omega
  have HB : Hid ((∀ i, i < nU → On i ≤ L i) ∧ (∀ i, i < nU → ∀ j, j < L i → Zn i j < n) ∧ (∀ i, i < nT → Tn i < n) ∧ (∀ i j, i < j → j < nT → Tn i ≠ Tn j) ∧ (∀ i, i < nU → L i ≤ 1048576)) := by
    subst hOn; subst hZn; subst hTn
    refine ⟨fun i hi => ?_, fun i hi j hj => ?_, fun i hi => ?_, fun i j hij hj => ?_, bL⟩
    · have := g1 i hi; simp only; omega
    · have := (g1 i hi).2.2 j hj; simp only; omega
    · have := g2 i hi; simp only; omega
    · have a1 := g2 i (by omega); have a2 := g2 j hj; have a3 := g3 i j hij hj; simp only; omega
  clear hUc hOc hrow hA hZ hta hTc hfa hFc g1 g2 g3 bL hOn hZn hTn hua hoa hca
  have hmk1 := run_make_row' (P := Try.prog) 22 4 (.bool false) 1 Try.underlying22 Try.info4 rfl .i64 .i64 nU (by omega) (by omega)
  have hmk2 := run_make_row' (P := Try.prog) 23 3 (.int .i64 0) 8 Try.underlying23 Try.info3 rfl .i64 .i64 nU (by omega) (by omega)
  go_upto_region 13 with fail
  have tok1 : True := trivial
  go_upto_region 17 with (have _t := tok1; refine wpList_copy_made rfl _ _ 22 22 rfl 4 Try.underlying22 Try.size4 w1.heap.size nU cU (some ⟨ub, uo, none⟩) rfl rfl _ 4 (World.rowIs_made w1 (.bool false) nU 4) ub uo (fun _ => rfl) (fun i => .bool (U i)) (fun i hi => cell_later ((Below.refl _ _).alloc (Nat.le_refl _) _) (HIn.out.1 i hi)) (fun _ => rfl) ?_; intro w2 hrw2 hgr2; clear tok1)
  have hb2 : Below w1.heap.size w1 w2 := ((Below.refl _ _).alloc (Nat.le_refl _) _).grown hgr2 (by simp) (fun k e => by cases e; exact Nat.le_refl _)
  have tok2 : True := trivial
  go_upto_if 92 with (have _t := tok2; refine wpList_copy_made rfl _ _ 23 23 rfl 3 Try.underlying23 Try.size3 w2.heap.size nU cO (some ⟨ob, oo, none⟩) rfl rfl _ 3 (World.rowIs_made w2 (.int .i64 0) nU 3) ob oo (fun _ => rfl) (fun i => .int .i64 (On i)) (fun i hi => cell_later ((Below.refl _ _).alloc (Nat.le_refl _) _) (cell_later hb2 (HIn.out.2.1 i hi))) (fun _ => rfl) ?_; intro w3 hrw3 hgr3; clear tok2)
  have hb23 : Below w2.heap.size w2 w3 := ((Below.refl _ _).alloc (Nat.le_refl _) _).grown hgr3 (by simp) (fun k e => by cases e; exact Nat.le_refl _)
  have hb3 : Below w1.heap.size w1 w3 := hb2.trans (hb23.mono hb2.size)
  have HIn3 : Hid ((∀ i, i < nU → w3.cell? ⟨w1.heap.size, 0 + i, none⟩ = some (.bool (U i))) ∧ (∀ i, i < nU → w3.cell? ⟨w2.heap.size, 0 + i, none⟩ = some (.int .i64 (On i))) ∧ (∀ r, r < nU → w3.cell? ⟨cb, co + r, none⟩ = some (.slice (A r) (L r) (C r))) ∧
      (∀ r, r < nU → 0 < L r → A r = some ⟨RB r, RO r, none⟩) ∧ (∀ r, r < nU → ∀ j, j < L r → w3.cell? ⟨RB r, RO r + j, none⟩ = some (.int .i64 (Zn r j)))) := by
    obtain ⟨_, _, a3, a4, a5⟩ := HIn.out
    refine ⟨fun i hi => ?_, fun i hi => ?_, fun r hr => cell_later hb3 (a3 r hr), a4, fun r hr j hj => cell_later hb3 (a5 r hr j hj)⟩
    · rw [Nat.zero_add]; exact cell_later hb23 (hrw2.cell hi)
    · rw [Nat.zero_add]; exact hrw3.cell hi
  have HTm3 : Hid ((0 < nT → ta = some ⟨tb, tx, none⟩) ∧ (∀ i, i < nT → w3.cell? ⟨tb, tx + i, none⟩ = some (.int .i64 (Tn i))) ∧ (0 < nT → fa = some ⟨fb, fo, none⟩) ∧ (∀ i, i < nT → w3.cell? ⟨fb, fo + i, none⟩ = some (.bool (F i)))) := by
    obtain ⟨a1, a2, a3, a4⟩ := HTm.out
    exact ⟨a1, fun i hi => cell_later hb3 (a2 i hi), a3, fun i hi => cell_later hb3 (a4 i hi)⟩
  have HW3 : Hid (Below w.heap.size w w3) := hb1.trans (hb3.mono hb1.size)
  clear hgr2 hgr3 hrw2 hrw3 hb2 hb23 hb3 HIn HTm hmk1 hmk2
  go_cut [4] (fun s4 wx => ∃ (t2 : Option Addr) (tb2 tx2 c2 : Nat), s4 = .slice t2 nT c2 ∧ (0 < nT → t2 = some ⟨tb2, tx2, none⟩) ∧ (∀ i, i < nT → wx.cell? ⟨tb2, tx2 + i, none⟩ = some (.int .i64 (Tn i))) ∧ (t2 = none → nT = 0 ∧ c2 = 0) ∧ nT ≤ c2 ∧ c2 ≤ 9223372036854775807 ∧ Below w3.heap.size w3 wx)
  case first =>
    cases ta with
    | none =>
      have H00 : Hid (nT = 0 ∧ cT = 0) := HTa0.out rfl
      clear HTa0
      go_wp2_with fail
      go_meet
      case rel => exact ⟨none, tb, tx, cT, rfl, (fun h => by have := H00.out.1; omega), (fun i hi => by have := H00.out.1; omega), fun _ => H00.out, by have := H00.out; omega, by have := H00.out; omega, Below.refl _ _⟩
    | some ad =>
      have hmk := run_make_row' (P := Try.prog) 23 3 (.int .i64 0) 8 Try.underlying23 Try.info3 rfl .i64 .i64 nT (by omega) (by omega)
      go_upto_region 21 with fail
      clear hmk
      have tok3 : True := trivial
      go_wp2_with (have _t := tok3; refine wpList_copy_made rfl _ _ 23 23 rfl 3 Try.underlying23 Try.size3 w3.heap.size nT cT (some ad) rfl rfl _ 3 (World.rowIs_made w3 (.int .i64 0) nT 3) tb tx HTm3.out.1 (fun i => .int .i64 (Tn i)) (fun i hi => cell_later ((Below.refl _ _).alloc (Nat.le_refl _) _) (HTm3.out.2.1 i hi)) (fun _ => rfl) ?_; intro w4 hrw4 hgr4; clear tok3)
      go_meet
      case rel => exact ⟨some ⟨w3.heap.size, 0, none⟩, w3.heap.size, 0, nT, rfl, fun _ => rfl, fun i hi => by rw [Nat.zero_add]; exact hrw4.cell hi, (fun e => by cases e), Nat.le_refl _, by omega, ((Below.refl _ _).alloc (Nat.le_refl _) _).grown hgr4 (by simp) (fun k e => by cases e; exact Nat.le_refl _)⟩
  case rest =>
    obtain ⟨t2, tb2, tx2, c2, rfl, v1, v2, v3, v4, v5, hb4⟩ := hcut
    have HT4 : Hid ((0 < nT → t2 = some ⟨tb2, tx2, none⟩) ∧ (∀ i, i < nT → wc.cell? ⟨tb2, tx2 + i, none⟩ = some (.int .i64 (Tn i))) ∧ (t2 = none → nT = 0 ∧ c2 = 0) ∧ (0 < nT → fa = some ⟨fb, fo, none⟩) ∧ (∀ i, i < nT → wc.cell? ⟨fb, fo + i, none⟩ = some (.bool (F i)))) :=
      ⟨v1, v2, v3, HTm3.out.2.2.1, fun i hi => cell_later hb4 (HTm3.out.2.2.2 i hi)⟩
    clear v1 v2 v3 HTm3 HTa0
    obtain ⟨w4, hw4⟩ : ∃ w4 : World, w4 = wc := ⟨_, rfl⟩
    subst hw4
    go_upto_if 101 with fail
    go_cut [5] (fun s5 wx => ∃ (f2 : Option Addr) (fb2 fo2 d2 : Nat), s5 = .slice f2 nT d2 ∧ (0 < nT → f2 = some ⟨fb2, fo2, none⟩) ∧ (∀ i, i < nT → wx.cell? ⟨fb2, fo2 + i, none⟩ = some (.bool (F i))) ∧ (f2 = none → nT = 0 ∧ d2 = 0) ∧ nT ≤ d2 ∧ d2 ≤ 9223372036854775807 ∧ Below w4.heap.size w4 wx)
    case first =>
      cases fa with
      | none =>
        have H00 : Hid (nT = 0 ∧ cF = 0) := HFa0.out rfl
        clear HFa0
        go_wp2_with fail
        go_meet
        case rel => exact ⟨none, fb, fo, cF, rfl, (fun h => by have := H00.out.1; omega), (fun i hi => by have := H00.out.1; omega), fun _ => H00.out, by have := H00.out; omega, by have := H00.out; omega, Below.refl _ _⟩
      | some ad =>
        have hmk := run_make_row' (P := Try.prog) 22 4 (.bool false) 1 Try.underlying22 Try.info4 rfl .i64 .i64 nT (by omega) (by omega)
        go_upto_region 25 with fail
        clear hmk
        have tok3 : True := trivial
        go_wp2_with (have _t := tok3; refine wpList_copy_made rfl _ _ 22 22 rfl 4 Try.underlying22 Try.size4 w4.heap.size nT cF (some ad) rfl rfl _ 4 (World.rowIs_made w4 (.bool false) nT 4) fb fo HT4.out.2.2.2.1 (fun i => .bool (F i)) (fun i hi => cell_later ((Below.refl _ _).alloc (Nat.le_refl _) _) (HT4.out.2.2.2.2 i hi)) (fun _ => rfl) ?_; intro w5 hrw5 hgr5; clear tok3)
        go_meet
        case rel => exact ⟨some ⟨w4.heap.size, 0, none⟩, w4.heap.size, 0, nT, rfl, fun _ => rfl, fun i hi => by rw [Nat.zero_add]; exact hrw5.cell hi, (fun e => by cases e), Nat.le_refl _, by omega, ((Below.refl _ _).alloc (Nat.le_refl _) _).grown hgr5 (by simp) (fun k e => by cases e; exact Nat.le_refl _)⟩
    case rest =>
      obtain ⟨f2, fb2, fo2, d2, rfl, v1, v2, v3, v6, v7, hb5⟩ := hcut
      have hb35 : Below w3.heap.size w3 wc := hb4.trans (hb5.mono hb4.size)
      have hI5 : Inp wc n nU w1.heap.size w2.heap.size cb co U On A L C RB RO Zn := by
        obtain ⟨a1, a2, a3, a4, a5⟩ := HIn3.out
        exact ⟨fun i hi => cell_later hb35 (a1 i hi), fun i hi => cell_later hb35 (a2 i hi), fun r hr => cell_later hb35 (a3 r hr), a4, fun r hr j hj => cell_later hb35 (a5 r hr j hj), HB.out.1, HB.out.2.1, HB.out.2.2.2.2⟩
      have hT5 : Trs wc n nT t2 tb2 tx2 c2 f2 fb2 fo2 d2 Tn F :=
        ⟨HT4.out.1, fun i hi => cell_later hb5 (HT4.out.2.1 i hi), HT4.out.2.2.1, ⟨v4, v5⟩, v1, v2, v3, ⟨v6, v7⟩, HB.out.2.2.1, HB.out.2.2.2.1⟩
      have hW5 : Below w.heap.size w wc := HW3.out.trans (hb35.mono HW3.out.size)
      clear v1 v2 v3 HIn3 HT4 HW3 HFa0 hb4 hb5 hb35 hb1
      go_step
      exact rest_a n nU nT kk w1.heap.size w2.heap.size cb co cC U On A L C RB RO Zn t2 f2 tb2 tx2 c2 fb2 fo2 d2 Tn F p w wc hW5 hn bU (by omega) bT hkk hI5 hT5 _ _ _ _ _ _ _ _ _ _ _ _ _ _ _ _ _ _ _ _ _ _ _ _ _ _ _ _ _ _ _ _ _ _ _ _ _ _ _ _ _ _ _ _ _ _ _ _ _ _ _ _ _ _ _ _ _ _ _ _ _ _ _ _ _ _ _ _ _ _ _ _ _ _ _ _ _ _ _ _ _ _ _ _ _ _ _ _ _ _ _ _ _ _ _ _ _ _ _ _ _ _ _ _ _ _ _ _ _ _ _ _ _ _ _ _ _ _ _ _ _ _ _ _ _ _ _ _ _ _ _ _ _ _ _ _ _ _ _ _ _ _ _ _ _ _ _ _ _ _ _ _ _ _ _ _ _ _ _ _ _ _ _ _ _ _ _ _ _ _ _ _ _ _ _ _ _ _ _ _ _ _ _ _ _ _ _ _ _ _ _ _ _ _ _ _ _ _ _ _ _ _ _ _ _ _ _ _ _ _ _ _ _ _ _ _ _ _ _ _ _ _ _ _ _ _ _ _ _ _ _ _ _ _ _ _ _ _ _ _ _ _ _ _ _ _ _ _ _ _ _ _ _

end Go.Proofs.Qxb6615124a
