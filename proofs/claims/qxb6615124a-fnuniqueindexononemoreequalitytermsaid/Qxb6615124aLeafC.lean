/- zzIndexPremise -/
import Derived.Test.Qxb6615124aRows
import Derived.WalkKit
import Derived.WalkSpells
import Derived.WalkLawsBesides
import Derived.Deep.LoopGhost
import Derived.Deep.OwnRows
import Derived.Deep.QuietTactic
import Derived.BigQuiet
import Derived.Test.Qxb6615124aLeafB
namespace Go.Proofs.Qxb6615124a
open Go.RowKit

def seenB (r : Nat) (T : Nat → Int) (c : Nat) : Bool := (List.range r).any (fun i => T i == (c : Int))
theorem seenB_succ (r : Nat) (T : Nat → Int) (c : Nat) : seenB (r + 1) T c = (seenB r T c || T r == (c : Int)) := by
  simp [seenB, List.range_succ, List.any_append]
theorem seenB_no {r c : Nat} {T : Nat → Int} (h : seenB r T c = false) : ∀ i, i < r → T i ≠ (c : Int) := by
  intro i hi e
  simp only [seenB, List.any_eq_false] at h
  exact h i (List.mem_range.2 hi) (by simp [e])

theorem premise_no (n : Nat) (ua oa ca ta fa : Option Addr) (nU cU nO cO nC cC nT cT nF cF : Nat) (w : World) (hb : nU ≤ 1048576 ∧ nO ≤ 1048576 ∧ nC ≤ 1048576 ∧ nT ≤ 1048576 ∧ nF ≤ 1048576)
    (h : nU = 0 ∨ ¬ nO = nU ∨ ¬ nC = nU ∨ ¬ nF = nT) :
    Calls Try.prog 6 #[.int .i64 n, .slice ua nU cU, .slice oa nO cO, .slice ca nC cC, .slice ta nT cT, .slice fa nF cF] w fun e w' => e = .returned (.bool false) ∧ w' = w := by
  by_cases h0 : nU = 0
  · subst h0
    clear h hb
    go_enter Try.func6, Try.ntmps6
    go_wp2
    go_ret
    exact ⟨rfl, rfl⟩
  have b0 : ((nU : Int) == 0) = false := by simpa using h0
  by_cases h1 : nO = nU
  · subst h1
    by_cases h2 : nC = nO
    · subst h2
      have h3 : ¬ nF = nT := by omega
      have b3 : ((nF : Int) != (nT : Int)) = true := by simpa using (fun e => h3 (by omega))
      clear h hb
      go_enter Try.func6, Try.ntmps6
      go_wp2
      go_ret
      exact ⟨rfl, rfl⟩
    · have b2 : ((nC : Int) != (nO : Int)) = true := by simpa using (fun e => h2 (by omega))
      clear h hb
      go_enter Try.func6, Try.ntmps6
      go_wp2
      go_ret
      exact ⟨rfl, rfl⟩
  · have b1 : ((nO : Int) != (nU : Int)) = true := by simpa using (fun e => h1 (by omega))
    clear h hb
    go_enter Try.func6, Try.ntmps6
    go_wp2
    go_ret
    exact ⟨rfl, rfl⟩

/-- The call answers some bool, nothing that was there has turned; where it says true, 'good' holds. -/
def Told (w : World) (good : Prop) (e : Ending) (w' : World) : Prop := ∃ r : Bool, e = .returned (.bool r) ∧ Below w.heap.size w w' ∧ (r = true → good)

set_option maxHeartbeats 1000000 in
theorem premise_go (n : Nat) (ua oa ca ta fa : Option Addr) (nU cU cO cC nT cT cF : Nat) (ob oo cb co tb to : Nat) (O : Nat → Int) (A : Nat → Option Addr) (L C RB RO : Nat → Nat) (Z : Nat → Nat → Int) (T : Nat → Int) (w : World)
    (hn : n ≤ 65536) (hU : nU ≤ 1048576) (hU0 : 0 < nU) (hT : nT ≤ 1048576) (hL : ∀ i, i < nU → L i ≤ 1048576)
    (hoa : 0 < nU → oa = some ⟨ob, oo, none⟩) (hO : ∀ i, i < nU → w.cell? ⟨ob, oo + i, none⟩ = some (.int .i64 (O i)))
    (hca : 0 < nU → ca = some ⟨cb, co, none⟩) (hrow : ∀ r, r < nU → w.cell? ⟨cb, co + r, none⟩ = some (.slice (A r) (L r) (C r)))
    (hA : ∀ r, r < nU → 0 < L r → A r = some ⟨RB r, RO r, none⟩) (hZ : ∀ r, r < nU → ∀ j, j < L r → w.cell? ⟨RB r, RO r + j, none⟩ = some (.int .i64 (Z r j)))
    (hta : 0 < nT → ta = some ⟨tb, to, none⟩) (hTc : ∀ i, i < nT → w.cell? ⟨tb, to + i, none⟩ = some (.int .i64 (T i))) :
    Calls Try.prog 6 #[.int .i64 n, .slice ua nU cU, .slice oa nU cO, .slice ca nU cC, .slice ta nT cT, .slice fa nT cF] w
      (Told w ((∀ i, i < nU → 0 ≤ O i ∧ O i ≤ L i ∧ ∀ j, j < L i → 0 ≤ Z i j ∧ Z i j < n) ∧ (∀ i, i < nT → 0 ≤ T i ∧ T i < n) ∧ ∀ i j, i < j → j < nT → T i ≠ T j)) := by
  obtain rfl := hoa hU0
  obtain rfl := hca hU0
  have b0 : ((nU : Int) == 0) = false := by simpa using (by omega : nU ≠ 0)
  have hmk := run_make_row' (P := Try.prog) 22 4 (.bool false) 1 Try.underlying22 Try.info4 rfl .i64 .i64 n (by omega) (by omega)
  go_enter Try.func6, Try.ntmps6
  go_wp2
  go_loopg [13] nU (fun g i wr => ∃ r : Nat, r ≤ nU ∧ g = nU - r ∧ i = .int .i64 r ∧ Below w.heap.size w wr ∧ ∀ i, i < r → 0 ≤ O i ∧ O i ≤ L i ∧ ∀ j, j < L i → 0 ≤ Z i j ∧ Z i j < n)
  case atStart => exact ⟨0, Nat.zero_le _, rfl, rfl, Below.refl _ _, fun i hi => absurd hi (Nat.not_lt_zero _)⟩
  case round =>
    obtain ⟨r, hr, rfl, rfl, hb, hgood⟩ := hrel
    by_cases hlt : r < nU
    · have h1 : wr.cell? ⟨ob, oo + r, none⟩ = some (.int .i64 (O r)) := (hb.cell (World.block_lt_of_cell? _ _ (hO r hlt))).trans (hO r hlt)
      have h2 : wr.cell? ⟨cb, co + r, none⟩ = some (.slice (A r) (L r) (C r)) := (hb.cell (World.block_lt_of_cell? _ _ (hrow r hlt))).trans (hrow r hlt)
      have hZw : ∀ j, j < L r → wr.cell? ⟨RB r, RO r + j, none⟩ = some (.int .i64 (Z r j)) := fun j hj => (hb.cell (World.block_lt_of_cell? _ _ (hZ r hlt j hj))).trans (hZ r hlt j hj)
      have h3 : (r : Int) < (nU : Int) := by omega
      have hLr := hL r hlt
      have hAr := hA r hlt
      have HG : Hid (∀ i, i < r → 0 ≤ O i ∧ O i ≤ L i ∧ ∀ j, j < L i → 0 ≤ Z i j ∧ Z i j < n) := hgood
      clear hgood hmk hO hrow hA hZ hL hta hTc hoa hca
      by_cases hneg : O r < 0
      · have hd : decide (O r < 0) = true := by simpa using hneg
        go_wp2
        go_quiet (fail)
        go_wp2
        go_ret
        exact ⟨false, rfl, below_drewN hb _, fun h => by cases h⟩
      have hd : decide (O r < 0) = false := by simpa using hneg
      by_cases hgt : (L r : Int) < O r
      · go_wp2
        go_quiet (fail)
        go_wp2
        go_ret
        exact ⟨false, rfl, below_drewN hb _, fun h => by cases h⟩
      have hd2 : decide ((L r : Int) < O r) = false := by simpa using hgt
      go_wp2
      go_quiet (fail)
      go_wp2
      have hb1 : Below w.heap.size w (wr.drewN nq) := below_drewN hb _
      have h2' : (wr.drewN nq).cell? ⟨cb, co + r, none⟩ = some (.slice (A r) (L r) (C r)) := h2
      have hZ' : ∀ j, j < L r → (wr.drewN nq).cell? ⟨RB r, RO r + j, none⟩ = some (.int .i64 (Z r j)) := hZw
      clear hb h1 h2 hZw
      generalize wr.drewN nq = w1 at *
      go_loopg [14] (L r) (fun g i wi => wi = w1 ∧ ∃ j : Nat, j ≤ L r ∧ g = L r - j ∧ i = .int .i64 j ∧ ∀ i, i < j → 0 ≤ Z r i ∧ Z r i < n)
      case atStart => exact ⟨rfl, 0, Nat.zero_le _, rfl, rfl, fun i hi => absurd hi (Nat.not_lt_zero _)⟩
      case round =>
        obtain ⟨rfl, j, hj, rfl, rfl, hzs⟩ := hrel
        by_cases hjl : j < L r
        · have h6 := hZ' j hjl
          have h7 : (j : Int) < (L r : Int) := by omega
          rw [hAr (by omega)] at h2'
          have HZ : Hid (∀ i, i < j → 0 ≤ Z r i ∧ Z r i < n) := hzs
          clear hzs hZ' hAr
          by_cases hz0 : Z r j < 0
          · go_wp2
            go_ret
            exact ⟨false, rfl, hb1, fun h => by cases h⟩
          · by_cases hz1 : (n : Int) ≤ Z r j
            · go_wp2
              go_ret
              exact ⟨false, rfl, hb1, fun h => by cases h⟩
            · go_wp2
              go_roundg (L r - (j + 1))
              case measure => omega
              case rel =>
                refine ⟨rfl, j + 1, by omega, rfl, by go_num, fun i hi => ?_⟩
                by_cases e : i = j
                · subst e; omega
                · exact HZ.out i (by omega)
        · obtain rfl : j = L r := by omega
          clear hZ' hAr
          have HZ : Hid (∀ i, i < L r → 0 ≤ Z r i ∧ Z r i < n) := hzs
          clear hzs
          go_wp2
          go_roundg (nU - (r + 1))
          case measure => omega
          case rel =>
            refine ⟨r + 1, by omega, rfl, by go_num, hb1, fun i hi => ?_⟩
            by_cases e : i = r
            · subst e; exact ⟨by omega, by omega, HZ.out⟩
            · exact HG.out i (by omega)
    · obtain rfl : r = nU := by omega
      have HG : Hid (∀ i, i < r → 0 ≤ O i ∧ O i ≤ L i ∧ ∀ j, j < L i → 0 ≤ Z i j ∧ Z i j < n) := hgood
      clear hgood hO hrow hA hZ hL hoa hca
      go_wp2
      clear hmk
      go_loopg [16, 17] nT (fun g i u wi => ∃ k : Nat, k ≤ nT ∧ g = nT - k ∧ i = .int .i64 k ∧ Below w.heap.size w wi ∧ wi.rowIs wr.heap.size 4 n (fun c => .bool (seenB k T c)) ∧ (∀ i, i < k → 0 ≤ T i ∧ T i < n) ∧ ∀ i j, i < j → j < k → T i ≠ T j)
      case atStart => exact ⟨0, Nat.zero_le _, rfl, rfl, hb.alloc hb.size _, (World.rowIs_made wr _ n 4).congr (fun j _ => by simp [seenB]), fun i hi => absurd hi (Nat.not_lt_zero _), fun i j _ hj => absurd hj (Nat.not_lt_zero _)⟩
      case round =>
        obtain ⟨k, hk, rfl, rfl, hb1, hseen, hin, hdist⟩ := hrel
        have HI : Hid ((∀ i, i < k → 0 ≤ T i ∧ T i < n) ∧ ∀ i j, i < j → j < k → T i ≠ T j) := ⟨hin, hdist⟩
        clear hin hdist
        by_cases hkT : k < nT
        · obtain rfl := hta (by omega)
          have h1 : wr.cell? ⟨tb, to + k, none⟩ = some (.int .i64 (T k)) := (hb1.cell (World.block_lt_of_cell? _ _ (hTc k hkT))).trans (hTc k hkT)
          have h3 : (k : Int) < (nT : Int) := by omega
          clear hTc hta
          by_cases hneg : T k < 0
          · go_wp2
            go_ret
            exact ⟨false, rfl, hb1, fun h => by cases h⟩
          by_cases hbig : (n : Int) ≤ T k
          · go_wp2
            go_ret
            exact ⟨false, rfl, hb1, fun h => by cases h⟩
          obtain ⟨x, hx⟩ : ∃ x : Nat, T k = (x : Int) := ⟨(T k).toNat, by omega⟩
          rw [hx] at h1 hbig
          clear hneg
          have HX : Hid (T k = (x : Int)) := hx
          clear hx
          have hxn : x < n := by omega
          have h4 := hseen.cell hxn
          have h5 := hseen.frozen x
          have h6 : (x : Int) < (n : Int) := by omega
          cases hs : seenB k T x
          · rw [hs] at h4
            have HS : Hid (seenB k T x = false) := hs
            clear hs
            go_wp2
            go_roundg (nT - (k + 1))
            case measure => omega
            case rel =>
              refine ⟨k + 1, by omega, rfl, by go_num, hb1.setCell hb.size _, (hseen.set x _).congr (fun c _ => ?_), fun i hi => ?_, fun i j hij hj => ?_⟩
              · rw [seenB_succ, HX.out]
                by_cases e : c = x
                · subst e; simp
                · rw [if_neg e]
                  have : ((x : Int) == (c : Int)) = false := by simpa using (fun h => e (by omega))
                  simp [this]
              · by_cases e : i = k
                · subst e; rw [HX.out]; omega
                · exact HI.out.1 i (by omega)
              · by_cases e : j = k
                · subst e; rw [HX.out]; exact seenB_no HS.out i hij
                · exact HI.out.2 i j hij (by omega)
          · rw [hs] at h4
            clear hs
            go_wp2
            go_ret
            exact ⟨false, rfl, hb1, fun h => by cases h⟩
        · obtain rfl : k = nT := by omega
          clear hTc hta
          go_wp2
          go_ret
          exact ⟨true, rfl, hb1, fun _ => ⟨HG.out, HI.out.1, HI.out.2⟩⟩

end Go.Proofs.Qxb6615124a
