/- groups: the callees' contracts. -/
import Derived.Test.Qxb6615556aRows
import Derived.WalkKit
import Derived.WalkSpells
import Derived.WalkLawsBesides
import Derived.Deep.LoopGhost
import Derived.Deep.QuietTactic
import Derived.BigQuiet
namespace Go.Proofs.Qxb6615556a
open Go.RowKit

set_option maxHeartbeats 400000 in
theorem bytes7 (oa ma sa : Option Addr) (nO cO nM cM nS cS : Nat) (w : World) (hO : nO ≤ 9223372036854775807) (hM : nM ≤ 9223372036854775807) (hS : nS ≤ 9223372036854775807) :
    Calls Try.prog 7 #[.slice oa nO cO, .slice ma nM cM, .slice sa nS cS] w fun e w' => ∃ r : Bool, e = .returned (.bool r) ∧ w' = w := by
  go_enter Try.func7, Try.ntmps7
  go_wp2
  iterate 5 (go_ret; exact ⟨false, rfl, rfl⟩)
  go_ret
  exact ⟨true, rfl, rfl⟩

theorem len11 (oa ma sa : Option Addr) (nO cO nM cM nS cS : Nat) (w : World) (hS : nS ≤ 4096) (hS1 : 1 ≤ nS) :
    Calls Try.prog 11 #[.agg #[.slice oa nO cO, .slice ma nM cM, .slice sa nS cS]] w fun e w' => e = .returned (.int .i64 ((nS : Int) - 1)) ∧ Below w.heap.size w w' := by
  go_enter Try.func11, Try.ntmps11
  go_wp2
  go_ret
  exact ⟨rfl, (Below.refl _ _).alloc (Nat.le_refl _) _⟩

theorem len8 (oa ma sa : Option Addr) (nO cO nM cM nS cS : Nat) (w : World) (hS : nS ≤ 4096) (hS1 : 1 ≤ nS) :
    Calls Try.prog 8 #[.slice oa nO cO, .slice ma nM cM, .slice sa nS cS] w fun e w' => e = .returned (.int .i64 ((nS : Int) - 1)) ∧ Below w.heap.size w w' := by
  go_enter Try.func8, Try.ntmps8
  go_wp2_with (go_at_call 11; refine (len11 _ _ _ _ _ _ _ _ _ _ hS hS1).mono ?_; rintro e w' ⟨rfl, hb⟩)
  go_ret
  exact ⟨rfl, hb⟩

/-- Where the cut begins. -/
def cutAt (ma : Option Addr) (cM lo : Nat) : Option Addr := if cM = lo then ma else ma.map (fun a => a.add lo)

set_option maxHeartbeats 400000 in
theorem group12 (oa ma : Option Addr) (nO cO nM cM nS cS sb so i lo hi : Nat) (w : World) (hS : nS ≤ 4096) (hi1 : i + 1 < nS) (h1 : lo ≤ hi) (h2 : hi ≤ cM)
    (hlo : w.cell? ⟨sb, so + i, none⟩ = some (.int .i64 lo)) (hhi : w.cell? ⟨sb, so + (i + 1), none⟩ = some (.int .i64 hi)) :
    Calls Try.prog 12 #[.agg #[.slice oa nO cO, .slice ma nM cM, .slice (some ⟨sb, so, none⟩) nS cS], .int .i64 i] w fun e w' => e = .returned (.slice (cutAt ma cM lo) (hi - lo) (cM - lo)) ∧ Below w.heap.size w w' := by
  have b1 : (i : Int) < (nS : Int) := by omega
  have b2 : ((i : Int) + 1) < (nS : Int) := by omega
  have b3 : (lo : Int) ≤ (hi : Int) := by omega
  have b4 : (hi : Int) ≤ (cM : Int) := by omega
  have b5 : (0 : Int) ≤ (lo : Int) := by omega
  have hsz := World.block_lt_of_cell? _ _ hlo
  have c1 : ∀ o, (w.alloc o).cell? ⟨sb, so + i, none⟩ = some (.int .i64 lo) := fun o => cell_later ((Below.refl _ _).alloc (Nat.le_refl _) _) hlo
  have c2 : ∀ o, (w.alloc o).cell? ⟨sb, so + (i + 1), none⟩ = some (.int .i64 hi) := fun o => cell_later ((Below.refl _ _).alloc (Nat.le_refl _) _) hhi
  go_enter Try.func12, Try.ntmps12
  go_wp2
  go_quiet (fail)
  go_wp2
  all_goals
    go_ret
    refine ⟨?_, below_drewN ((Below.refl _ _).alloc (Nat.le_refl _) _) _⟩
    simp [cutAt, *]

theorem group9 (oa ma : Option Addr) (nO cO nM cM nS cS sb so i lo hi : Nat) (w : World) (hS : nS ≤ 4096) (hi1 : i + 1 < nS) (h1 : lo ≤ hi) (h2 : hi ≤ cM)
    (hlo : w.cell? ⟨sb, so + i, none⟩ = some (.int .i64 lo)) (hhi : w.cell? ⟨sb, so + (i + 1), none⟩ = some (.int .i64 hi)) :
    Calls Try.prog 9 #[.slice oa nO cO, .slice ma nM cM, .slice (some ⟨sb, so, none⟩) nS cS, .int .i64 i] w fun e w' => e = .returned (.slice (cutAt ma cM lo) (hi - lo) (cM - lo)) ∧ Below w.heap.size w w' := by
  have c := group12 oa ma nO cO nM cM nS cS sb so i lo hi w hS hi1 h1 h2 hlo hhi
  go_enter Try.func9, Try.ntmps9
  go_wp2_with (go_at_call 12; refine c.mono ?_; rintro e w' ⟨rfl, hb⟩)
  go_ret
  exact ⟨rfl, hb⟩

end Go.Proofs.Qxb6615556a
