/- zzBytes_.. and zzIndexBytesFit: each only reads and answers some bool; the first, where it says true, bounds every length. -/
import Derived.Test.Qxb6615124aRows
import Derived.WalkKit
import Derived.WalkSpells
import Derived.WalkLawsBesides
import Derived.Deep.LoopGhost
namespace Go.Proofs.Qxb6615124a
open Go.RowKit

set_option maxHeartbeats 1000000 in
theorem bytes_any (nc k p : Int) (ua oa ca ta fa : Option Addr) (nU cU nO cO nC cC nT cT nF cF : Nat) (cb co : Nat) (A : Nat → Option Addr) (L C : Nat → Nat) (w : World)
    (hU : nU ≤ 9223372036854775807) (hO : nO ≤ 9223372036854775807) (hC : nC ≤ 9223372036854775807) (hT : nT ≤ 9223372036854775807) (hF : nF ≤ 9223372036854775807)
    (hL : ∀ r, r < nC → L r ≤ 9223372036854775807)
    (hca : 0 < nC → ca = some ⟨cb, co, none⟩) (hrow : ∀ r, r < nC → w.cell? ⟨cb, co + r, none⟩ = some (.slice (A r) (L r) (C r))) :
    Calls Try.prog 4 #[.int .i64 nc, .slice ua nU cU, .slice oa nO cO, .slice ca nC cC, .slice ta nT cT, .slice fa nF cF, .int .i64 k, .int .i64 p] w
      fun e w' => ∃ r : Bool, e = .returned (.bool r) ∧ w' = w ∧ (r = true → nU ≤ 1048576 ∧ nO ≤ 1048576 ∧ nC ≤ 1048576 ∧ nT ≤ 1048576 ∧ nF ≤ 1048576 ∧ ∀ i, i < nC → L i ≤ 1048576) := by
  go_enter Try.func4, Try.ntmps4
  go_wp2
  iterate 5 (go_ret; exact ⟨false, rfl, rfl, fun h => by cases h⟩)
  go_loopg [17, 18] nC (fun g s i wr => wr = w ∧ ∃ (r : Nat) (t : Int), r ≤ nC ∧ g = nC - r ∧ i = .int .i64 r ∧ s = .int .i64 t ∧ 0 ≤ t ∧ t ≤ 1048576 ∧ ∀ i, i < r → L i ≤ 1048576)
  case atStart => exact ⟨rfl, 0, _, Nat.zero_le _, rfl, rfl, rfl, by omega, by omega, fun i hi => absurd hi (Nat.not_lt_zero _)⟩
  case round =>
    obtain ⟨rfl, r, t, hr, rfl, rfl, rfl, ht0, ht1, hb⟩ := hrel
    by_cases hlt : r < nC
    · obtain rfl := hca (by omega)
      have hc := hrow r hlt
      have hLr := hL r hlt
      clear hrow hL hca
      go_wp2
      · go_ret; exact ⟨false, rfl, rfl, fun h => by cases h⟩
      · go_ret; exact ⟨false, rfl, rfl, fun h => by cases h⟩
      · go_roundg (nC - (r + 1))
        case measure => omega
        case rel => exact ⟨rfl, r + 1, _, by omega, rfl, by go_num, rfl, by omega, by omega, fun i hi => by
          by_cases e : i = r
          · subst e; omega
          · exact hb i (by omega)⟩
    · clear hrow hL hca
      go_wp2
      iterate 4 (go_ret; exact ⟨false, rfl, rfl, fun h => by cases h⟩)
      go_ret
      exact ⟨true, rfl, rfl, fun _ => ⟨by omega, by omega, by omega, by omega, by omega, fun i hi => hb i (by omega)⟩⟩

set_option maxHeartbeats 1000000 in
theorem fit_any (ua oa ca ta fa : Option Addr) (nU cU nO cO nC cC nT cT nF cF : Nat) (cb co : Nat) (A : Nat → Option Addr) (L C : Nat → Nat) (w : World)
    (hU : nU ≤ 1048576) (hO : nO ≤ 1048576) (hC : nC ≤ 1048576) (hT : nT ≤ 1048576) (hF : nF ≤ 1048576)
    (hL : ∀ r, r < nC → L r ≤ 1048576)
    (hca : 0 < nC → ca = some ⟨cb, co, none⟩) (hrow : ∀ r, r < nC → w.cell? ⟨cb, co + r, none⟩ = some (.slice (A r) (L r) (C r))) :
    Calls Try.prog 5 #[.slice ua nU cU, .slice oa nO cO, .slice ca nC cC, .slice ta nT cT, .slice fa nF cF] w
      fun e w' => ∃ r : Bool, e = .returned (.bool r) ∧ w' = w := by
  go_enter Try.func5, Try.ntmps5
  go_wp2
  iterate 5 (go_ret; exact ⟨false, rfl, rfl⟩)
  go_loopg [11, 12] nC (fun g s i wr => wr = w ∧ ∃ (r : Nat) (t : Int), r ≤ nC ∧ g = nC - r ∧ i = .int .i64 r ∧ s = .int .i64 t ∧ 0 ≤ t ∧ t ≤ 1048576)
  case atStart => exact ⟨rfl, 0, _, Nat.zero_le _, rfl, rfl, rfl, by omega, by omega⟩
  case round =>
    obtain ⟨rfl, r, t, hr, rfl, rfl, rfl, ht0, ht1⟩ := hrel
    by_cases hlt : r < nC
    · obtain rfl := hca (by omega)
      have hc := hrow r hlt
      have hLr := hL r hlt
      clear hrow hL hca
      go_wp2
      · go_ret; exact ⟨false, rfl, rfl⟩
      · go_ret; exact ⟨false, rfl, rfl⟩
      · go_roundg (nC - (r + 1))
        case measure => omega
        case rel => exact ⟨rfl, r + 1, _, by omega, rfl, by go_num, rfl, by omega, by omega⟩
    · clear hrow hL hca
      go_wp2
      go_ret
      exact ⟨true, rfl, rfl⟩

end Go.Proofs.Qxb6615124a
