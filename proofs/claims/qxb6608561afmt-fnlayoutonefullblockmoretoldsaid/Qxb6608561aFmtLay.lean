/- Layouts: the callees' contracts. -/
import Derived.Test.Qxb6608561aFmtRows
import Derived.WalkKit
import Derived.WalkSpells
import Derived.WalkLawsBesides
import Derived.Deep.LoopGhost
import Derived.Deep.RegionHeld3
namespace Go.Proofs.Qxb6608561aFmt
open Go.RowKit

theorem ret_int {k : IntKind} {a b : Int} (h : a = b) : Ending.returned (.int k a) = .returned (.int k b) := by rw [h]

theorem one_block (n : Nat) (h : 1 ≤ n) : ((n : Int) + n - 1) / n = 1 := by
  have e : ((n : Int) + n - 1) = ((n + n - 1 : Nat) : Int) := by omega
  rw [e, ← Int.natCast_ediv, Nat.div_eq_of_lt_le (k := 1) (by omega) (by omega)]
  rfl

theorem wu64 {x : Int} (h0 : 0 ≤ x) (h1 : x ≤ 4294967295) : IntKind.u64.wrap x = x := by rw [IntKind.wrap_u64]; omega
theorem wu32 {x : Int} (h0 : 0 ≤ x) (h1 : x ≤ 4294967295) : IntKind.u32.wrap x = x := by rw [IntKind.wrap_u32]; omega

theorem layout_v1 (n : Nat) (w : World) :
    Calls Tryf.prog 11 #[.int .u16 256, .int .u32 n] w fun e w' => e = .returned (.agg #[.int .u32 n, .int .u32 65536]) ∧ Below w.heap.size w w' := by
  go_enter Tryf.func11, Tryf.ntmps11
  go_wp2
  exact bodyPost_ret (v := .agg #[.int .u32 n, .int .u32 65536]) (by simp [results, Tryf.results11, go_sem]) rfl ⟨rfl, (Below.refl _ _).alloc (Nat.le_refl _) _⟩

theorem layout_v2 (n : Nat) (w : World) :
    Calls Tryf.prog 11 #[.int .u16 512, .int .u32 n] w fun e w' => e = .returned (.agg #[.int .u32 n, .int .u32 n]) ∧ Below w.heap.size w w' := by
  go_enter Tryf.func11, Tryf.ntmps11
  go_wp2
  exact bodyPost_ret (v := .agg #[.int .u32 n, .int .u32 n]) (by simp [results, Tryf.results11, go_sem]) rfl ⟨rfl, (Below.refl _ _).alloc (Nat.le_refl _) _⟩

theorem length12 (n b : Nat) (w : World) : Calls Tryf.prog 12 #[.agg #[.int .u32 n, .int .u32 b]] w fun e w' => e = .returned (.int .u32 n) ∧ Below w.heap.size w w' := by
  go_enter Tryf.func12, Tryf.ntmps12
  go_wp2
  go_ret
  exact ⟨rfl, (Below.refl _ _).alloc (Nat.le_refl _) _⟩

theorem size13 (n b : Nat) (w : World) : Calls Tryf.prog 13 #[.agg #[.int .u32 n, .int .u32 b]] w fun e w' => e = .returned (.int .u32 b) ∧ Below w.heap.size w w' := by
  go_enter Tryf.func13, Tryf.ntmps13
  go_wp2
  go_ret
  exact ⟨rfl, (Below.refl _ _).alloc (Nat.le_refl _) _⟩

theorem count_0 (b : Nat) (w : World) : Calls Tryf.prog 20 #[.agg #[.int .u32 0, .int .u32 b]] w fun e w' => e = .returned (.int .u64 0) ∧ Below w.heap.size w w' := by
  go_enter Tryf.func20, Tryf.ntmps20
  go_wp2
  go_ret
  exact ⟨rfl, (Below.refl _ _).alloc (Nat.le_refl _) _⟩

theorem count_v1 (n : Nat) (w : World) (h0 : 1 ≤ n) (h1 : n ≤ 4294967295) : Calls Tryf.prog 20 #[.agg #[.int .u32 n, .int .u32 65536]] w fun e w' => e = .returned (.int .u64 ((n + 65535) / 65536 : Nat)) ∧ Below w.heap.size w w' := by
  have hb : ((n : Int) == 0) = false := by simpa using (by omega : n ≠ 0)
  go_enter Tryf.func20, Tryf.ntmps20
  go_wp2
  go_ret
  exact ⟨ret_int (by omega), (Below.refl _ _).alloc (Nat.le_refl _) _⟩

theorem count_v2 (n : Nat) (w : World) (h0 : 1 ≤ n) (h1 : n ≤ 4294967295) : Calls Tryf.prog 20 #[.agg #[.int .u32 n, .int .u32 n]] w fun e w' => e = .returned (.int .u64 1) ∧ Below w.heap.size w w' := by
  have hb : ((n : Int) == 0) = false := by simpa using (by omega : n ≠ 0)
  go_enter Tryf.func20, Tryf.ntmps20
  go_wp2
  go_ret
  exact ⟨ret_int (one_block n h0), (Below.refl _ _).alloc (Nat.le_refl _) _⟩

theorem off_v1 (n j : Nat) (w : World) (hj : j ≤ 131072) : Calls Tryf.prog 15 #[.agg #[.int .u32 n, .int .u32 65536], .int .i64 j] w fun e w' => e = .returned (.int .u64 (j * 65536 : Nat)) ∧ w' = w.alloc (.cells #[.int .u32 n, .int .u32 65536] 36) := by
  go_enter Tryf.func15, Tryf.ntmps15
  go_wp2
  go_ret
  exact ⟨ret_int (by omega), rfl⟩

theorem off_v2 (n : Nat) (w : World) (h1 : n ≤ 4294967295) : Calls Tryf.prog 15 #[.agg #[.int .u32 n, .int .u32 n], .int .i64 0] w fun e w' => e = .returned (.int .u64 0) ∧ w' = w.alloc (.cells #[.int .u32 n, .int .u32 n] 36) := by
  go_enter Tryf.func15, Tryf.ntmps15
  go_wp2
  go_ret
  exact ⟨ret_int (by simp), rfl⟩

set_option maxRecDepth 100000 in
set_option maxHeartbeats 1000000 in
theorem blen_v1 (n j : Nat) (w : World) (h1 : n ≤ 4294967295) (hj : j ≤ 131072) (hjn : j * 65536 ≤ n) :
    Calls Tryf.prog 16 #[.agg #[.int .u32 n, .int .u32 65536], .int .i64 j] w fun e w' => e = .returned (.int .u32 (min 65536 (n - j * 65536) : Nat)) ∧ Below w.heap.size w w' := by
  have r1 : IntKind.u64.wrap (n : Int) = n := wu64 (by omega) (by omega)
  have r2 : IntKind.u64.wrap (65536 : Int) = 65536 := wu64 (by omega) (by omega)
  have r3 : IntKind.u64.wrap ((n : Int) - (j : Int) * 65536) = (n : Int) - (j : Int) * 65536 := wu64 (by omega) (by omega)
  have r4 : IntKind.u32.wrap ((n : Int) - (j : Int) * 65536) = (n : Int) - (j : Int) * 65536 := wu32 (by omega) (by omega)
  have r5 : IntKind.u32.wrap (65536 : Int) = 65536 := wu32 (by omega) (by omega)
  by_cases hm : (n : Int) - (j : Int) * 65536 < 65536
  · go_enter Tryf.func16, Tryf.ntmps16
    go_wp2_with fail
    go_region_held3 (fun w' => w'.cell? ⟨w.heap.size, 0, none⟩ = some (.int .u32 n) ∧ w'.cell? ⟨w.heap.size, 1, none⟩ = some (.int .u32 65536)) (go_keep)
      (first | (go_at_call 15; refine (off_v1 n j _ hj).mono ?_; rintro e w' ⟨rfl, rfl⟩))
    go_wp2
    go_ret
    exact ⟨ret_int (by omega), (((Below.refl _ _).alloc (Nat.le_refl _) _).alloc (by simp) _).drew⟩
  · go_enter Tryf.func16, Tryf.ntmps16
    go_wp2_with fail
    go_region_held3 (fun w' => w'.cell? ⟨w.heap.size, 0, none⟩ = some (.int .u32 n) ∧ w'.cell? ⟨w.heap.size, 1, none⟩ = some (.int .u32 65536)) (go_keep)
      (first | (go_at_call 15; refine (off_v1 n j _ hj).mono ?_; rintro e w' ⟨rfl, rfl⟩))
    go_wp2
    go_ret
    exact ⟨ret_int (by omega), (((Below.refl _ _).alloc (Nat.le_refl _) _).alloc (by simp) _).drew⟩

set_option maxRecDepth 100000 in
set_option maxHeartbeats 1000000 in
theorem blen_v2 (n : Nat) (w : World) (h1 : n ≤ 4294967295) :
    Calls Tryf.prog 16 #[.agg #[.int .u32 n, .int .u32 n], .int .i64 0] w fun e w' => e = .returned (.int .u32 n) ∧ Below w.heap.size w w' := by
  have r1 : IntKind.u64.wrap (n : Int) = n := wu64 (by omega) (by omega)
  have r2 : IntKind.u32.wrap (n : Int) = n := wu32 (by omega) (by omega)
  go_enter Tryf.func16, Tryf.ntmps16
  go_wp2_with fail
  go_region_held3 (fun w' => w'.cell? ⟨w.heap.size, 0, none⟩ = some (.int .u32 n) ∧ w'.cell? ⟨w.heap.size, 1, none⟩ = some (.int .u32 n)) (go_keep)
    (first | (go_at_call 15; refine (off_v2 n _ h1).mono ?_; rintro e w' ⟨rfl, rfl⟩))
  go_wp2
  go_ret
  exact ⟨ret_int (by omega), (((Below.refl _ _).alloc (Nat.le_refl _) _).alloc (by simp) _).drew⟩

/-- How many blocks. -/
def k1 (n : Nat) : Nat := (n + 65535) / 65536

theorem blocks_0 (b : Nat) (w : World) : Calls Tryf.prog 14 #[.agg #[.int .u32 0, .int .u32 b]] w fun e w' => e = .returned (.int .i64 0) ∧ Below w.heap.size w w' := by
  go_enter Tryf.func14, Tryf.ntmps14
  go_wp2_with (go_at_call 20; refine (count_0 b _).mono ?_; rintro e w' ⟨rfl, hb⟩)
  go_ret
  exact ⟨ret_int (by simp), ((Below.refl _ _).alloc (Nat.le_refl _) _).trans (hb.mono (by simp))⟩

theorem blocks_v1 (n : Nat) (w : World) (h1 : n ≤ 4294967295) : Calls Tryf.prog 14 #[.agg #[.int .u32 n, .int .u32 65536]] w fun e w' => e = .returned (.int .i64 (k1 n)) ∧ Below w.heap.size w w' := by
  by_cases h0 : n = 0
  · subst h0; exact blocks_0 65536 w
  · have hc := fun wz => count_v1 n wz (by omega) h1
    have hk : (n + 65535) / 65536 ≤ 65536 := by omega
    unfold k1
    obtain ⟨q, hq⟩ : ∃ q, (n + 65535) / 65536 = q := ⟨_, rfl⟩
    simp only [hq] at hc hk ⊢
    clear hq
    go_enter Tryf.func14, Tryf.ntmps14
    go_wp2_with (go_at_call 20; refine (hc _).mono ?_; rintro e w' ⟨rfl, hb⟩)
    go_ret
    exact ⟨ret_int (by first | rfl | omega), ((Below.refl _ _).alloc (Nat.le_refl _) _).trans (hb.mono (by simp))⟩

theorem blocks_v2 (n : Nat) (w : World) (h0 : 1 ≤ n) (h1 : n ≤ 4294967295) : Calls Tryf.prog 14 #[.agg #[.int .u32 n, .int .u32 n]] w fun e w' => e = .returned (.int .i64 1) ∧ Below w.heap.size w w' := by
  go_enter Tryf.func14, Tryf.ntmps14
  go_wp2_with (go_at_call 20; refine (count_v2 n _ h0 h1).mono ?_; rintro e w' ⟨rfl, hb⟩)
  go_ret
  exact ⟨ret_int (by simp), ((Below.refl _ _).alloc (Nat.le_refl _) _).trans (hb.mono (by simp))⟩

end Go.Proofs.Qxb6608561aFmt
