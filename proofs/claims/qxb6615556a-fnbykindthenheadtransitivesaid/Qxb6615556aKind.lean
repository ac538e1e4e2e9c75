/- The order of arcs by kind, then head: the walks. -/
import Derived.Test.Qxb6615556aRows
import Derived.WalkKit
import Derived.WalkSpells
import Derived.WalkLawsBesides
import Derived.Deep.LoopGhost
import Derived.Deep.QuietTactic
import Derived.BigQuiet
import Derived.Deep.RegionHeld3
namespace Go.Proofs.Qxb6615556a
open Go.RowKit

def cmpI (x y : Int) : Int := if x < y then -1 else if y < x then 1 else 0
def orI (x y : Int) : Int := if x ≠ 0 then x else y
def kh (at_ ad bt bd : Int) : Int := orI (cmpI ad bd) (cmpI at_ bt)

theorem cmpI_lt {x y : Int} (h : x < y) : cmpI x y = -1 := by simp [cmpI, h]
theorem cmpI_gt {x y : Int} (h : y < x) : cmpI x y = 1 := by simp [cmpI, h, show ¬ x < y by omega]
theorem cmpI_eq (x : Int) : cmpI x x = 0 := by simp [cmpI]

theorem nan16 (x : Int) (w : World) : Calls Try.prog 16 #[.int .i64 x] w fun e w' => e = .returned (.bool false) ∧ w' = w := by
  go_enter Try.func16, Try.ntmps16
  go_wp2
  go_ret
  exact ⟨by simp, rfl⟩
theorem nan17 (x : Int) (w : World) : Calls Try.prog 17 #[.int .i32 x] w fun e w' => e = .returned (.bool false) ∧ w' = w := by
  go_enter Try.func17, Try.ntmps17
  go_wp2
  go_ret
  exact ⟨by simp, rfl⟩

theorem cmp14 (x y : Int) (w : World) : Calls Try.prog 14 #[.int .i64 x, .int .i64 y] w fun e w' => e = .returned (.int .i64 (cmpI x y)) ∧ w' = w := by
  rcases Int.lt_trichotomy x y with h | h | h
  · rw [cmpI_lt h]
    go_enter Try.func14, Try.ntmps14
    go_wp2_with (go_at_call 16; refine (nan16 _ _).mono ?_; rintro e w' ⟨rfl, rfl⟩)
    go_ret
    exact ⟨rfl, rfl⟩
  · subst h
    rw [cmpI_eq]
    go_enter Try.func14, Try.ntmps14
    go_wp2_with (go_at_call 16; refine (nan16 _ _).mono ?_; rintro e w' ⟨rfl, rfl⟩)
    go_ret
    exact ⟨rfl, rfl⟩
  · rw [cmpI_gt h]
    have h2 : ¬ x < y := by omega
    go_enter Try.func14, Try.ntmps14
    go_wp2_with (go_at_call 16; refine (nan16 _ _).mono ?_; rintro e w' ⟨rfl, rfl⟩)
    go_ret
    exact ⟨rfl, rfl⟩
theorem cmp15 (x y : Int) (w : World) : Calls Try.prog 15 #[.int .i32 x, .int .i32 y] w fun e w' => e = .returned (.int .i64 (cmpI x y)) ∧ w' = w := by
  rcases Int.lt_trichotomy x y with h | h | h
  · rw [cmpI_lt h]
    go_enter Try.func15, Try.ntmps15
    go_wp2_with (go_at_call 17; refine (nan17 _ _).mono ?_; rintro e w' ⟨rfl, rfl⟩)
    go_ret
    exact ⟨rfl, rfl⟩
  · subst h
    rw [cmpI_eq]
    go_enter Try.func15, Try.ntmps15
    go_wp2_with (go_at_call 17; refine (nan17 _ _).mono ?_; rintro e w' ⟨rfl, rfl⟩)
    go_ret
    exact ⟨rfl, rfl⟩
  · rw [cmpI_gt h]
    have h2 : ¬ x < y := by omega
    go_enter Try.func15, Try.ntmps15
    go_wp2_with (go_at_call 17; refine (nan17 _ _).mono ?_; rintro e w' ⟨rfl, rfl⟩)
    go_ret
    exact ⟨rfl, rfl⟩

theorem or13 (b : Nat) (x y : Int) (w : World) (h0 : w.cell? ⟨b, 0, none⟩ = some (.int .i64 x)) (h1 : w.cell? ⟨b, 1, none⟩ = some (.int .i64 y)) :
    Calls Try.prog 13 #[.slice (some ⟨b, 0, none⟩) 2 2] w fun e w' => e = .returned (.int .i64 (orI x y)) ∧ w' = w := by
  unfold orI
  by_cases hx : x = 0
  · subst hx
    by_cases hy : y = 0
    · subst hy
      go_enter Try.func13, Try.ntmps13
      go_wp2
      refine wp_loop_rounds 3 ?_; rw [rounds_succ]
      go_wp2
      rw [rounds_succ]
      go_wp2
      rw [rounds_succ]
      go_wp2
      go_ret
      exact ⟨rfl, rfl⟩
    · have hb : (y != 0) = true := by simpa using hy
      go_enter Try.func13, Try.ntmps13
      go_wp2
      refine wp_loop_rounds 3 ?_; rw [rounds_succ]
      go_wp2
      rw [rounds_succ]
      go_wp2
      go_ret
      exact ⟨rfl, rfl⟩
  · have hb : (x != 0) = true := by simpa using hx
    rw [if_pos hx]
    go_enter Try.func13, Try.ntmps13
    go_wp2
    refine wp_loop_rounds 3 ?_; rw [rounds_succ]
    go_wp2
    go_ret
    exact ⟨rfl, rfl⟩

theorem grown_trans {a b c : World} (h : Grown a b) (k : Grown b c) : Grown a c :=
  ⟨World.keptBut_trans h.1 k.1, fun x => (k.2.1 x).trans (h.2.1 x), Nat.le_trans h.2.2 k.2.2⟩

theorem new0 (w : World) (o1 o2 : Obj) (x y : Value) : (((w.alloc o1).alloc o2).alloc (.cells #[x, y] 3)).drew.cell? ⟨w.heap.size + 1 + 1, 0, none⟩ = some x := by
  have h := heap_alloc_new ((w.alloc o1).alloc o2) (.cells #[x, y] 3)
  have e : ((w.alloc o1).alloc o2).heap.size = w.heap.size + 1 + 1 := by simp
  rw [e] at h
  show (((w.alloc o1).alloc o2).alloc (.cells #[x, y] 3)).cell? _ = _
  rw [cell_of_row _ _ _ _ _ _ h]
  rfl
theorem new1 (w : World) (o1 o2 : Obj) (x y : Value) : (((w.alloc o1).alloc o2).alloc (.cells #[x, y] 3)).drew.cell? ⟨w.heap.size + 1 + 1, 1, none⟩ = some y := by
  have h := heap_alloc_new ((w.alloc o1).alloc o2) (.cells #[x, y] 3)
  have e : ((w.alloc o1).alloc o2).heap.size = w.heap.size + 1 + 1 := by simp
  rw [e] at h
  show (((w.alloc o1).alloc o2).alloc (.cells #[x, y] 3)).cell? _ = _
  rw [cell_of_row _ _ _ _ _ _ h]
  rfl

set_option maxRecDepth 100000 in
set_option maxHeartbeats 1000000 in
theorem by10 (a1 a2 a3 a4 b1 b2 b3 b4 : Int) (w : World) :
    Calls Try.prog 10 #[.agg #[.int .i32 a1, .int .i32 a2, .int .i32 a3, .int .i64 a4], .agg #[.int .i32 b1, .int .i32 b2, .int .i32 b3, .int .i64 b4]] w
      fun e w' => e = .returned (.int .i64 (kh a2 a4 b2 b4)) ∧ Grown w w' := by
  go_enter Try.func10, Try.ntmps10
  go_wp2_with fail
  go_region_held3 (fun w' => w'.cell? ⟨w.heap.size, 3, none⟩ = some (.int .i64 a4) ∧ w'.cell? ⟨w.heap.size, 1, none⟩ = some (.int .i32 a2) ∧ w'.cell? ⟨w.heap.size + 1, 3, none⟩ = some (.int .i64 b4) ∧ w'.cell? ⟨w.heap.size + 1, 1, none⟩ = some (.int .i32 b2)) (go_keep)
    (first
      | (go_at_call 14; refine (cmp14 a4 b4 _).mono ?_; rintro e w' ⟨rfl, rfl⟩)
      | (go_at_call 15; refine (cmp15 a2 b2 _).mono ?_; rintro e w' ⟨rfl, rfl⟩)
      | (go_at_call 13; refine (or13 (w.heap.size + 1 + 1) (cmpI a4 b4) (cmpI a2 b2) _ ?_ ?_).mono ?_; (first | exact new0 _ _ _ _ _ | simp [*]); (first | exact new1 _ _ _ _ _ | simp [*]); rintro e w' ⟨rfl, rfl⟩))
  all_goals
    go_wp2
    go_ret
    exact ⟨rfl, by repeat (first | exact Grown.refl _ | apply Grown.drew | apply Grown.alloc)⟩

theorem zz5 (a1 a2 a3 a4 b1 b2 b3 b4 : Int) (w : World) :
    Calls Try.prog 5 #[.int .i32 a1, .int .i32 a2, .int .i32 a3, .int .i64 a4, .int .i32 b1, .int .i32 b2, .int .i32 b3, .int .i64 b4] w
      fun e w' => e = .returned (.int .i64 (kh a2 a4 b2 b4)) ∧ Grown w w' := by
  go_enter Try.func5, Try.ntmps5
  go_wp2_with (go_at_call 10; refine (by10 _ _ _ _ _ _ _ _ _).mono ?_; rintro e w' ⟨rfl, hg⟩)
  go_ret
  exact ⟨rfl, hg⟩

theorem model6 (a2 a4 b2 b4 : Int) (w : World) :
    Calls Try.prog 6 #[.int .i32 a2, .int .i64 a4, .int .i32 b2, .int .i64 b4] w fun e w' => e = .returned (.int .i64 (kh a2 a4 b2 b4)) ∧ w' = w := by
  unfold kh orI
  rcases Int.lt_trichotomy a4 b4 with h | h | h
  · rw [cmpI_lt h]
    go_enter Try.func6, Try.ntmps6
    go_wp2
    go_ret
    exact ⟨rfl, rfl⟩
  · subst h
    rw [cmpI_eq]
    rcases Int.lt_trichotomy a2 b2 with h | h | h
    · rw [cmpI_lt h]
      go_enter Try.func6, Try.ntmps6
      go_wp2
      go_ret
      exact ⟨rfl, rfl⟩
    · subst h
      rw [cmpI_eq]
      go_enter Try.func6, Try.ntmps6
      go_wp2
      go_ret
      exact ⟨rfl, rfl⟩
    · rw [cmpI_gt h]
      have h2 : ¬ a2 < b2 := by omega
      go_enter Try.func6, Try.ntmps6
      go_wp2
      go_ret
      exact ⟨rfl, rfl⟩
  · rw [cmpI_gt h]
    have h2 : ¬ a4 < b4 := by omega
    go_enter Try.func6, Try.ntmps6
    go_wp2
    go_ret
    exact ⟨rfl, rfl⟩

/-! ### The plain law -/
theorem kh_le {at_ ad bt bd : Int} : kh at_ ad bt bd ≤ 0 ↔ ad < bd ∨ (ad = bd ∧ at_ ≤ bt) := by
  unfold kh orI cmpI
  rcases Int.lt_trichotomy ad bd with h | h | h
  · simp [h]
  · subst h
    rcases Int.lt_trichotomy at_ bt with h | h | h
    · simp [h]; omega
    · subst h; simp
    · simp [h, show ¬ at_ < bt by omega]
  · simp [h, show ¬ ad < bd by omega]; omega
theorem kh_ge {at_ ad bt bd : Int} : 0 ≤ kh at_ ad bt bd ↔ bd < ad ∨ (ad = bd ∧ bt ≤ at_) := by
  unfold kh orI cmpI
  rcases Int.lt_trichotomy ad bd with h | h | h
  · simp [h]; omega
  · subst h
    rcases Int.lt_trichotomy at_ bt with h | h | h
    · simp [h]
    · subst h; simp
    · simp [h, show ¬ at_ < bt by omega]; omega
  · simp [h, show ¬ ad < bd by omega]
theorem kh_tr_le {at_ ad bt bd ct cd : Int} (h1 : kh at_ ad bt bd ≤ 0) (h2 : kh bt bd ct cd ≤ 0) : kh at_ ad ct cd ≤ 0 := by
  rw [kh_le] at *; omega
theorem kh_tr_ge {at_ ad bt bd ct cd : Int} (h1 : 0 ≤ kh at_ ad bt bd) (h2 : 0 ≤ kh bt bd ct cd) : 0 ≤ kh at_ ad ct cd := by
  rw [kh_ge] at *; omega

set_option maxRecDepth 100000 in
set_option maxHeartbeats 1000000 in
theorem fn3 (a0 a1 a2 a3 a4 a5 a6 a7 a8 a9 a10 a11 : Int) (w : World) :
    Calls Try.prog 3 #[.int .i32 a0, .int .i32 a1, .int .i32 a2, .int .i64 a3, .int .i32 a4, .int .i32 a5, .int .i32 a6, .int .i64 a7, .int .i32 a8, .int .i32 a9, .int .i32 a10, .int .i64 a11] w fun e w' => e = .returned (.bool true) ∧ Grown w w' := by
  have t1 : kh a1 a3 a5 a7 ≤ 0 → kh a5 a7 a9 a11 ≤ 0 → kh a1 a3 a9 a11 ≤ 0 := kh_tr_le
  have t2 : 0 ≤ kh a1 a3 a5 a7 → 0 ≤ kh a5 a7 a9 a11 → 0 ≤ kh a1 a3 a9 a11 := kh_tr_ge
  have c1 := fun w => zz5 a0 a1 a2 a3 a4 a5 a6 a7 w
  have c2 := fun w => zz5 a4 a5 a6 a7 a8 a9 a10 a11 w
  have c3 := fun w => zz5 a0 a1 a2 a3 a8 a9 a10 a11 w
  have m1 := fun w => model6 a1 a3 a5 a7 w
  have m2 := fun w => model6 a5 a7 a9 a11 w
  have m3 := fun w => model6 a1 a3 a9 a11 w
  generalize kh a1 a3 a5 a7 = x at *
  generalize kh a5 a7 a9 a11 = y at *
  generalize kh a1 a3 a9 a11 = z at *
  have C : Hid ((∀ w, Calls Try.prog 5 #[.int .i32 a0, .int .i32 a1, .int .i32 a2, .int .i64 a3, .int .i32 a4, .int .i32 a5, .int .i32 a6, .int .i64 a7] w fun e w' => e = .returned (.int .i64 x) ∧ Grown w w') ∧
    (∀ w, Calls Try.prog 5 #[.int .i32 a4, .int .i32 a5, .int .i32 a6, .int .i64 a7, .int .i32 a8, .int .i32 a9, .int .i32 a10, .int .i64 a11] w fun e w' => e = .returned (.int .i64 y) ∧ Grown w w') ∧
    (∀ w, Calls Try.prog 5 #[.int .i32 a0, .int .i32 a1, .int .i32 a2, .int .i64 a3, .int .i32 a8, .int .i32 a9, .int .i32 a10, .int .i64 a11] w fun e w' => e = .returned (.int .i64 z) ∧ Grown w w') ∧
    (∀ w, Calls Try.prog 6 #[.int .i32 a1, .int .i64 a3, .int .i32 a5, .int .i64 a7] w fun e w' => e = .returned (.int .i64 x) ∧ w' = w) ∧
    (∀ w, Calls Try.prog 6 #[.int .i32 a5, .int .i64 a7, .int .i32 a9, .int .i64 a11] w fun e w' => e = .returned (.int .i64 y) ∧ w' = w) ∧
    (∀ w, Calls Try.prog 6 #[.int .i32 a1, .int .i64 a3, .int .i32 a9, .int .i64 a11] w fun e w' => e = .returned (.int .i64 z) ∧ w' = w)) := ⟨c1, c2, c3, m1, m2, m3⟩
  clear c1 c2 c3 m1 m2 m3
  rcases (show (x < 0 ∧ y ≤ 0 ∧ z ≤ 0) ∨ (x = 0 ∧ y < 0 ∧ z ≤ 0) ∨ (0 < x ∧ 0 ≤ y ∧ 0 ≤ z) ∨ (x = 0 ∧ 0 < y ∧ 0 ≤ z) ∨ (0 < x ∧ y < 0) ∨ (x < 0 ∧ 0 < y) ∨ (x = 0 ∧ y = 0 ∧ z = 0) from by omega) with h | h | h | h | h | h | h
  all_goals
    clear t1 t2
    first
      | (obtain ⟨rfl, rfl, rfl⟩ := h)
      | (obtain ⟨rfl, h1, h2⟩ := h)
      | (obtain ⟨h1, h2, h3⟩ := h)
      | (obtain ⟨h1, h2⟩ := h)
    go_enter Try.func3, Try.ntmps3
    go_wp2_with fail
    refine (C.out.1 _).mono ?_
    rintro e w1 ⟨rfl, g1⟩
    go_wp2_with fail
    refine (C.out.2.1 _).mono ?_
    rintro e w2 ⟨rfl, g2⟩
    go_wp2_with fail
    refine (C.out.2.2.1 _).mono ?_
    rintro e w3 ⟨rfl, g3⟩
    go_wp2_with fail
    refine (C.out.2.2.2.1 _).mono ?_
    rintro e w' ⟨rfl, rfl⟩
    go_wp2_with fail
    refine (C.out.2.2.2.2.1 _).mono ?_
    rintro e w' ⟨rfl, rfl⟩
    go_wp2_with fail
    refine (C.out.2.2.2.2.2 _).mono ?_
    rintro e w' ⟨rfl, rfl⟩
    go_wp2_with fail
    go_ret
    exact ⟨by simp, grown_trans (grown_trans g1 g2) g3⟩

end Go.Proofs.Qxb6615556a
