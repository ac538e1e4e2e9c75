/- FnLayoutOneFullBlockMore: the walk. -/
import Derived.Test.Qxb6608561aFmtTil
import Derived.Deep.Cut
import Derived.Deep.CutRange
import Derived.Deep.DeepCutAuto
import Derived.Deep.DeepMust
namespace Go.Proofs.Qxb6608561aFmt
open Go.RowKit

/-- Offset's contract, the world weakened. -/
theorem off1 (n j : Nat) (w : World) (hj : j ≤ 131072) : Calls Tryf.prog 15 #[.agg #[.int .u32 n, .int .u32 65536], .int .i64 j] w fun e w' => e = .returned (.int .u64 (j * 65536 : Nat)) ∧ Below w.heap.size w w' :=
  (off_v1 n j w hj).mono fun _ _ ⟨h, hw⟩ => ⟨h, hw ▸ (Below.refl _ _).alloc (Nat.le_refl _) _⟩

theorem off1_0 (m : Nat) (w : World) : Calls Tryf.prog 15 #[.agg #[.int .u32 m, .int .u32 65536], .int .i64 0] w fun e w' => e = .returned (.int .u64 0) ∧ Below w.heap.size w w' := by
  have h := off1 m 0 w (Nat.zero_le _)
  rw [Nat.zero_mul] at h
  exact h

theorem blen1_0 (m : Nat) (w : World) (h0 : 65536 ≤ m) (h1 : m ≤ 4294967295) : Calls Tryf.prog 16 #[.agg #[.int .u32 m, .int .u32 65536], .int .i64 0] w fun e w' => e = .returned (.int .u32 65536) ∧ Below w.heap.size w w' := by
  have h := blen_v1 m 0 w h1 (Nat.zero_le _) (by rw [Nat.zero_mul]; exact Nat.zero_le _)
  rw [Nat.zero_mul, Nat.sub_zero, Nat.min_eq_left h0] at h
  exact h

set_option maxRecDepth 100000 in
theorem off1_s (m j : Nat) (w : World) (hj : j ≤ 131071) : Calls Tryf.prog 15 #[.agg #[.int .u32 m, .int .u32 65536], .int .i64 ((j : Int) + 1)] w fun e w' => e = .returned (.int .u64 (((j * 65536 : Nat) : Int) + 65536)) ∧ Below w.heap.size w w' := by
  have h := off1 m (j + 1) w (by omega)
  have e1 : ((j + 1 : Nat) : Int) = (j : Int) + 1 := by omega
  have e2 : (((j + 1) * 65536 : Nat) : Int) = ((j * 65536 : Nat) : Int) + 65536 := by rw [Nat.add_mul, Nat.one_mul]; rfl
  rw [e1, e2] at h
  exact h

set_option maxRecDepth 100000 in
theorem blen1_s (n m j : Nat) (w : World) (hm : m = n + 65536) (h1 : m ≤ 4294967295) (hj : j ≤ 131071) (hjn : j * 65536 ≤ n) : Calls Tryf.prog 16 #[.agg #[.int .u32 m, .int .u32 65536], .int .i64 ((j : Int) + 1)] w fun e w' => e = .returned (.int .u32 (min 65536 (n - j * 65536) : Nat)) ∧ Below w.heap.size w w' := by
  have h := blen_v1 m (j + 1) w h1 (by omega) (by rw [hm, Nat.add_mul, Nat.one_mul]; exact Nat.add_le_add_right hjn _)
  have e1 : ((j + 1 : Nat) : Int) = (j : Int) + 1 := by omega
  have e2 : m - (j + 1) * 65536 = n - j * 65536 := by rw [hm, Nat.add_mul, Nat.one_mul, Nat.add_sub_add_right]
  rw [e1, e2] at h
  exact h

theorem four_later {w w' wr : World} {a b c d : Addr} {p q r s : Value} (hb : Below w.heap.size w w')
    (h : w.cell? a = some p ∧ w.cell? b = some q ∧ w.cell? c = some r ∧ w.cell? d = some s ∧ Below wr.heap.size wr w) :
    w'.cell? a = some p ∧ w'.cell? b = some q ∧ w'.cell? c = some r ∧ w'.cell? d = some s ∧ Below wr.heap.size wr w' :=
  ⟨cell_later hb h.1, cell_later hb h.2.1, cell_later hb h.2.2.1, cell_later hb h.2.2.2.1, h.2.2.2.2.trans (hb.mono h.2.2.2.2.size)⟩

set_option maxRecDepth 100000 in
set_option maxHeartbeats 1000000 in
theorem one_none (v : Int) (n : Nat) (w : World) (h1 : v ≠ 256) (h2 : v ≠ 512) : Calls Tryf.prog 6 #[.int .u16 v, .int .u32 n] w (Fine w) := by
  have b1 : (v == 256) = false := by simpa using h1
  have b2 : (v == 512) = false := by simpa using h2
  have b3 : (v != 256) = true := by simpa using h1
  have b4 : (v != 512) = true := by simpa using h2
  go_enter Tryf.func6, Tryf.ntmps6
  go_wp2_with fail
  go_ret
  exact ⟨rfl, Below.refl _ _⟩

set_option maxRecDepth 100000 in
set_option maxHeartbeats 1000000 in
theorem one_long1 (n : Nat) (w : World) (h : 4294901759 < n) : Calls Tryf.prog 6 #[.int .u16 256, .int .u32 n] w (Fine w) := by
  have b1 : decide ((4294901759 : Int) < (n : Int)) = true := by simpa using (by omega : (4294901759 : Int) < n)
  go_enter Tryf.func6, Tryf.ntmps6
  go_wp2_with fail
  go_ret
  exact ⟨rfl, Below.refl _ _⟩

set_option maxRecDepth 100000 in
set_option maxHeartbeats 1000000 in
theorem one_long2 (n : Nat) (w : World) (h : 4294901759 < n) : Calls Tryf.prog 6 #[.int .u16 512, .int .u32 n] w (Fine w) := by
  have b1 : decide ((4294901759 : Int) < (n : Int)) = true := by simpa using (by omega : (4294901759 : Int) < n)
  go_enter Tryf.func6, Tryf.ntmps6
  go_wp2_with fail
  go_ret
  exact ⟨rfl, Below.refl _ _⟩

set_option maxRecDepth 100000 in
set_option maxHeartbeats 1000000 in
theorem one_v1 (n : Nat) (w : World) (hn : n ≤ 4294901759) : Calls Tryf.prog 6 #[.int .u16 256, .int .u32 n] w (Fine w) := by
  have b1 : decide ((4294901759 : Int) < (n : Int)) = false := by simpa using (by omega : (n : Int) ≤ 4294901759)
  obtain ⟨m, hm⟩ : ∃ m, m = n + 65536 := ⟨_, rfl⟩
  have r1 : IntKind.u32.wrap ((n : Int) + 65536) = (m : Int) := by rw [wu32 (by omega) (by omega)]; omega
  go_enter Tryf.func6, Tryf.ntmps6
  go_wp2_with fail
  refine (layout_v1 n _).mono ?_
  rintro e w1 ⟨rfl, hb1⟩
  go_wp2_with fail
  have em : ((n : Int) + 65536) = (m : Int) := by omega
  rw [em]
  have HM : Hid (m = n + 65536) := hm
  clear em r1 b1 hm
  have s0 : (w1.alloc (.cells #[.int .u32 n, .int .u32 65536] 36)).cell? ⟨w1.heap.size, 0, none⟩ = some (.int .u32 n) := by simp [go_sem]
  have s1 : (w1.alloc (.cells #[.int .u32 n, .int .u32 65536] 36)).cell? ⟨w1.heap.size, 1, none⟩ = some (.int .u32 65536) := by simp [go_sem]
  have hbA : Below w.heap.size w (w1.alloc (.cells #[.int .u32 n, .int .u32 65536] 36)) := hb1.alloc hb1.size _
  obtain ⟨N, hN⟩ : ∃ N, N = w1.heap.size := ⟨_, rfl⟩
  rw [← hN] at s0 s1 ⊢
  obtain ⟨wa, hwa⟩ : ∃ wa, wa = w1.alloc (.cells #[.int .u32 n, .int .u32 65536] 36) := ⟨_, rfl⟩
  rw [← hwa] at s0 s1 hbA ⊢
  clear hN hwa hb1
  refine (layout_v1 m _).mono ?_
  rintro e w2 ⟨rfl, hb2⟩
  have hbB : Below wa.heap.size wa (w2.alloc (.cells #[.int .u32 m, .int .u32 65536] 36)) := hb2.alloc hb2.size _
  have c0 := cell_later hbB s0
  have c1 := cell_later hbB s1
  have d0 : (w2.alloc (.cells #[.int .u32 m, .int .u32 65536] 36)).cell? ⟨w2.heap.size, 0, none⟩ = some (.int .u32 m) := by simp [go_sem]
  have d1 : (w2.alloc (.cells #[.int .u32 m, .int .u32 65536] 36)).cell? ⟨w2.heap.size, 1, none⟩ = some (.int .u32 65536) := by simp [go_sem]
  have hbC := hbA.trans (hbB.mono hbA.size)
  go_upto_region 9 with fail
  obtain ⟨M, hM⟩ : ∃ M, M = w2.heap.size := ⟨_, rfl⟩
  rw [← hM] at d0 d1 ⊢
  obtain ⟨wb, hwb⟩ : ∃ wb, wb = w2.alloc (.cells #[.int .u32 m, .int .u32 65536] 36) := ⟨_, rfl⟩
  rw [← hwb] at c0 c1 d0 d1 hbC ⊢
  clear hM hwb hb2 hbB hbA s0 s1
  have hln := fun wz => length12 n 65536 wz
  have hlm := fun wz => length12 m 65536 wz
  have tokA : True := trivial
  go_upto_region 11 with (go_at_call 12; (first | (have _t := tokA; refine (hln _).mono ?_; clear tokA) | refine (hlm _).mono ?_); rintro e wx ⟨rfl, hbx⟩; replace c0 := cell_later hbx c0; replace c1 := cell_later hbx c1; replace d0 := cell_later hbx d0; replace d1 := cell_later hbx d1; replace hbC := hbC.trans (hbx.mono hbC.size); clear hbx)
  clear hln hlm
  have hkn := fun wz => blocks_v1 n wz (by omega)
  have hkm := fun wz => blocks_v1 m wz (by have := HM.out; omega)
  obtain ⟨K, hK⟩ : ∃ K, K = k1 n := ⟨_, rfl⟩
  have hKn : Hid (K = (n + 65535) / 65536) := hK
  have hK2 : K ≤ 65536 := by unfold k1 at hK; omega
  have hKm : k1 m = K + 1 := by unfold k1 at hK ⊢; have := HM.out; omega
  rw [hKm] at hkm
  rw [← hK] at hkn
  clear hK hKm
  have tokB : True := trivial
  go_upto_region 16 with (go_at_call 14; (first | (have _t := tokB; refine (hkn _).mono ?_; clear tokB) | refine (hkm _).mono ?_); rintro e wx ⟨rfl, hbx⟩; replace c0 := cell_later hbx c0; replace c1 := cell_later hbx c1; replace d0 := cell_later hbx d0; replace d1 := cell_later hbx d1; replace hbC := hbC.trans (hbx.mono hbC.size); clear hbx)
  clear hkn hkm
  have ho0 := fun wz => off1_0 m wz
  have hl0 := fun wz => blen1_0 m wz (by have := HM.out; omega) (by have := HM.out; omega)
  go_upto_region 20 with (first | (go_at_call 15; refine (ho0 _).mono ?_; rintro e wx ⟨rfl, hbx⟩; replace c0 := cell_later hbx c0; replace c1 := cell_later hbx c1; replace d0 := cell_later hbx d0; replace d1 := cell_later hbx d1; replace hbC := hbC.trans (hbx.mono hbC.size); clear hbx) | (go_at_call 16; refine (hl0 _).mono ?_; rintro e wx ⟨rfl, hbx⟩; replace c0 := cell_later hbx c0; replace c1 := cell_later hbx c1; replace d0 := cell_later hbx d0; replace d1 := cell_later hbx d1; replace hbC := hbC.trans (hbx.mono hbC.size); clear hbx))
  clear ho0 hl0
  go_wp2_with fail
  obtain ⟨w4, hw4⟩ : ∃ w4 : World, w4 = wx := ⟨_, rfl⟩
  subst hw4
  go_loopg [11] K (fun g i wr => ∃ j : Nat, g + j = K ∧ i = .int .i64 j ∧ Below w4.heap.size w4 wr)
  case atStart => exact ⟨0, by omega, rfl, Below.refl _ _⟩
  case round =>
    obtain ⟨j, hg, rfl, hbr⟩ := hrel
    by_cases hj : j < K
    · have e0 := cell_later hbr c0
      have e1 := cell_later hbr c1
      have f0 := cell_later hbr d0
      have f1 := cell_later hbr d1
      have x0 : (j : Int) < (K : Int) := by omega
      have hos := fun wz => off1 n j wz (by omega)
      have hls := fun wz => blen_v1 n j wz (by omega) (by omega) (by have := hKn.out; omega)
      have hob := fun wz => off1_s m j wz (by omega)
      have hlb := fun wz => blen1_s n m j wz HM.out (by have := HM.out; omega) (by omega) (by have := hKn.out; omega)
      have y0 : j * 65536 ≤ 4294967295 := by have := hKn.out; omega
      obtain ⟨P, hP⟩ : ∃ P, P = j * 65536 := ⟨_, rfl⟩
      rw [← hP] at hos hob y0
      obtain ⟨L, hL⟩ : ∃ L, L = min 65536 (n - j * 65536) := ⟨_, rfl⟩
      rw [← hL] at hls hlb
      clear hP hL c0 c1 d0 d1
      have q1 : IntKind.i64.wrap ((j : Int) + 1) = (j : Int) + 1 := by rw [IntKind.wrap_i64]; omega
      have q2 : IntKind.u64.wrap ((P : Int) + 65536) = (P : Int) + 65536 := by rw [IntKind.wrap_u64]; omega
      have tokC : True := trivial
      go_upto_region 23 with fail
      go_region_held3 (fun w' => w'.cell? ⟨N, 0, none⟩ = some (.int .u32 n) ∧ w'.cell? ⟨N, 1, none⟩ = some (.int .u32 65536) ∧ w'.cell? ⟨M, 0, none⟩ = some (.int .u32 m) ∧ w'.cell? ⟨M, 1, none⟩ = some (.int .u32 65536) ∧ Below wr.heap.size wr w')
        (first | exact four_later (by assumption) (by assumption) | exact four_later (Below.refl _ _).drew ⟨e0, e1, f0, f1, Below.refl _ _⟩)
        (first | (go_at_call 15; first | (have _t := tokC; refine (hob _).mono ?_; clear tokC; rintro e wy ⟨rfl, hby⟩) | (refine (hos _).mono ?_; rintro e wy ⟨rfl, hby⟩)))
      obtain ⟨g0, g1, g2, g3, hby2⟩ : wy.cell? ⟨N, 0, none⟩ = some (.int .u32 n) ∧ wy.cell? ⟨N, 1, none⟩ = some (.int .u32 65536) ∧ wy.cell? ⟨M, 0, none⟩ = some (.int .u32 m) ∧ wy.cell? ⟨M, 1, none⟩ = some (.int .u32 65536) ∧ Below wr.heap.size wr wy := by assumption
      have hbr2 := hbr.trans (hby2.mono hbr.size)
      clear e0 e1 f0 f1 hby2 hos hob hbr
      obtain ⟨w5, hw5⟩ : ∃ w5 : World, w5 = wy := ⟨_, rfl⟩
      subst hw5
      have tokD : True := trivial
      go_upto_region 25 with fail
      go_region_held3 (fun w' => w'.cell? ⟨N, 0, none⟩ = some (.int .u32 n) ∧ w'.cell? ⟨N, 1, none⟩ = some (.int .u32 65536) ∧ w'.cell? ⟨M, 0, none⟩ = some (.int .u32 m) ∧ w'.cell? ⟨M, 1, none⟩ = some (.int .u32 65536) ∧ Below w5.heap.size w5 w')
        (first | exact four_later (by assumption) (by assumption) | exact four_later (Below.refl _ _).drew ⟨g0, g1, g2, g3, Below.refl _ _⟩)
        (first | (go_at_call 16; first | (have _t := tokD; refine (hlb _).mono ?_; clear tokD; rintro e wz ⟨rfl, hbz⟩) | (refine (hls _).mono ?_; rintro e wz ⟨rfl, hbz⟩)))
      obtain ⟨_, _, _, _, hbz2⟩ : wz.cell? ⟨N, 0, none⟩ = some (.int .u32 n) ∧ wz.cell? ⟨N, 1, none⟩ = some (.int .u32 65536) ∧ wz.cell? ⟨M, 0, none⟩ = some (.int .u32 m) ∧ wz.cell? ⟨M, 1, none⟩ = some (.int .u32 65536) ∧ Below w5.heap.size w5 wz := by assumption
      have hbr3 := hbr2.trans (hbz2.mono hbr2.size)
      go_wp2_with fail
      go_roundg (K - (j + 1))
      case measure => omega
      case rel => exact ⟨j + 1, by omega, by go_num, hbr3⟩
    · have x0 : decide ((j : Int) < (K : Int)) = false := by simpa using (by omega : (K : Int) ≤ j)
      go_wp2_with fail
      go_ret
      exact ⟨rfl, hbC.trans (hbr.mono hbC.size)⟩
end Go.Proofs.Qxb6608561aFmt
