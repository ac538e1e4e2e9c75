/- FnLayoutOneFullBlockMore: the walk, version 2. -/
import Derived.Test.Qxb6608561aFmtOne
namespace Go.Proofs.Qxb6608561aFmt
open Go.RowKit

theorem off2 (n : Nat) (w : World) (h1 : n ≤ 4294967295) : Calls Tryf.prog 15 #[.agg #[.int .u32 n, .int .u32 n], .int .i64 0] w fun e w' => e = .returned (.int .u64 0) ∧ Below w.heap.size w w' :=
  (off_v2 n w h1).mono fun _ _ ⟨h, hw⟩ => ⟨h, hw ▸ (Below.refl _ _).alloc (Nat.le_refl _) _⟩

set_option maxRecDepth 100000 in
set_option maxHeartbeats 1000000 in
theorem one_v2_0 (n : Nat) (w : World) (hn : n ≤ 4294901759) (h0 : n = 0) : Calls Tryf.prog 6 #[.int .u16 512, .int .u32 n] w (Fine w) := by
  have b1 : decide ((4294901759 : Int) < (n : Int)) = false := by simpa using (by omega : (n : Int) ≤ 4294901759)
  obtain ⟨m, hm⟩ : ∃ m, m = n + 65536 := ⟨_, rfl⟩
  have r1 : IntKind.u32.wrap ((n : Int) + 65536) = (m : Int) := by rw [wu32 (by omega) (by omega)]; omega
  have b2 : ((n : Int) == 0) = true := by simpa using h0
  have hkn : ∀ wz, Calls Tryf.prog 14 #[.agg #[.int .u32 n, .int .u32 n]] wz fun e w' => e = .returned (.int .i64 0) ∧ Below wz.heap.size wz w' := fun wz => by subst h0; exact blocks_0 0 wz
  have H0 : Hid ( n = 0) := h0
  clear h0
  go_enter Tryf.func6, Tryf.ntmps6
  go_wp2_with fail
  refine (layout_v2 n _).mono ?_
  rintro e w1 ⟨rfl, hb1⟩
  go_wp2_with fail
  have em : ((n : Int) + 65536) = (m : Int) := by omega
  rw [em]
  have HM : Hid (m = n + 65536) := hm
  clear em r1 b1 hm
  have s0 : (w1.alloc (.cells #[.int .u32 n, .int .u32 n] 36)).cell? ⟨w1.heap.size, 0, none⟩ = some (.int .u32 n) := by simp [go_sem]
  have s1 : (w1.alloc (.cells #[.int .u32 n, .int .u32 n] 36)).cell? ⟨w1.heap.size, 1, none⟩ = some (.int .u32 n) := by simp [go_sem]
  have hbA : Below w.heap.size w (w1.alloc (.cells #[.int .u32 n, .int .u32 n] 36)) := hb1.alloc hb1.size _
  obtain ⟨N, hN⟩ : ∃ N, N = w1.heap.size := ⟨_, rfl⟩
  rw [← hN] at s0 s1 ⊢
  obtain ⟨wa, hwa⟩ : ∃ wa, wa = w1.alloc (.cells #[.int .u32 n, .int .u32 n] 36) := ⟨_, rfl⟩
  rw [← hwa] at s0 s1 hbA ⊢
  clear hN hwa hb1
  refine (layout_v2 m _).mono ?_
  rintro e w2 ⟨rfl, hb2⟩
  have hbB : Below wa.heap.size wa (w2.alloc (.cells #[.int .u32 m, .int .u32 m] 36)) := hb2.alloc hb2.size _
  have c0 := cell_later hbB s0
  have c1 := cell_later hbB s1
  have d0 : (w2.alloc (.cells #[.int .u32 m, .int .u32 m] 36)).cell? ⟨w2.heap.size, 0, none⟩ = some (.int .u32 m) := by simp [go_sem]
  have d1 : (w2.alloc (.cells #[.int .u32 m, .int .u32 m] 36)).cell? ⟨w2.heap.size, 1, none⟩ = some (.int .u32 m) := by simp [go_sem]
  have hbC := hbA.trans (hbB.mono hbA.size)
  go_upto_region 9 with fail
  obtain ⟨M, hM⟩ : ∃ M, M = w2.heap.size := ⟨_, rfl⟩
  rw [← hM] at d0 d1 ⊢
  obtain ⟨wb, hwb⟩ : ∃ wb, wb = w2.alloc (.cells #[.int .u32 m, .int .u32 m] 36) := ⟨_, rfl⟩
  rw [← hwb] at c0 c1 d0 d1 hbC ⊢
  clear hM hwb hb2 hbB hbA s0 s1
  have hln := fun wz => length12 n n wz
  have hlm := fun wz => length12 m m wz
  have tokA : True := trivial
  go_upto_region 11 with (go_at_call 12; (first | (have _t := tokA; refine (hln _).mono ?_; clear tokA) | refine (hlm _).mono ?_); rintro e wx ⟨rfl, hbx⟩; replace c0 := cell_later hbx c0; replace c1 := cell_later hbx c1; replace d0 := cell_later hbx d0; replace d1 := cell_later hbx d1; replace hbC := hbC.trans (hbx.mono hbC.size); clear hbx)
  clear hln hlm
  have hkm := fun wz => blocks_v2 m wz (by have := HM.out; omega) (by have := HM.out; omega)
  have tokB : True := trivial
  go_upto_region 28 with (go_at_call 14; (first | (have _t := tokB; refine (hkn _).mono ?_; clear tokB) | refine (hkm _).mono ?_); rintro e wx ⟨rfl, hbx⟩; replace c0 := cell_later hbx c0; replace c1 := cell_later hbx c1; replace d0 := cell_later hbx d0; replace d1 := cell_later hbx d1; replace hbC := hbC.trans (hbx.mono hbC.size); clear hbx)
  clear hkn hkm
  have hom := fun wz => off2 m wz (by have := HM.out; omega)
  have hbm := fun wz => blen_v2 m wz (by have := HM.out; omega)
  have hbn := fun wz => blen_v2 n wz (by omega)
  have tokC : True := trivial
  go_upto_region 36 with (first | (go_at_call 15; refine (hom _).mono ?_; rintro e wx ⟨rfl, hbx⟩; replace c0 := cell_later hbx c0; replace c1 := cell_later hbx c1; replace d0 := cell_later hbx d0; replace d1 := cell_later hbx d1; replace hbC := hbC.trans (hbx.mono hbC.size); clear hbx) | (go_at_call 16; (first | (have _t := tokC; refine (hbm _).mono ?_; clear tokC) | refine (hbn _).mono ?_); rintro e wx ⟨rfl, hbx⟩; replace c0 := cell_later hbx c0; replace c1 := cell_later hbx c1; replace d0 := cell_later hbx d0; replace d1 := cell_later hbx d1; replace hbC := hbC.trans (hbx.mono hbC.size); clear hbx))
  clear hom hbn b2 c0 c1 H0
  refine (layout_v1 m _).mono ?_
  rintro e w3 ⟨rfl, hb3⟩
  go_wp2_with fail
  refine (blocks_v1 m _ (by have := HM.out; omega)).mono ?_
  rintro e w4 ⟨rfl, hb4⟩
  have hbX : Below wx.heap.size wx (w3.alloc (.cells #[.int .u32 m, .int .u32 65536] 36)) := hb3.alloc hb3.size _
  have hbY := hbX.trans (hb4.mono hbX.size)
  replace d0 := cell_later hbY d0
  replace d1 := cell_later hbY d1
  have s0 := cell_later (v := .int .u32 m) (a := ⟨w3.heap.size, 0, none⟩) hb4 (by simp [go_sem])
  have s1 := cell_later (v := .int .u32 65536) (a := ⟨w3.heap.size, 1, none⟩) hb4 (by simp [go_sem])
  replace hbC := hbC.trans (hbY.mono hbC.size)
  obtain ⟨Q, hQ⟩ : ∃ Q, Q = w3.heap.size := ⟨_, rfl⟩
  rw [← hQ] at s0 s1 ⊢
  clear hQ hb3 hb4 hbX hbY
  obtain ⟨K, hK⟩ : ∃ K, K = k1 m := ⟨_, rfl⟩
  have hKn : Hid (K = (m + 65535) / 65536) := hK
  have hM2 : m ≤ 4294967295 := by have := HM.out; omega
  have hK2 : K ≤ 65536 := by unfold k1 at hK; omega
  rw [← hK]
  clear hK
  go_wp2_with fail
  go_loopg [14, 15] K (fun g p i wr => ∃ j : Nat, g + j = K ∧ p = .int .u64 (min m (j * 65536) : Nat) ∧ i = .int .i64 j ∧ Below w4.heap.size w4 wr)
  case atStart => exact ⟨0, by omega, by simp, rfl, Below.refl _ _⟩
  case round =>
    obtain ⟨j, hg, rfl, rfl, hbr⟩ := hrel
    by_cases hj : j < K
    · have e0 := cell_later hbr s0
      have e1 := cell_later hbr s1
      have x0 : (j : Int) < (K : Int) := by omega
      have hl := fun wz => blen_v1 m j wz hM2 (by omega) (by have := hKn.out; omega)
      obtain ⟨P, hP⟩ : ∃ P, P = min m (j * 65536) := ⟨_, rfl⟩
      obtain ⟨L, hL⟩ : ∃ L, L = min 65536 (m - j * 65536) := ⟨_, rfl⟩
      rw [← hP]
      rw [← hL] at hl
      have hfin' : P + L = min m ((j + 1) * 65536) := by omega
      have hfin : Hid (P + L = min m ((j + 1) * 65536)) := hfin'
      have y0 : P ≤ 4294967295 := by omega
      have y1 : L ≤ 65536 := by omega
      have y2 : P + L ≤ 4294967295 := by omega
      have r1 : IntKind.u64.wrap (L : Int) = L := wu64 (by omega) (by omega)
      have r2 : IntKind.u64.wrap ((P : Int) + (L : Int)) = ((P + L : Nat) : Int) := by rw [wu64 (by omega) (by omega)]; omega
      clear hP hL hfin' d0 d1 s0 s1 hbm
      go_wp2_with (go_at_call 16; refine (hl _).mono ?_; rintro e w6 ⟨rfl, hb6⟩)
      go_roundg (K - (j + 1))
      case measure => omega
      case rel => exact ⟨j + 1, by omega, by rw [← hfin.out]; rfl, by go_num, hbr.trans (hb6.mono hbr.size)⟩
    · have x0 : decide ((j : Int) < (K : Int)) = false := by simpa using (by omega : (K : Int) ≤ j)
      have hp : min m (j * 65536) = m := by have := hKn.out; omega
      rw [hp]
      have e0 := cell_later hbr d0
      have e1 := cell_later hbr d1
      have r1 : IntKind.u64.wrap (m : Int) = m := wu64 (by omega) (by omega)
      clear d0 d1 s0 s1
      go_wp2_with (go_at_call 16; refine (hbm _).mono ?_; rintro e w6 ⟨rfl, hb6⟩)
      go_ret
      exact ⟨rfl, hbC.trans ((hbr.trans (hb6.mono hbr.size)).mono hbC.size)⟩

set_option maxRecDepth 100000 in
set_option maxHeartbeats 1000000 in
theorem one_v2_s (n : Nat) (w : World) (hn : n ≤ 4294901759) (h0 : 1 ≤ n) : Calls Tryf.prog 6 #[.int .u16 512, .int .u32 n] w (Fine w) := by
  have b1 : decide ((4294901759 : Int) < (n : Int)) = false := by simpa using (by omega : (n : Int) ≤ 4294901759)
  obtain ⟨m, hm⟩ : ∃ m, m = n + 65536 := ⟨_, rfl⟩
  have r1 : IntKind.u32.wrap ((n : Int) + 65536) = (m : Int) := by rw [wu32 (by omega) (by omega)]; omega
  have b2 : ((n : Int) == 0) = false := by simpa using (by omega : n ≠ 0)
  have hkn : ∀ wz, Calls Tryf.prog 14 #[.agg #[.int .u32 n, .int .u32 n]] wz fun e w' => e = .returned (.int .i64 1) ∧ Below wz.heap.size wz w' := fun wz => blocks_v2 n wz h0 (by omega)
  have H0 : Hid ( 1 ≤ n) := h0
  clear h0
  go_enter Tryf.func6, Tryf.ntmps6
  go_wp2_with fail
  refine (layout_v2 n _).mono ?_
  rintro e w1 ⟨rfl, hb1⟩
  go_wp2_with fail
  have em : ((n : Int) + 65536) = (m : Int) := by omega
  rw [em]
  have HM : Hid (m = n + 65536) := hm
  clear em r1 b1 hm
  have s0 : (w1.alloc (.cells #[.int .u32 n, .int .u32 n] 36)).cell? ⟨w1.heap.size, 0, none⟩ = some (.int .u32 n) := by simp [go_sem]
  have s1 : (w1.alloc (.cells #[.int .u32 n, .int .u32 n] 36)).cell? ⟨w1.heap.size, 1, none⟩ = some (.int .u32 n) := by simp [go_sem]
  have hbA : Below w.heap.size w (w1.alloc (.cells #[.int .u32 n, .int .u32 n] 36)) := hb1.alloc hb1.size _
  obtain ⟨N, hN⟩ : ∃ N, N = w1.heap.size := ⟨_, rfl⟩
  rw [← hN] at s0 s1 ⊢
  obtain ⟨wa, hwa⟩ : ∃ wa, wa = w1.alloc (.cells #[.int .u32 n, .int .u32 n] 36) := ⟨_, rfl⟩
  rw [← hwa] at s0 s1 hbA ⊢
  clear hN hwa hb1
  refine (layout_v2 m _).mono ?_
  rintro e w2 ⟨rfl, hb2⟩
  have hbB : Below wa.heap.size wa (w2.alloc (.cells #[.int .u32 m, .int .u32 m] 36)) := hb2.alloc hb2.size _
  have c0 := cell_later hbB s0
  have c1 := cell_later hbB s1
  have d0 : (w2.alloc (.cells #[.int .u32 m, .int .u32 m] 36)).cell? ⟨w2.heap.size, 0, none⟩ = some (.int .u32 m) := by simp [go_sem]
  have d1 : (w2.alloc (.cells #[.int .u32 m, .int .u32 m] 36)).cell? ⟨w2.heap.size, 1, none⟩ = some (.int .u32 m) := by simp [go_sem]
  have hbC := hbA.trans (hbB.mono hbA.size)
  go_upto_region 9 with fail
  obtain ⟨M, hM⟩ : ∃ M, M = w2.heap.size := ⟨_, rfl⟩
  rw [← hM] at d0 d1 ⊢
  obtain ⟨wb, hwb⟩ : ∃ wb, wb = w2.alloc (.cells #[.int .u32 m, .int .u32 m] 36) := ⟨_, rfl⟩
  rw [← hwb] at c0 c1 d0 d1 hbC ⊢
  clear hM hwb hb2 hbB hbA s0 s1
  have hln := fun wz => length12 n n wz
  have hlm := fun wz => length12 m m wz
  have tokA : True := trivial
  go_upto_region 11 with (go_at_call 12; (first | (have _t := tokA; refine (hln _).mono ?_; clear tokA) | refine (hlm _).mono ?_); rintro e wx ⟨rfl, hbx⟩; replace c0 := cell_later hbx c0; replace c1 := cell_later hbx c1; replace d0 := cell_later hbx d0; replace d1 := cell_later hbx d1; replace hbC := hbC.trans (hbx.mono hbC.size); clear hbx)
  clear hln hlm
  have hkm := fun wz => blocks_v2 m wz (by have := HM.out; omega) (by have := HM.out; omega)
  have tokB : True := trivial
  go_upto_region 28 with (go_at_call 14; (first | (have _t := tokB; refine (hkn _).mono ?_; clear tokB) | refine (hkm _).mono ?_); rintro e wx ⟨rfl, hbx⟩; replace c0 := cell_later hbx c0; replace c1 := cell_later hbx c1; replace d0 := cell_later hbx d0; replace d1 := cell_later hbx d1; replace hbC := hbC.trans (hbx.mono hbC.size); clear hbx)
  clear hkn hkm
  have hom := fun wz => off2 m wz (by have := HM.out; omega)
  have hbm := fun wz => blen_v2 m wz (by have := HM.out; omega)
  have hbn := fun wz => blen_v2 n wz (by omega)
  have tokC : True := trivial
  go_upto_region 36 with (first | (go_at_call 15; refine (hom _).mono ?_; rintro e wx ⟨rfl, hbx⟩; replace c0 := cell_later hbx c0; replace c1 := cell_later hbx c1; replace d0 := cell_later hbx d0; replace d1 := cell_later hbx d1; replace hbC := hbC.trans (hbx.mono hbC.size); clear hbx) | (go_at_call 16; (first | (have _t := tokC; refine (hbm _).mono ?_; clear tokC) | refine (hbn _).mono ?_); rintro e wx ⟨rfl, hbx⟩; replace c0 := cell_later hbx c0; replace c1 := cell_later hbx c1; replace d0 := cell_later hbx d0; replace d1 := cell_later hbx d1; replace hbC := hbC.trans (hbx.mono hbC.size); clear hbx))
  clear hom hbn b2 c0 c1 H0
  refine (layout_v1 m _).mono ?_
  rintro e w3 ⟨rfl, hb3⟩
  go_wp2_with fail
  refine (blocks_v1 m _ (by have := HM.out; omega)).mono ?_
  rintro e w4 ⟨rfl, hb4⟩
  have hbX : Below wx.heap.size wx (w3.alloc (.cells #[.int .u32 m, .int .u32 65536] 36)) := hb3.alloc hb3.size _
  have hbY := hbX.trans (hb4.mono hbX.size)
  replace d0 := cell_later hbY d0
  replace d1 := cell_later hbY d1
  have s0 := cell_later (v := .int .u32 m) (a := ⟨w3.heap.size, 0, none⟩) hb4 (by simp [go_sem])
  have s1 := cell_later (v := .int .u32 65536) (a := ⟨w3.heap.size, 1, none⟩) hb4 (by simp [go_sem])
  replace hbC := hbC.trans (hbY.mono hbC.size)
  obtain ⟨Q, hQ⟩ : ∃ Q, Q = w3.heap.size := ⟨_, rfl⟩
  rw [← hQ] at s0 s1 ⊢
  clear hQ hb3 hb4 hbX hbY
  obtain ⟨K, hK⟩ : ∃ K, K = k1 m := ⟨_, rfl⟩
  have hKn : Hid (K = (m + 65535) / 65536) := hK
  have hM2 : m ≤ 4294967295 := by have := HM.out; omega
  have hK2 : K ≤ 65536 := by unfold k1 at hK; omega
  rw [← hK]
  clear hK
  go_wp2_with fail
  go_loopg [14, 15] K (fun g p i wr => ∃ j : Nat, g + j = K ∧ p = .int .u64 (min m (j * 65536) : Nat) ∧ i = .int .i64 j ∧ Below w4.heap.size w4 wr)
  case atStart => exact ⟨0, by omega, by simp, rfl, Below.refl _ _⟩
  case round =>
    obtain ⟨j, hg, rfl, rfl, hbr⟩ := hrel
    by_cases hj : j < K
    · have e0 := cell_later hbr s0
      have e1 := cell_later hbr s1
      have x0 : (j : Int) < (K : Int) := by omega
      have hl := fun wz => blen_v1 m j wz hM2 (by omega) (by have := hKn.out; omega)
      obtain ⟨P, hP⟩ : ∃ P, P = min m (j * 65536) := ⟨_, rfl⟩
      obtain ⟨L, hL⟩ : ∃ L, L = min 65536 (m - j * 65536) := ⟨_, rfl⟩
      rw [← hP]
      rw [← hL] at hl
      have hfin' : P + L = min m ((j + 1) * 65536) := by omega
      have hfin : Hid (P + L = min m ((j + 1) * 65536)) := hfin'
      have y0 : P ≤ 4294967295 := by omega
      have y1 : L ≤ 65536 := by omega
      have y2 : P + L ≤ 4294967295 := by omega
      have r1 : IntKind.u64.wrap (L : Int) = L := wu64 (by omega) (by omega)
      have r2 : IntKind.u64.wrap ((P : Int) + (L : Int)) = ((P + L : Nat) : Int) := by rw [wu64 (by omega) (by omega)]; omega
      clear hP hL hfin' d0 d1 s0 s1 hbm
      go_wp2_with (go_at_call 16; refine (hl _).mono ?_; rintro e w6 ⟨rfl, hb6⟩)
      go_roundg (K - (j + 1))
      case measure => omega
      case rel => exact ⟨j + 1, by omega, by rw [← hfin.out]; rfl, by go_num, hbr.trans (hb6.mono hbr.size)⟩
    · have x0 : decide ((j : Int) < (K : Int)) = false := by simpa using (by omega : (K : Int) ≤ j)
      have hp : min m (j * 65536) = m := by have := hKn.out; omega
      rw [hp]
      have e0 := cell_later hbr d0
      have e1 := cell_later hbr d1
      have r1 : IntKind.u64.wrap (m : Int) = m := wu64 (by omega) (by omega)
      clear d0 d1 s0 s1
      go_wp2_with (go_at_call 16; refine (hbm _).mono ?_; rintro e w6 ⟨rfl, hb6⟩)
      go_ret
      exact ⟨rfl, hbC.trans ((hbr.trans (hb6.mono hbr.size)).mono hbC.size)⟩

theorem one_any (v : Int) (n : Nat) (w : World) : Calls Tryf.prog 6 #[.int .u16 v, .int .u32 n] w (Fine w) := by
  by_cases h1 : v = 256
  · subst h1
    by_cases hn : 4294901759 < n
    · exact one_long1 n w hn
    · exact one_v1 n w (by omega)
  · by_cases h2 : v = 512
    · subst h2
      by_cases hn : 4294901759 < n
      · exact one_long2 n w hn
      · by_cases h0 : n = 0
        · exact one_v2_0 n w (by omega) h0
        · exact one_v2_s n w (by omega) (by omega)
    · exact one_none v n w h1 h2

end Go.Proofs.Qxb6608561aFmt
