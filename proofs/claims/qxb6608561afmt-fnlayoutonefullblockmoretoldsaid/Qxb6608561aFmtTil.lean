/- FnLayoutTilesTheSegment: the walk. -/
import Derived.Test.Qxb6608561aFmtLay
import Derived.Deep.OwnRows
import Derived.Deep.QuietTactic
import Derived.BigQuiet
namespace Go.Proofs.Qxb6608561aFmt
open Go.RowKit

/-- The law's end. -/
def Fine (w : World) (e : Ending) (w' : World) : Prop := e = .returned (.bool true) ∧ Below w.heap.size w w'

set_option maxRecDepth 100000 in
set_option maxHeartbeats 1000000 in
theorem til_none (v : Int) (n : Nat) (w : World) (h1 : v ≠ 256) (h2 : v ≠ 512) : Calls Tryf.prog 5 #[.int .u16 v, .int .u32 n] w (Fine w) := by
  have b1 : (v == 256) = false := by simpa using h1
  have b2 : (v == 512) = false := by simpa using h2
  have b3 : (v != 256) = true := by simpa using h1
  have b4 : (v != 512) = true := by simpa using h2
  go_enter Tryf.func5, Tryf.ntmps5
  go_wp2_with fail
  go_ret
  exact ⟨rfl, Below.refl _ _⟩


set_option maxRecDepth 100000 in
set_option maxHeartbeats 1000000 in
theorem til_v1 (n : Nat) (w : World) (hn : n ≤ 4294967295) : Calls Tryf.prog 5 #[.int .u16 256, .int .u32 n] w (Fine w) := by
  go_enter Tryf.func5, Tryf.ntmps5
  go_wp2_with (go_at_call 11; refine (layout_v1 n _).mono ?_; rintro e w1 ⟨rfl, hb1⟩)
  refine (length12 n 65536 _).mono ?_
  rintro e w2 ⟨rfl, hb2⟩
  have c0 := cell_later (v := .int .u32 n) (a := ⟨w1.heap.size, 0, none⟩) hb2 (by simp [go_sem])
  have c1 := cell_later (v := .int .u32 65536) (a := ⟨w1.heap.size, 1, none⟩) hb2 (by simp [go_sem])
  have hbw2 : Below w.heap.size w w2 := (hb1.trans (((Below.refl _ _).alloc (Nat.le_refl _) _).mono hb1.size)).trans (hb2.mono (by have := hb1.size; simp; omega))
  obtain ⟨N, hN⟩ : ∃ N, N = w1.heap.size := ⟨_, rfl⟩
  rw [← hN] at c0 c1 ⊢
  clear hN hb1 hb2
  go_wp2_with fail
  refine (size13 n 65536 _).mono ?_
  rintro e w3 ⟨rfl, hb3⟩
  have d0 := cell_later hb3 c0
  have d1 := cell_later hb3 c1
  have hbw3 : Below w.heap.size w w3 := hbw2.trans (hb3.mono hbw2.size)
  clear c0 c1 hb3 hbw2
  go_wp2_with fail
  refine (blocks_v1 n _ hn).mono ?_
  rintro e w4 ⟨rfl, hb4⟩
  have c0 := cell_later hb4 d0
  have c1 := cell_later hb4 d1
  have hbw4 : Below w.heap.size w w4 := hbw3.trans (hb4.mono hbw3.size)
  clear d0 d1 hb4 hbw3
  obtain ⟨K, hK⟩ : ∃ K, K = k1 n := ⟨_, rfl⟩
  have hKn : Hid (K = (n + 65535) / 65536) := hK
  have hK2 : K ≤ 65536 := by unfold k1 at hK; omega
  rw [← hK]
  clear hK
  go_wp2_with fail
  go_loopg [9, 10] K (fun g p i wr => ∃ j : Nat, g + j = K ∧ p = .int .u64 (min n (j * 65536) : Nat) ∧ i = .int .i64 j ∧ Below w4.heap.size w4 wr)
  case atStart => exact ⟨0, by omega, by simp, rfl, Below.refl _ _⟩
  case round =>
    obtain ⟨j, hg, rfl, rfl, hbr⟩ := hrel
    by_cases hj : j < K
    · have e0 := cell_later hbr c0
      have e1 := cell_later hbr c1
      have x0 : (j : Int) < (K : Int) := by omega
      have hp : min n (j * 65536) = j * 65536 := by have := hKn.out; omega
      have ho := fun wz => off_v1 n j wz (by omega)
      have hl := fun wz => blen_v1 n j wz hn (by omega) (by have := hKn.out; omega)
      rw [hp]
      obtain ⟨P, hP⟩ : ∃ P, P = j * 65536 := ⟨_, rfl⟩
      obtain ⟨L, hL⟩ : ∃ L, L = min 65536 (n - j * 65536) := ⟨_, rfl⟩
      rw [← hP] at ho ⊢
      rw [← hL] at hl
      have HP : Hid (P = j * 65536 ∧ L = min 65536 (n - j * 65536)) := ⟨hP, hL⟩
      have y0 : P ≤ 4294967295 := by have := hKn.out; omega
      have y1 : 1 ≤ L ∧ L ≤ 65536 := by have := hKn.out; omega
      obtain ⟨y1, y2⟩ := y1
      have z1 : ((L : Int) == 0) = false := by simpa using (by omega : L ≠ 0)
      have z2 : decide ((65536 : Int) < (L : Int)) = false := by simpa using (by omega : (L : Int) ≤ 65536)
      have r1 : IntKind.u64.wrap (L : Int) = L := wu64 (by omega) (by omega)
      have r2 : IntKind.u64.wrap ((P : Int) + (L : Int)) = ((P + L : Nat) : Int) := by rw [wu64 (by omega) (by omega)]; omega
      clear hP hL hp
      by_cases hlast : j + 1 = K
      · have z3 : decide ((j : Int) < (K : Int) - 1) = false := by simpa using (by omega : (K : Int) - 1 ≤ j)
        have hfin' : P + L = min n ((j + 1) * 65536) := by have := HP.out; have := hKn.out; omega
        have hfin : Hid (P + L = min n ((j + 1) * 65536)) := hfin'
        clear hfin'
        go_wp2_with (first | (go_at_call 15; refine (ho _).mono ?_; rintro e w5 ⟨rfl, hw5⟩; have hb5 : Below wr.heap.size wr w5 := hw5 ▸ (Below.refl _ _).alloc (Nat.le_refl _) _; have f0 := cell_later hb5 e0; have f1 := cell_later hb5 e1; clear hw5) | (go_at_call 16; refine (hl _).mono ?_; rintro e w6 ⟨rfl, hb6⟩))
        go_roundg (K - (j + 1))
        case measure => omega
        case rel => exact ⟨j + 1, by omega, by rw [← hfin.out]; rfl, by go_num, hbr.trans ((hb5.mono hbr.size).trans (hb6.mono (Nat.le_trans hbr.size hb5.size)))⟩
      · have z3 : decide ((j : Int) < (K : Int) - 1) = true := by simpa using (by omega : (j : Int) < (K : Int) - 1)
        have hL5 : L = 65536 := by have := HP.out; have := hKn.out; omega
        have hfin' : P + L = min n ((j + 1) * 65536) := by have := HP.out; have := hKn.out; omega
        have hfin : Hid (P + L = min n ((j + 1) * 65536)) := hfin'
        clear hfin'
        subst hL5
        go_wp2_with (first | (go_at_call 15; refine (ho _).mono ?_; rintro e w5 ⟨rfl, hw5⟩; have hb5 : Below wr.heap.size wr w5 := hw5 ▸ (Below.refl _ _).alloc (Nat.le_refl _) _; have f0 := cell_later hb5 e0; have f1 := cell_later hb5 e1; clear hw5) | (go_at_call 16; refine (hl _).mono ?_; rintro e w6 ⟨rfl, hb6⟩))
        go_roundg (K - (j + 1))
        case measure => omega
        case rel => exact ⟨j + 1, by omega, by rw [← hfin.out]; rfl, by go_num, hbr.trans ((hb5.mono hbr.size).trans (hb6.mono (Nat.le_trans hbr.size hb5.size)))⟩
    · have x0 : decide ((j : Int) < (K : Int)) = false := by simpa using (by omega : (K : Int) ≤ j)
      have hp : min n (j * 65536) = n := by have := hKn.out; omega
      rw [hp]
      have r1 : IntKind.u64.wrap (n : Int) = n := wu64 (by omega) (by omega)
      go_wp2_with fail
      go_ret
      exact ⟨rfl, hbw4.trans (hbr.mono hbw4.size)⟩

set_option maxRecDepth 100000 in
set_option maxHeartbeats 1000000 in
theorem til_v2_0 (w : World) : Calls Tryf.prog 5 #[.int .u16 512, .int .u32 0] w (Fine w) := by
  go_enter Tryf.func5, Tryf.ntmps5
  go_wp2_with (go_at_call 11; refine (layout_v2 0 _).mono ?_; rintro e w1 ⟨rfl, hb1⟩)
  refine (length12 0 0 _).mono ?_
  rintro e w2 ⟨rfl, hb2⟩
  have c0 := cell_later (v := .int .u32 0) (a := ⟨w1.heap.size, 0, none⟩) hb2 (by simp [go_sem])
  have c1 := cell_later (v := .int .u32 0) (a := ⟨w1.heap.size, 1, none⟩) hb2 (by simp [go_sem])
  have hbw2 : Below w.heap.size w w2 := (hb1.trans (((Below.refl _ _).alloc (Nat.le_refl _) _).mono hb1.size)).trans (hb2.mono (by have := hb1.size; simp; omega))
  obtain ⟨N, hN⟩ : ∃ N, N = w1.heap.size := ⟨_, rfl⟩
  rw [← hN] at c0 c1 ⊢
  clear hN hb1 hb2
  go_wp2_with fail
  refine (size13 0 0 _).mono ?_
  rintro e w3 ⟨rfl, hb3⟩
  have d0 := cell_later hb3 c0
  have d1 := cell_later hb3 c1
  have hbw3 : Below w.heap.size w w3 := hbw2.trans (hb3.mono hbw2.size)
  clear c0 c1 hb3 hbw2
  go_wp2_with fail
  refine (blocks_0 0 _).mono ?_
  rintro e w4 ⟨rfl, hb4⟩
  have c0 := cell_later hb4 d0
  have c1 := cell_later hb4 d1
  have hbw4 : Below w.heap.size w w4 := hbw3.trans (hb4.mono hbw3.size)
  clear d0 d1 hb4 hbw3
  go_wp2_with fail
  go_loopg [9, 10] 0 (fun g p i wr => p = .int .u64 0 ∧ i = .int .i64 0 ∧ Below w4.heap.size w4 wr)
  case atStart => exact ⟨rfl, rfl, Below.refl _ _⟩
  case round =>
    obtain ⟨rfl, rfl, hbr⟩ := hrel
    go_wp2_with fail
    go_ret
    exact ⟨rfl, hbw4.trans (hbr.mono hbw4.size)⟩

set_option maxRecDepth 100000 in
set_option maxHeartbeats 1000000 in
theorem til_v2 (n : Nat) (w : World) (h1 : 1 ≤ n) (hn : n ≤ 4294967295) : Calls Tryf.prog 5 #[.int .u16 512, .int .u32 n] w (Fine w) := by
  go_enter Tryf.func5, Tryf.ntmps5
  go_wp2_with (go_at_call 11; refine (layout_v2 n _).mono ?_; rintro e w1 ⟨rfl, hb1⟩)
  refine (length12 n n _).mono ?_
  rintro e w2 ⟨rfl, hb2⟩
  have c0 := cell_later (v := .int .u32 n) (a := ⟨w1.heap.size, 0, none⟩) hb2 (by simp [go_sem])
  have c1 := cell_later (v := .int .u32 n) (a := ⟨w1.heap.size, 1, none⟩) hb2 (by simp [go_sem])
  have hbw2 : Below w.heap.size w w2 := (hb1.trans (((Below.refl _ _).alloc (Nat.le_refl _) _).mono hb1.size)).trans (hb2.mono (by have := hb1.size; simp; omega))
  obtain ⟨N, hN⟩ : ∃ N, N = w1.heap.size := ⟨_, rfl⟩
  rw [← hN] at c0 c1 ⊢
  clear hN hb1 hb2
  go_wp2_with fail
  refine (size13 n n _).mono ?_
  rintro e w3 ⟨rfl, hb3⟩
  have d0 := cell_later hb3 c0
  have d1 := cell_later hb3 c1
  have hbw3 : Below w.heap.size w w3 := hbw2.trans (hb3.mono hbw2.size)
  clear c0 c1 hb3 hbw2
  go_wp2_with fail
  refine (blocks_v2 n _ h1 hn).mono ?_
  rintro e w4 ⟨rfl, hb4⟩
  have c0 := cell_later hb4 d0
  have c1 := cell_later hb4 d1
  have hbw4 : Below w.heap.size w w4 := hbw3.trans (hb4.mono hbw3.size)
  clear d0 d1 hb4 hbw3
  go_wp2_with fail
  go_loopg [9, 10] 1 (fun g p i wr => ((g = 1 ∧ p = .int .u64 0 ∧ i = .int .i64 0) ∨ (g = 0 ∧ p = .int .u64 n ∧ i = .int .i64 1)) ∧ Below w4.heap.size w4 wr)
  case atStart => exact ⟨.inl ⟨rfl, rfl, rfl⟩, Below.refl _ _⟩
  case round =>
    obtain ⟨⟨rfl, rfl, rfl⟩ | ⟨rfl, rfl, rfl⟩, hbr⟩ := hrel
    · have e0 := cell_later hbr c0
      have e1 := cell_later hbr c1
      have ho := fun wz => off_v2 n wz hn
      have hl := fun wz => blen_v2 n wz hn
      have z1 : ((n : Int) == 0) = false := by simpa using (by omega : n ≠ 0)
      have z2 : decide ((n : Int) < (n : Int)) = false := by simp
      have r1 : IntKind.u64.wrap (n : Int) = n := wu64 (by omega) (by omega)
      go_wp2_with (first | (go_at_call 15; refine (ho _).mono ?_; rintro e w5 ⟨rfl, hw5⟩; have hb5 : Below wr.heap.size wr w5 := hw5 ▸ (Below.refl _ _).alloc (Nat.le_refl _) _; have f0 := cell_later hb5 e0; have f1 := cell_later hb5 e1; clear hw5) | (go_at_call 16; refine (hl _).mono ?_; rintro e w6 ⟨rfl, hb6⟩))
      go_roundg 0
      case measure => omega
      case rel => exact ⟨.inr ⟨rfl, by first | rfl | go_num, by first | rfl | go_num⟩, hbr.trans ((hb5.mono hbr.size).trans (hb6.mono (Nat.le_trans hbr.size hb5.size)))⟩
    · have r1 : IntKind.u64.wrap (n : Int) = n := wu64 (by omega) (by omega)
      go_wp2_with fail
      go_ret
      exact ⟨rfl, hbw4.trans (hbr.mono hbw4.size)⟩

theorem til_any (v : Int) (n : Nat) (w : World) (hn : n ≤ 4294967295) : Calls Tryf.prog 5 #[.int .u16 v, .int .u32 n] w (Fine w) := by
  by_cases h1 : v = 256
  · subst h1; exact til_v1 n w hn
  · by_cases h2 : v = 512
    · subst h2
      by_cases h0 : n = 0
      · subst h0; exact til_v2_0 w
      · exact til_v2 n w (by omega) hn
    · exact til_none v n w h1 h2

end Go.Proofs.Qxb6608561aFmt
