/- Refusals' error texts: the walks. -/
import Derived.Test.Qxb6615662aRows
import Derived.WalkKit
import Derived.WalkSpells
import Derived.WalkLawsBesides
import Derived.Deep.LoopGhost
import Derived.Deep.QuietTactic
import Derived.BigQuiet
namespace Go.Proofs.Qxb6615662a
open Go.RowKit

set_option maxHeartbeats 400000 in
theorem bytes4 (a b c d : ByteArray) (w : World) (ha : a.size ≤ 9223372036854775807) (hb : b.size ≤ 9223372036854775807) (hc : c.size ≤ 9223372036854775807) (hd : d.size ≤ 9223372036854775807) :
    Calls Try.prog 4 #[.string a, .string b, .string c, .string d] w fun e w' => ∃ r : Bool, e = .returned (.bool r) ∧ w' = w := by
  go_enter Try.func4, Try.ntmps4
  go_wp2
  iterate 7 (go_ret; exact ⟨false, rfl, rfl⟩)
  go_ret
  exact ⟨true, rfl, rfl⟩

/-- It answers some bool; false only where no byte is a colon. -/
def ToldByte (s : ByteArray) (w : World) (e : Ending) (w' : World) : Prop := ∃ r : Bool, e = .returned (.bool r) ∧ w' = w ∧ (r = false → ∀ i (h : i < s.size), s[i] ≠ 58)

set_option maxHeartbeats 400000 in
theorem has5 (s : ByteArray) (w : World) (hs : s.size ≤ 65536) : Calls Try.prog 5 #[.string s, .int .u8 58] w (ToldByte s w) := by
  go_enter Try.func5, Try.ntmps5
  go_wp2
  go_loopg [5] s.size (fun g i wx => wx = w ∧ ∃ r : Nat, r ≤ s.size ∧ g = s.size - r ∧ i = .int .i64 r ∧ ∀ i (h : i < s.size), i < r → s[i] ≠ 58)
  case atStart => exact ⟨rfl, 0, Nat.zero_le _, rfl, rfl, fun i h hi => absurd hi (Nat.not_lt_zero _)⟩
  case round =>
    obtain ⟨hwr, r, hr, rfl, rfl, hne⟩ := hrel
    subst hwr
    have HNe : Hid (∀ i (h : i < s.size), i < r → s[i] ≠ 58) := hne
    clear hne
    by_cases hlt : r < s.size
    · go_wp2
      · go_ret
        exact ⟨true, rfl, rfl, fun h => by cases h⟩
      · go_roundg (s.size - (r + 1))
        case measure => omega
        case rel =>
          have hb : ((s[r].toNat : Int) == 58) = false := by assumption
          refine ⟨rfl, r + 1, by omega, rfl, by go_num, fun i h hi => ?_⟩
          by_cases e : i = r
          · subst e
            intro e2
            rw [e2] at hb
            exact absurd hb (by decide)
          · exact HNe.out i h (by omega)
    · go_wp2
      go_ret
      exact ⟨false, rfl, rfl, fun _ i h => HNe.out i h (by omega)⟩

theorem refuse8 (c d : ByteArray) (w : World) :
    Calls Try.prog 8 #[.string c, .string d] w fun e w' => e = .returned (.pointer (some ⟨w.heap.size, 0, none⟩)) ∧ w' = w.alloc (.cells #[.string c, .string d] 29) := by
  go_enter Try.func8, Try.ntmps8
  go_wp2
  go_ret
  exact ⟨rfl, rfl⟩

theorem zz6 (c d : ByteArray) (w : World) :
    Calls Try.prog 6 #[.string c, .string d] w fun e w' => e = .returned (.pointer (some ⟨w.heap.size, 0, none⟩)) ∧ w' = w.alloc (.cells #[.string c, .string d] 29) := by
  go_enter Try.func6, Try.ntmps6
  go_wp2_with (go_at_call 8; refine (refuse8 _ _ _).mono ?_; rintro e w' ⟨rfl, rfl⟩)
  go_ret
  exact ⟨rfl, rfl⟩

set_option maxHeartbeats 400000 in
theorem error9 (b : Nat) (c d : ByteArray) (w : World) (hc : c.size ≤ 65536) (hd : d.size ≤ 65536) (h0 : w.cell? ⟨b, 0, none⟩ = some (.string c)) (h1 : w.cell? ⟨b, 1, none⟩ = some (.string d)) :
    Calls Try.prog 9 #[.pointer (some ⟨b, 0, none⟩)] w fun e w' => e = .returned (.string (c ++ ⟨#[58, 32]⟩ ++ d)) ∧ ∃ q, w' = w.drewN q := by
  go_enter Try.func9, Try.ntmps9
  go_wp2
  go_quiet (fail)
  go_wp2
  go_ret
  exact ⟨rfl, _, rfl⟩

theorem zz7 (b : Nat) (c d : ByteArray) (w : World) (hc : c.size ≤ 65536) (hd : d.size ≤ 65536) (h0 : w.cell? ⟨b, 0, none⟩ = some (.string c)) (h1 : w.cell? ⟨b, 1, none⟩ = some (.string d)) :
    Calls Try.prog 7 #[.pointer (some ⟨b, 0, none⟩)] w fun e w' => e = .returned (.string (c ++ ⟨#[58, 32]⟩ ++ d)) ∧ ∃ q, w' = w.drewN q := by
  have c9 := error9 b c d w hc hd h0 h1
  go_enter Try.func7, Try.ntmps7
  go_wp2_with (go_at_call 9; refine c9.mono ?_; rintro e w' ⟨rfl, q, rfl⟩)
  go_ret
  exact ⟨rfl, q, rfl⟩

theorem grown_drewN {a b : World} (h : Grown a b) (n : Nat) : Grown a (b.drewN n) := h

/-! ### The plain law -/
theorem cut_at_colon : ∀ (l1 l2 m1 m2 : List UInt8), 58 ∉ l1 → 58 ∉ l2 → l1 ++ ([58, 32] ++ m1) = l2 ++ ([58, 32] ++ m2) → l1 = l2 ∧ m1 = m2
  | [], [], m1, m2, _, _, h => ⟨rfl, by simpa using h⟩
  | [], x :: t, m1, m2, _, h2, h => by
    simp only [List.nil_append, List.cons_append, List.cons.injEq] at h
    exact absurd (by rw [h.1]; simp) h2
  | x :: t, [], m1, m2, h1, _, h => by
    simp only [List.nil_append, List.cons_append, List.cons.injEq] at h
    exact absurd (by rw [← h.1]; simp) h1
  | x :: t, y :: u, m1, m2, h1, h2, h => by
    simp only [List.cons_append, List.cons.injEq] at h
    obtain ⟨e1, e2⟩ := cut_at_colon t u m1 m2 (fun hh => h1 (List.mem_cons_of_mem _ hh)) (fun hh => h2 (List.mem_cons_of_mem _ hh)) (by simpa using h.2)
    exact ⟨by rw [h.1, e1], e2⟩

theorem bytes_ext {a b : ByteArray} (h : a.data.toList = b.data.toList) : a = b := by
  obtain ⟨⟨x⟩⟩ := a
  obtain ⟨⟨y⟩⟩ := b
  simp only at h
  rw [h]
theorem not_mem {s : ByteArray} (h : ∀ i (hi : i < s.size), s[i] ≠ 58) : 58 ∉ s.data.toList := by
  intro hm
  obtain ⟨i, hi, e⟩ := List.mem_iff_getElem.1 hm
  have hi' : i < s.size := by simpa using hi
  have e' : s.data[i] = 58 := by simpa using e
  exact h i hi' e'
theorem list_ne {a b : ByteArray} (h : ¬ a = b) : (a.toList == b.toList) = false := by
  rw [ByteArray.toList_eq, ByteArray.toList_eq]
  exact beq_eq_false_iff_ne.2 (fun e => h (bytes_ext e))
theorem txt_ne {a b c d : ByteArray} (ha : ∀ i (hi : i < a.size), a[i] ≠ 58) (hc : ∀ i (hi : i < c.size), c[i] ≠ 58) (h : ¬ (a = c ∧ b = d)) :
    ((a ++ ⟨#[58, 32]⟩ ++ b).toList == (c ++ ⟨#[58, 32]⟩ ++ d).toList) = false := by
  rw [ByteArray.toList_eq, ByteArray.toList_eq]
  refine beq_eq_false_iff_ne.2 (fun e => h ?_)
  simp only [ByteArray.data_append, Array.toList_append, List.append_assoc] at e
  obtain ⟨e1, e2⟩ := cut_at_colon _ _ _ _ (not_mem ha) (not_mem hc) e
  exact ⟨bytes_ext e1, bytes_ext e2⟩

theorem two_blocks (w : World) (a b c d : Value) : ((w.alloc (.cells #[a, b] 29)).alloc (.cells #[c, d] 29)).cell? ⟨w.heap.size, 0, none⟩ = some a ∧ ((w.alloc (.cells #[a, b] 29)).alloc (.cells #[c, d] 29)).cell? ⟨w.heap.size, 1, none⟩ = some b ∧
    ((w.alloc (.cells #[a, b] 29)).alloc (.cells #[c, d] 29)).cell? ⟨w.heap.size + 1, 0, none⟩ = some c ∧ ((w.alloc (.cells #[a, b] 29)).alloc (.cells #[c, d] 29)).cell? ⟨w.heap.size + 1, 1, none⟩ = some d := by
  have e : (w.alloc (.cells #[a, b] 29)).heap.size = w.heap.size + 1 := by simp
  have h1 : ((w.alloc (.cells #[a, b] 29)).alloc (.cells #[c, d] 29)).heap[w.heap.size]? = some (.cells #[a, b] 29 (0, 0)) := (Below.heap_alloc _ _ _ (by rw [e]; omega)).trans (heap_alloc_new w _)
  have h2 := heap_alloc_new (w.alloc (.cells #[a, b] 29)) (.cells #[c, d] 29)
  rw [e] at h2
  refine ⟨?_, ?_, ?_, ?_⟩
  · rw [cell_of_row _ _ _ _ _ _ h1]; rfl
  · rw [cell_of_row _ _ _ _ _ _ h1]; rfl
  · rw [cell_of_row _ _ _ _ _ _ h2]; rfl
  · rw [cell_of_row _ _ _ _ _ _ h2]; rfl

set_option maxRecDepth 100000 in
set_option maxHeartbeats 1000000 in
theorem fn3 (a b c d : ByteArray) (w : World) (ha : a.size ≤ 9223372036854775807) (hb : b.size ≤ 9223372036854775807) (hc : c.size ≤ 9223372036854775807) (hd : d.size ≤ 9223372036854775807) :
    Calls Try.prog 3 #[.string a, .string b, .string c, .string d] w fun e w' => e = .returned (.bool true) ∧ Grown w w' := by
  have c4 := bytes4 a b c d w ha hb hc hd
  go_enter Try.func3, Try.ntmps3
  go_wp2_with fail
  refine c4.mono ?_
  rintro e w' ⟨r, rfl, rfl⟩
  clear c4
  cases r
  · go_wp2_with fail
    go_ret
    exact ⟨rfl, Grown.refl _⟩
  by_cases q1 : 65536 < a.size
  · go_wp2_with fail
    go_ret
    exact ⟨rfl, Grown.refl _⟩
  by_cases q2 : 65536 < b.size
  · go_wp2_with fail
    go_ret
    exact ⟨rfl, Grown.refl _⟩
  by_cases q3 : 65536 < c.size
  · go_wp2_with fail
    go_ret
    exact ⟨rfl, Grown.refl _⟩
  by_cases q4 : 65536 < d.size
  · go_wp2_with fail
    go_ret
    exact ⟨rfl, Grown.refl _⟩
  go_wp2_with fail
  refine (has5 a w' (by omega)).mono ?_
  rintro e w ⟨r, rfl, rfl, hr1⟩
  cases r
  case true =>
    go_wp2_with fail
    go_ret
    exact ⟨rfl, Grown.refl _⟩
  have HA : Hid (∀ i (h : i < a.size), a[i] ≠ 58) := hr1 rfl
  clear hr1
  go_wp2_with fail
  refine (has5 c w (by omega)).mono ?_
  rintro e w' ⟨r, rfl, rfl, hr2⟩
  cases r
  case true =>
    go_wp2_with fail
    go_ret
    exact ⟨rfl, Grown.refl _⟩
  have HC : Hid (∀ i (h : i < c.size), c[i] ≠ 58) := hr2 rfl
  clear hr2
  go_wp2_with fail
  refine (zz6 a b w').mono ?_
  rintro e w1 ⟨rfl, rfl⟩
  go_wp2_with fail
  refine (zz6 c d _).mono ?_
  rintro e w2 ⟨rfl, rfl⟩
  obtain ⟨k1, k2, k3, k4⟩ := two_blocks w' (.string a) (.string b) (.string c) (.string d)
  go_wp2_with fail
  refine (zz7 w'.heap.size a b _ (by omega) (by omega) k1 k2).mono ?_
  rintro e w3 ⟨rfl, p1, rfl⟩
  go_wp2_with fail
  refine (zz7 (w'.heap.size + 1) c d _ (by omega) (by omega) (by exact k3) (by exact k4)).mono ?_
  rintro e w4 ⟨rfl, p2, rfl⟩
  clear k1 k2 k3 k4
  by_cases hac : a = c
  · subst hac
    by_cases hbd : b = d
    · subst hbd
      go_wp2
      go_ret
      exact ⟨rfl, by repeat (first | exact Grown.refl _ | apply Grown.drew | apply Grown.alloc)⟩
    · have e1 := txt_ne HA.out HC.out (fun h => hbd h.2)
      have e2 := list_ne hbd
      clear hbd
      go_wp2
      go_ret
      exact ⟨by simp, grown_drewN (by repeat (first | exact Grown.refl _ | apply Grown.drew | apply Grown.alloc)) _⟩
  · have e1 := txt_ne (b := b) (d := d) HA.out HC.out (fun h => hac h.1)
    have e2 := list_ne hac
    clear hac
    go_wp2
    go_ret
    exact ⟨by simp, grown_drewN (by repeat (first | exact Grown.refl _ | apply Grown.drew | apply Grown.alloc)) _⟩

end Go.Proofs.Qxb6615662a
