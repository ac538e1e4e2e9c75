/- zzFixedColumns, zzCompletedBy, (where).on -/
import Derived.Test.Qxb6615124aRows
import Derived.Test.Qxb6615124aPlain
import Derived.WalkKit
import Derived.WalkSpells
import Derived.WalkLawsBesides
import Derived.Deep.LoopGhost
import Derived.Deep.OwnRows
import Derived.LaidEqlPtr
namespace Go.Proofs.Qxb6615124a
open Go.RowKit

theorem Try.info4 : (Try.prog.info? 4).map (fun i => (i.zero, i.size, i.bytes)) = some (some (.bool false), 1, 1) := by kernel_rfl

set_option maxHeartbeats 400000 in
theorem fixed_any (n : Nat) (ta fa : Option Addr) (nT cT cF : Nat) (tb to fb fo : Nat) (T : Nat → Nat) (F : Nat → Bool) (w : World)
    (hn : n ≤ 65536) (hT : nT ≤ 1048576)
    (hta : 0 < nT → ta = some ⟨tb, to, none⟩) (hTc : ∀ i, i < nT → w.cell? ⟨tb, to + i, none⟩ = some (.int .i64 (T i)))
    (hfa : 0 < nT → fa = some ⟨fb, fo, none⟩) (hFc : ∀ i, i < nT → w.cell? ⟨fb, fo + i, none⟩ = some (.bool (F i)))
    (hTn : ∀ i, i < nT → T i < n) :
    Calls Try.prog 8 #[.int .i64 n, .slice ta nT cT, .slice fa nT cF] w
      fun e w' => e = .returned (.slice (some ⟨w.heap.size, 0, none⟩) n n) ∧ Below w.heap.size w w' ∧ w'.rowIs w.heap.size 4 n (fun c => .bool (Pl.fx nT T F c)) := by
  have hmk := run_make_row' (P := Try.prog) 22 4 (.bool false) 1 Try.underlying22 Try.info4 rfl .i64 .i64 n (by omega) (by omega)
  go_enter Try.func8, Try.ntmps8
  go_wp2
  clear hmk
  go_loopg [8] nT (fun g i wr => ∃ r : Nat, r ≤ nT ∧ g = nT - r ∧ i = .int .i64 r ∧ Below w.heap.size w wr ∧ wr.rowIs w.heap.size 4 n (fun c => .bool (Pl.fx r T F c)))
  case atStart => exact ⟨0, Nat.zero_le _, rfl, rfl, (Below.refl _ _).alloc (Nat.le_refl _) _, (World.rowIs_made w _ n 4).congr (fun j _ => by simp [Pl.fx])⟩
  case round =>
    obtain ⟨r, hr, rfl, rfl, hb, hrow⟩ := hrel
    by_cases hlt : r < nT
    · obtain rfl := hta (by omega)
      obtain rfl := hfa (by omega)
      have h1 : wr.cell? ⟨tb, to + r, none⟩ = some (.int .i64 (T r)) := (hb.cell (World.block_lt_of_cell? _ _ (hTc r hlt))).trans (hTc r hlt)
      have h2 : wr.cell? ⟨fb, fo + r, none⟩ = some (.bool (F r)) := (hb.cell (World.block_lt_of_cell? _ _ (hFc r hlt))).trans (hFc r hlt)
      have hTr := hTn r hlt
      have h3 := hrow.cell hTr
      have h4 := hrow.frozen (T r)
      have h5 : (T r : Int) < (n : Int) := by omega
      clear hTc hFc hTn hta hfa
      cases hF : F r
      · rw [hF] at h2
        have HF : Hid (F r = false) := hF
        clear hF
        go_wp2
        go_roundg (nT - (r + 1))
        case measure => omega
        case rel => exact ⟨r + 1, by omega, rfl, by go_num, hb, hrow.congr (fun c _ => by rw [Pl.fx_succ, HF.out]; simp)⟩
      · rw [hF] at h2
        have HF : Hid (F r = true) := hF
        clear hF
        go_wp2
        go_roundg (nT - (r + 1))
        case measure => omega
        case rel =>
          refine ⟨r + 1, by omega, rfl, by go_num, hb.setCell (Nat.le_refl _) _, (hrow.set (T r) _).congr (fun c _ => ?_)⟩
          rw [Pl.fx_succ, HF.out]
          by_cases e : c = T r
          · subst e; simp
          · rw [if_neg e]; simp [Ne.symm e]
    · obtain rfl : r = nT := by omega
      clear hTc hFc hTn hta hfa
      go_wp2
      go_ret
      exact ⟨rfl, hb, hrow⟩

theorem completed_no (o : Nat) (ra : Option Addr) (L C fb n k : Nat) (Z : Nat → Nat) (fd : Nat → Bool) (w : World) :
    Calls Try.prog 9 #[.bool false, .int .i64 o, .slice ra L C, .slice (some ⟨fb, 0, none⟩) n n, .int .i64 k] w
      fun e w' => e = .returned (.bool (Pl.completed false o Z fd k)) ∧ w' = w := by
  go_enter Try.func9, Try.ntmps9
  go_wp2
  go_ret
  exact ⟨rfl, rfl⟩

set_option maxHeartbeats 400000 in
theorem completed_yes (o : Nat) (ra : Option Addr) (L C rb ro fb n k : Nat) (Z : Nat → Nat) (fd : Nat → Bool) (w : World)
    (hoL : o ≤ L) (hL : L ≤ 1048576) (hra : 0 < L → ra = some ⟨rb, ro, none⟩) (hZ : ∀ j, j < L → w.cell? ⟨rb, ro + j, none⟩ = some (.int .i64 (Z j))) (hZn : ∀ j, j < L → Z j < n)
    (hfd : ∀ c, c < n → w.cell? ⟨fb, c, none⟩ = some (.bool (fd c))) :
    Calls Try.prog 9 #[.bool true, .int .i64 o, .slice ra L C, .slice (some ⟨fb, 0, none⟩) n n, .int .i64 k] w
      fun e w' => e = .returned (.bool (Pl.completed true o Z fd k)) ∧ w' = w := by
  go_enter Try.func9, Try.ntmps9
  go_wp2
  go_loopg [11, 12] o (fun g h i wr => wr = w ∧ ∃ r : Nat, r ≤ o ∧ g = o - r ∧ i = .int .i64 r ∧ h = .bool (Pl.hasUpTo r Z k) ∧ Pl.okUpTo r Z fd k = true)
  case atStart => exact ⟨rfl, 0, Nat.zero_le _, rfl, rfl, rfl, rfl⟩
  case round =>
    obtain ⟨rfl, r, hr, rfl, rfl, rfl, hok⟩ := hrel
    have HO : Hid (Pl.okUpTo r Z fd k = true) := hok
    clear hok
    by_cases hlt : r < o
    · obtain rfl := hra (by omega)
      have h1 := hZ r (by omega)
      have h2 := hZn r (by omega)
      have h3 := hfd (Z r) h2
      have h5 : (Z r : Int) < (n : Int) := by omega
      have h6 : (r : Int) < (L : Int) := by omega
      clear hZ hZn hfd hra
      by_cases e : Z r = k
      · have HE : Hid (Z r = k) := e
        have e1 : ((Z r : Int) == (k : Int)) = true := by simp [e]
        clear e
        go_wp2
        go_roundg (o - (r + 1))
        case measure => omega
        case rel => exact ⟨rfl, r + 1, by omega, rfl, by go_num, by rw [Pl.hasUpTo_succ, HE.out]; simp, by rw [Pl.okUpTo_succ, HO.out, HE.out]; simp⟩
      · have HE : Hid (¬ Z r = k) := e
        have e1 : ((Z r : Int) == (k : Int)) = false := by simpa using (fun h => e (by omega))
        clear e
        cases hF : fd (Z r)
        · rw [hF] at h3
          have HF : Hid (fd (Z r) = false) := hF
          clear hF
          go_wp2
          go_ret
          exact ⟨by rw [Pl.completed, Pl.okUpTo_false hlt HE.out HF.out]; rfl, rfl⟩
        · rw [hF] at h3
          have HF : Hid (fd (Z r) = true) := hF
          clear hF
          go_wp2
          go_roundg (o - (r + 1))
          case measure => omega
          case rel => exact ⟨rfl, r + 1, by omega, rfl, by go_num, by rw [Pl.hasUpTo_succ]; simp [HE.out], by rw [Pl.okUpTo_succ, HO.out, HF.out]; simp⟩
    · obtain rfl : r = o := by omega
      clear hZ hZn hfd hra
      go_wp2
      go_ret
      exact ⟨by rw [Pl.completed, HO.out]; simp, rfl⟩

/-- Block b is a row of cells, none frozen. -/
def Cellsy (w : World) (b : Nat) : Prop := ∃ cs t, w.heap[b]? = some (.cells cs t (0, 0))

theorem Try.size41 : (Try.prog.info? 41).map (·.size) = some 20 := by kernel_rfl

theorem eql_col (w : World) (a b : Nat) (ha : Cellsy w a) (hb : Cellsy w b) :
    (binOp .eql 32 (.pointer (some ⟨a, 0, none⟩)) (.pointer (some ⟨b, 0, none⟩))).run Try.prog w = .ok (.bool (decide (a = b))) w := by
  obtain ⟨j, hj, hjs⟩ := Option.map_eq_some_iff.1 Try.size41
  obtain ⟨ca, ta, ha⟩ := ha
  obtain ⟨cb, tb, hb⟩ := hb
  by_cases h : a = b
  · subst h
    simpa using run_eql_ptr_same (P := Try.prog) w ⟨a, 0, none⟩ Try.underlying32 hj
  · simpa [h] using run_eql_ptr_other (P := Try.prog) w (a := ⟨a, 0, none⟩) (b := ⟨b, 0, none⟩) Try.underlying32 hj (by rw [hjs]; decide) (by simp) ha hb

set_option maxHeartbeats 400000 in
theorem on_hit (wa : Option Addr) (n cW wb N c t nc : Nat) (X T : Nat → Nat) (w : World) (hn : n ≤ 1048577)
    (hwa : 0 < n → wa = some ⟨wb, 0, none⟩) (hX : ∀ i, i < n → w.cell? ⟨wb, i, none⟩ = some (.pointer (some ⟨X i, 0, none⟩)))
    (hT : ∀ i, i < n → w.cell? ⟨X i, 0, none⟩ = some (.pointer (some ⟨N + T i, 0, none⟩))) (hTn : ∀ i, i < n → T i < nc) (hcn : c < nc) (hN : ∀ i, i < nc → Cellsy w (N + i))
    (ht : t < n) (hc : T t = c) (hf : ∀ s, s < t → T s ≠ c) :
    Calls Try.prog 11 #[.slice wa n cW, .pointer (some ⟨N + c, 0, none⟩)] w
      fun e w' => e = .returned (.pointer (some ⟨X t, 0, none⟩)) ∧ w' = w := by
  go_enter Try.func11, Try.ntmps11
  go_wp2
  go_loopg [9] n (fun g i wr => wr = w ∧ ∃ r : Nat, r ≤ t ∧ g = n - r ∧ i = .int .i64 r)
  case atStart => exact ⟨rfl, 0, Nat.zero_le _, rfl, rfl⟩
  case round =>
    obtain ⟨rfl, r, hr, rfl, rfl⟩ := hrel
    obtain rfl := hwa (by omega)
    have h1 := hX r (by omega)
    have h2 := hT r (by omega)
    have h3 := eql_col wr (N + T r) (N + c) (hN _ (hTn r (by omega))) (hN c hcn)
    have h4 : (r : Int) < (n : Int) := by omega
    by_cases e : r = t
    · subst e
      rw [decide_eq_true (by omega)] at h3
      clear hf hc hX hT hwa hTn hN
      go_wp2
      go_ret
      exact ⟨rfl, rfl⟩
    · rw [decide_eq_false (by have := hf r (by omega); omega)] at h3
      clear hf hc hX hT hwa hTn hN
      go_wp2
      go_roundg (n - (r + 1))
      case measure => omega
      case rel => exact ⟨rfl, r + 1, by omega, rfl, by go_num⟩

set_option maxHeartbeats 400000 in
theorem on_miss (wa : Option Addr) (n cW wb N c nc : Nat) (X T : Nat → Nat) (w : World) (hn : n ≤ 1048577)
    (hwa : 0 < n → wa = some ⟨wb, 0, none⟩) (hX : ∀ i, i < n → w.cell? ⟨wb, i, none⟩ = some (.pointer (some ⟨X i, 0, none⟩)))
    (hT : ∀ i, i < n → w.cell? ⟨X i, 0, none⟩ = some (.pointer (some ⟨N + T i, 0, none⟩))) (hTn : ∀ i, i < n → T i < nc) (hcn : c < nc) (hN : ∀ i, i < nc → Cellsy w (N + i))
    (hf : ∀ s, s < n → T s ≠ c) :
    Calls Try.prog 11 #[.slice wa n cW, .pointer (some ⟨N + c, 0, none⟩)] w
      fun e w' => e = .returned (.pointer none) ∧ w' = w := by
  go_enter Try.func11, Try.ntmps11
  go_wp2
  go_loopg [9] n (fun g i wr => wr = w ∧ ∃ r : Nat, r ≤ n ∧ g = n - r ∧ i = .int .i64 r)
  case atStart => exact ⟨rfl, 0, Nat.zero_le _, rfl, rfl⟩
  case round =>
    obtain ⟨rfl, r, hr, rfl, rfl⟩ := hrel
    by_cases e : r < n
    · obtain rfl := hwa (by omega)
      have h1 := hX r (by omega)
      have h2 := hT r (by omega)
      have h3 := eql_col wr (N + T r) (N + c) (hN _ (hTn r (by omega))) (hN c hcn)
      have h4 : (r : Int) < (n : Int) := by omega
      rw [decide_eq_false (by have := hf r (by omega); omega)] at h3
      clear hf hX hT hwa hTn hN
      go_wp2
      go_roundg (n - (r + 1))
      case measure => omega
      case rel => exact ⟨rfl, r + 1, by omega, rfl, by go_num⟩
    · obtain rfl : r = n := by omega
      clear hf hX hT hwa hTn hN
      go_wp2
      go_ret
      exact ⟨rfl, rfl⟩

end Go.Proofs.Qxb6615124a
