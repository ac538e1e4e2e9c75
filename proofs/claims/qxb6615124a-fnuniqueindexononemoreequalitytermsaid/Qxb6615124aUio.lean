/- uniqueIndexOn, over the heap as ZZUniqueIndexOn builds it -/
import Derived.Test.Qxb6615124aRows
import Derived.Test.Qxb6615124aPlain
import Derived.Test.Qxb6615124aLeafB
import Derived.WalkKit
import Derived.WalkSpells
import Derived.WalkLawsBesides
import Derived.Deep.LoopGhost
import Derived.Deep.OwnRows
import Derived.Deep.QuietTactic
import Derived.BigQuiet
namespace Go.Proofs.Qxb6615124a
open Go.RowKit

/-- The answer of uniqueIndexOn: the first index from 1 on that is good, as its pointer; nil where there is none. It only reads. -/
def Found (w : World) (n : Nat) (X : Nat → Nat) (p : Nat → Bool) (e : Ending) (w' : World) : Prop :=
  (∃ q, w' = w.drewN q) ∧
  ((∃ i, 1 ≤ i ∧ i < n ∧ p i = true ∧ (∀ j, 1 ≤ j → j < i → p j = false) ∧ e = .returned (.pointer (some ⟨X i, 0, none⟩))) ∨
   ((∀ j, 1 ≤ j → j < n → p j = false) ∧ e = .returned (.pointer none)))

def good (U : Nat → Bool) (O : Nat → Nat) (Z : Nat → Nat → Nat) (nT : Nat) (T : Nat → Nat) (F : Nat → Bool) (i : Nat) : Bool := U i && (List.range (O i)).all (fun j => Pl.fx nT T F (Z i j))
def goodTo (U : Nat → Bool) (Z : Nat → Nat → Nat) (nT : Nat) (T : Nat → Nat) (F : Nat → Bool) (i k : Nat) : Bool := U i && (List.range k).all (fun j => Pl.fx nT T F (Z i j))
theorem goodTo_succ (U : Nat → Bool) (Z : Nat → Nat → Nat) (nT : Nat) (T : Nat → Nat) (F : Nat → Bool) (i k : Nat) : goodTo U Z nT T F i (k + 1) = (goodTo U Z nT T F i k && Pl.fx nT T F (Z i k)) := by
  simp [goodTo, List.range_succ, List.all_append, Bool.and_assoc]
theorem goodTo_zero (U : Nat → Bool) (Z : Nat → Nat → Nat) (nT : Nat) (T : Nat → Nat) (F : Nat → Bool) (i : Nat) : goodTo U Z nT T F i 0 = U i := by simp [goodTo]

theorem fx_hit {nT : Nat} {T : Nat → Nat} {F : Nat → Bool} (hd : ∀ i j, i < j → j < nT → T i ≠ T j) {t : Nat} (ht : t < nT) : Pl.fx nT T F (T t) = F t := by
  rw [Bool.eq_iff_iff]
  simp only [Pl.fx, List.any_eq_true, List.mem_range, Bool.and_eq_true, beq_iff_eq]
  constructor
  · rintro ⟨s, hs, he, hF⟩
    obtain rfl : s = t := by
      rcases Nat.lt_trichotomy s t with h | h | h
      · exact absurd he (hd s t h ht)
      · exact h
      · exact absurd he.symm (hd t s h hs)
    exact hF
  · intro h; exact ⟨t, ht, rfl, h⟩
theorem fx_miss {nT : Nat} {T : Nat → Nat} {F : Nat → Bool} {c : Nat} (h : ∀ s, s < nT → T s ≠ c) : Pl.fx nT T F c = false := by
  simp only [Pl.fx, List.any_eq_false, List.mem_range, Bool.and_eq_true, beq_iff_eq]
  rintro s hs ⟨he, _⟩
  exact h s hs he

set_option maxHeartbeats 1000000 in
theorem uio_any (TB tg nU tcap N nc wb nT cW : Nat) (X : Nat → Nat) (U : Nat → Bool) (O : Nat → Nat) (ca : Nat → Option Addr) (g L cc : Nat → Nat) (Z : Nat → Nat → Nat) (wa : Option Addr) (Y T : Nat → Nat) (F : Nat → Bool) (VA : Nat → Option Addr) (VL VC : Nat → Nat) (w : World)
    (hU1 : 1 ≤ nU) (hU : nU ≤ 1048576) (hcap : nU ≤ tcap) (htm : tcap ≤ 9223372036854775807) (hT : nT ≤ 1048577)
    (hTB : w.cell? ⟨TB, 3, none⟩ = some (.slice (some ⟨tg, 0, none⟩) nU tcap))
    (hX : ∀ i, i < nU → w.cell? ⟨tg, i, none⟩ = some (.pointer (some ⟨X i, 0, none⟩)))
    (h1 : ∀ i, i < nU → w.cell? ⟨X i, 1, none⟩ = some (.bool (U i))) (h2 : ∀ i, i < nU → w.cell? ⟨X i, 2, none⟩ = some (.slice (ca i) (L i) (cc i))) (h3 : ∀ i, i < nU → w.cell? ⟨X i, 3, none⟩ = some (.int .i64 (O i)))
    (hO : ∀ i, i < nU → O i ≤ L i ∧ L i ≤ cc i ∧ cc i ≤ 9223372036854775807 ∧ L i ≤ 1048576) (hca : ∀ i, i < nU → (ca i = none ∧ L i = 0 ∧ cc i = 0) ∨ ca i = some ⟨g i, 0, none⟩)
    (hZ : ∀ i, i < nU → ∀ j, j < L i → w.cell? ⟨g i, j, none⟩ = some (.pointer (some ⟨N + Z i j, 0, none⟩))) (hZn : ∀ i, i < nU → ∀ j, j < L i → Z i j < nc)
    (hwa : 0 < nT → wa = some ⟨wb, 0, none⟩) (hY : ∀ t, t < nT → w.cell? ⟨wb, t, none⟩ = some (.pointer (some ⟨Y t, 0, none⟩)))
    (hY0 : ∀ t, t < nT → w.cell? ⟨Y t, 0, none⟩ = some (.pointer (some ⟨N + T t, 0, none⟩))) (hY1 : ∀ t, t < nT → w.cell? ⟨Y t, 1, none⟩ = some (.slice (VA t) (VL t) (VC t)))
    (hVA : ∀ t, t < nT → (VA t).isNone = !F t) (hTn : ∀ t, t < nT → T t < nc) (hTd : ∀ i j, i < j → j < nT → T i ≠ T j) (hN : ∀ i, i < nc → Cellsy w (N + i)) :
    Calls Try.prog 10 #[.pointer (some ⟨TB, 0, none⟩), .slice wa nT cW] w (Found w nU X (good U O Z nT T F)) := by
  by_cases hc1 : tcap = 1
  · obtain rfl : nU = 1 := by omega
    subst hc1
    clear hX h1 h2 h3 hO hca hZ hZn hwa hY hY0 hY1 hVA hTn hTd hN
    go_enter Try.func10, Try.ntmps10
    go_wp2
    refine wp_loop_rounds 1 ?_; rw [rounds_succ]
    go_wp2
    go_ret
    exact ⟨⟨0, rfl⟩, Or.inr ⟨fun j h1 h2 => by omega, rfl⟩⟩
  go_enter Try.func10, Try.ntmps10
  go_wp2
  go_loopg [17] nU (fun gg i wr => ∃ r q : Nat, r + 1 ≤ nU ∧ gg = nU - r ∧ i = .int .i64 r ∧ wr = w.drewN q ∧ ∀ j, 1 ≤ j → j < r + 1 → good U O Z nT T F j = false)
  case atStart => exact ⟨0, 0, by omega, rfl, rfl, rfl, fun j h1 h2 => by omega⟩
  case round =>
    obtain ⟨r, q, hr, rfl, rfl, rfl, hbad⟩ := hrel
    have HB : Hid (∀ j, 1 ≤ j → j < r + 1 → good U O Z nT T F j = false) := hbad
    clear hbad
    by_cases hlt : r + 1 < nU
    · have x1 : w.cell? ⟨tg, 1 + r, none⟩ = some (.pointer (some ⟨X (r + 1), 0, none⟩)) := by rw [Nat.add_comm]; exact hX (r + 1) hlt
      have x2 := h1 (r + 1) hlt
      have x3 := h2 (r + 1) hlt
      have x4 := h3 (r + 1) hlt
      obtain ⟨hO1, hO2, hO3, hO4⟩ := hO (r + 1) hlt
      have hci := hca (r + 1) hlt
      have hz := hZ (r + 1) hlt
      have hzn := hZn (r + 1) hlt
      have x5 : (r : Int) < ((nU - 1 : Nat) : Int) := by omega
      have x6 : (O (r + 1) : Int) ≤ (cc (r + 1) : Int) := by omega
      clear hX h1 h2 h3 hO hca hZ hZn
      rcases hci with ⟨hn1, hn2, hn3⟩ | hci
      · rw [hn1, hn2, hn3] at x3
        rw [hn3] at x6
        have hO0 : O (r + 1) = 0 := by omega
        rw [hO0] at x4 x6
        clear hn1 hn2 hn3
        have HO0 : Hid (O (r + 1) = 0) := hO0
        clear hO0 hz hzn hO1 hO2 hO3 hO4
        cases hu : U (r + 1)
        · rw [hu] at x2
          have HU : Hid (U (r + 1) = false) := hu
          clear hu
          go_wp2
          go_quiet (fail)
          go_wp2
          refine wp_loop_rounds 1 ?_; rw [rounds_succ]
          go_wp2
          go_roundg (nU - (r + 1))
          case measure => omega
          case rel =>
            refine ⟨r + 1, _, by omega, rfl, by go_num, rfl, fun j hj1 hj2 => ?_⟩
            by_cases e : j = r + 1
            · subst e; simp [good, HU.out]
            · exact HB.out j hj1 (by omega)
        · rw [hu] at x2
          have HU : Hid (U (r + 1) = true) := hu
          clear hu
          go_wp2
          go_quiet (fail)
          go_wp2
          refine wp_loop_rounds 1 ?_; rw [rounds_succ]
          go_wp2
          go_ret
          exact ⟨⟨_, rfl⟩, Or.inl ⟨r + 1, by omega, hlt, by simp [good, HU.out, HO0.out], HB.out, rfl⟩⟩
      · rw [hci] at x3
        clear hci
        go_wp2
        go_quiet (fail)
        go_wp2
        clear x1 x2 x3 x4
        go_loopg [7, 35] (O (r + 1)) (fun gg a i wr => ∃ k q : Nat, k ≤ O (r + 1) ∧ gg = O (r + 1) - k ∧ i = .int .i64 k ∧ a = .bool (goodTo U Z nT T F (r + 1) k) ∧ wr = w.drewN q)
        case atStart => exact ⟨0, q + nq, by omega, rfl, rfl, by rw [goodTo_zero], by simp⟩
        case round =>
          obtain ⟨k, q2, hk, rfl, rfl, rfl, rfl⟩ := hrel
          by_cases hko : k < O (r + 1)
          · have z1 := hz k (by omega)
            have z2 := hzn k (by omega)
            have z3 : (k : Int) < (O (r + 1) : Int) := by omega
            have HS := goodTo_succ U Z nT T F (r + 1) k
            have HS' : Hid (goodTo U Z nT T F (r + 1) (k + 1) = (goodTo U Z nT T F (r + 1) k && Pl.fx nT T F (Z (r + 1) k))) := HS
            clear HS hz hzn
            by_cases hh : ∃ t, t < nT ∧ T t = Z (r + 1) k
            · obtain ⟨t, ht, htc⟩ := hh
              have hon := on_hit wa nT cW wb N (Z (r + 1) k) t nc Y T (w.drewN q2) hT hwa hY hY0 hTn z2 hN ht htc (fun s hs => by rw [← htc]; exact hTd s t hs ht)
              have hFt : Pl.fx nT T F (Z (r + 1) k) = F t := by rw [← htc]; exact fx_hit hTd ht
              rw [hFt] at HS'
              have y1 := hY1 t ht
              have y2 := hVA t ht
              have y3 := fun (wz : World) (a : Option Addr) (n c : Nat) => Lib.run_eql_slice_nil (P := Try.prog) wz 57 39 a n c 0 0 Try.underlying57
              clear hFt hY hY0 hY1 hVA hTn hTd hN htc hwa
              cases hF : F t
              · rw [hF] at y2 HS'
                have y2' : VA t = none := by simpa using y2
                rw [y2'] at y1
                clear y2 y2' hF
                go_wp2_with (go_at_call 11; refine hon.mono ?_; rintro e w' ⟨rfl, rfl⟩)
                go_roundg (O (r + 1) - (k + 1))
                case measure => omega
                case rel => exact ⟨k + 1, q2, by omega, rfl, by go_num, by rw [HS'.out]; simp, rfl⟩
              · rw [hF] at y2 HS'
                obtain ⟨va, y2'⟩ : ∃ va, VA t = some va := by
                  cases hv : VA t with
                  | none => rw [hv] at y2; simp at y2
                  | some va => exact ⟨va, rfl⟩
                rw [y2'] at y1
                clear y2 y2' hF
                go_wp2_with (go_at_call 11; refine hon.mono ?_; rintro e w' ⟨rfl, rfl⟩)
                go_roundg (O (r + 1) - (k + 1))
                case measure => omega
                case rel => exact ⟨k + 1, q2, by omega, rfl, by go_num, by rw [HS'.out]; simp, rfl⟩
            · have hf : ∀ s, s < nT → T s ≠ Z (r + 1) k := fun s hs e => hh ⟨s, hs, e⟩
              have hon := on_miss wa nT cW wb N (Z (r + 1) k) nc Y T (w.drewN q2) hT hwa hY hY0 hTn z2 hN hf
              have hFt : Pl.fx nT T F (Z (r + 1) k) = false := fx_miss hf
              rw [hFt] at HS'
              clear hFt hY hY0 hY1 hVA hTn hTd hN hwa hh hf
              have HON := hon
              clear hon
              go_wp2_with (go_at_call 11; refine HON.mono ?_; rintro e w' ⟨rfl, rfl⟩)
              go_roundg (O (r + 1) - (k + 1))
              case measure => omega
              case rel => exact ⟨k + 1, q2, by omega, rfl, by go_num, by rw [HS'.out]; simp, rfl⟩
          · obtain rfl : k = O (r + 1) := by omega
            clear hz hzn hY hY0 hY1 hVA hTn hTd hN hwa
            cases hg : goodTo U Z nT T F (r + 1) (O (r + 1))
            · have HGd : Hid (goodTo U Z nT T F (r + 1) (O (r + 1)) = false) := hg
              clear hg
              go_wp2
              go_roundg (nU - (r + 1))
              case measure => omega
              case rel =>
                refine ⟨r + 1, _, by omega, rfl, by go_num, rfl, fun j hj1 hj2 => ?_⟩
                by_cases e : j = r + 1
                · subst e; exact HGd.out
                · exact HB.out j hj1 (by omega)
            · have HGd : Hid (goodTo U Z nT T F (r + 1) (O (r + 1)) = true) := hg
              clear hg
              go_wp2
              go_ret
              exact ⟨⟨_, rfl⟩, Or.inl ⟨r + 1, by omega, hlt, HGd.out, HB.out, rfl⟩⟩
    · clear hX h1 h2 h3 hO hca hZ hZn hY hY0 hY1 hVA hTn hTd hN hwa
      go_wp2
      go_ret
      exact ⟨⟨_, rfl⟩, Or.inr ⟨fun j hj1 hj2 => HB.out j hj1 (by omega), rfl⟩⟩

end Go.Proofs.Qxb6615124a
