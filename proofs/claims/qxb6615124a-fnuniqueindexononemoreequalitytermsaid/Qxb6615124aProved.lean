/- The row of FnUniqueIndexOnOneMoreEqualityTerm: the arguments opened, the walk main_walk, the arguments read again. -/
import Derived.Test.Qxb6615124aRows
import Derived.Test.Qxb6615124aMain
import Derived.WalkKit
import Derived.ProofKit
import Derived.OpenShut
import Derived.ShutString
import Derived.ChangeOld
import Derived.Below
import Derived.Deep.Matrix
import Derived.Deep.Grids
namespace Go.Proofs.Qxb6615124a.fnUniqueIndexOnOneMoreEqualityTerm
open Go.ChangeShapes Go.WideShapes Go.ChangeAt Go.RowKit Go.Deep
open Go.ChangeMaps (open_string shut_string)
set_option linter.unusedVariables false

theorem own : ownKnob Try.prog.godebug = none := by kernel_rfl
theorem laidOut : laidOutB Try.prog = true := by kernel_rfl
theorem cells3 : Try.prog.cellsOf 3 = 1 := by kernel_rfl
theorem cells4 : Try.prog.cellsOf 4 = 1 := by kernel_rfl
theorem cells23 : Try.prog.cellsOf 23 = 1 := by kernel_rfl

/-- A slice of one-cell elements, as the walk wants it. -/
def View (w : World) (a : Option Addr) (len cap : Nat) (b off : Nat) (V : Nat → Value) : Prop :=
  len ≤ 9223372036854775807 ∧ (a = none → len = 0 ∧ cap = 0) ∧ (0 < len → a = some ⟨b, off, none⟩) ∧ ∀ i, i < len → w.cell? ⟨b, off + i, none⟩ = some (V i)

theorem view_nil (w : World) (V : Nat → Value) : View w none 0 0 0 0 V := ⟨by omega, fun _ => ⟨rfl, rfl⟩, fun h => by omega, fun i hi => by omega⟩
theorem view_some {w : World} {x : Addr} {len cap : Nat} {V : Nat → Value} (hl : len ≤ cap) (hm : cap ≤ maxLen) (hc : ∀ i, i < cap → w.cell? (x.add i) = some (V i)) : View w (some x) len cap x.block x.off V := by
  refine ⟨by unfold maxLen at hm; omega, (fun e => by cases e), fun hp => ?_, fun i hi => ?_⟩
  · have h0 := hc 0 (by omega)
    obtain ⟨b, off, spot⟩ := x
    have hs : spot = none := by simpa [Addr.add] using World.cell?_spot h0
    subst hs
    rfl
  · have hz0 := hc 0 (by omega)
    have h0 := hc i (by omega)
    obtain ⟨b, off, spot⟩ := x
    have hs : spot = none := by simpa [Addr.add] using World.cell?_spot hz0
    subst hs
    rw [Addr.add_lit] at h0
    exact h0

section
variable {H : Type} {enc : TypeId × Value → H} {W : World}

theorem view_ints {a : Option Addr} {len cap : Nat} {d : DataW H} {p : List MemPlace} (h : DataW.Trod enc Try.prog W 0 (fun _ => true) true 23 (.slice a len cap) d p) : ∃ (b off : Nat) (Z : Nat → Int), View W a len cap b off (fun i => .int .i64 (Z i)) := by
  obtain ⟨fuel, hf⟩ := h
  rcases open_ints Try.underlying23 Try.underlying3 cells3 hf with ⟨hcs, _⟩ | ⟨x, l, c, zs, hcs, _, hl, hm, hz, _, hcell, _⟩
  · simp [Value.cells] at hcs
    obtain ⟨rfl, rfl, rfl⟩ := hcs
    exact ⟨0, 0, fun _ => 0, view_nil _ _⟩
  · simp [Value.cells] at hcs
    obtain ⟨rfl, rfl, rfl⟩ := hcs
    simp only [if_true] at hz
    exact ⟨_, _, fun i => zs.getD i 0, view_some hl hm (fun i hi => hcell i (by omega))⟩

theorem view_bools {a : Option Addr} {len cap : Nat} {d : DataW H} {p : List MemPlace} (h : DataW.Trod enc Try.prog W 0 (fun _ => true) true 22 (.slice a len cap) d p) : ∃ (b off : Nat) (B : Nat → Bool), View W a len cap b off (fun i => .bool (B i)) := by
  obtain ⟨fuel, hf⟩ := h
  rcases open_bools Try.underlying22 Try.underlying4 cells4 hf with ⟨hcs, _⟩ | ⟨x, l, c, B, hcs, _, hl, hm, _, hcell⟩
  · simp [Value.cells] at hcs
    obtain ⟨rfl, rfl, rfl⟩ := hcs
    exact ⟨0, 0, fun _ => false, view_nil _ _⟩
  · simp [Value.cells] at hcs
    obtain ⟨rfl, rfl, rfl⟩ := hcs
    exact ⟨_, _, B, view_some hl hm hcell⟩

theorem view_rows {a : Option Addr} {len cap : Nat} {d : DataW H} {p : List MemPlace} (h : DataW.Trod enc Try.prog W 0 (fun _ => true) true 24 (.slice a len cap) d p) :
    ∃ (b off : Nat) (A : Nat → Option Addr) (L C RB RO : Nat → Nat) (Z : Nat → Nat → Int), View W a len cap b off (fun i => .slice (A i) (L i) (C i)) ∧ (∀ r, r < len → L r ≤ 9223372036854775807) ∧ (∀ r, r < len → 0 < L r → A r = some ⟨RB r, RO r, none⟩) ∧ (∀ r, r < len → ∀ j, j < L r → W.cell? ⟨RB r, RO r + j, none⟩ = some (.int .i64 (Z r j))) := by
  obtain ⟨fuel, hf⟩ := h
  rcases open_int_rows Try.underlying24 Try.underlying23 Try.underlying3 cells23 cells3 hf with ⟨hcs, _⟩ | ⟨x, l, c, A, L, C, Z, hcs, _, hl, hm, _, hr⟩
  · simp [Value.cells] at hcs
    obtain ⟨rfl, rfl, rfl⟩ := hcs
    exact ⟨0, 0, fun _ => none, fun _ => 0, fun _ => 0, fun _ => 0, fun _ => 0, fun _ _ => 0, view_nil _ _, fun r hr => by omega, fun r hr => by omega, fun r hr => by omega⟩
  · simp [Value.cells] at hcs
    obtain ⟨rfl, rfl, rfl⟩ := hcs
    have each : ∀ r, r < cap → View W (A r) (L r) (C r) ((A r).elim 0 (·.block)) ((A r).elim 0 (·.off)) (fun i => .int .i64 ((Z r).getD i 0)) := by
      intro r hr0
      obtain ⟨_, e1, e2, e3, _, e5, e6⟩ := hr r hr0
      cases hA : A r with
      | none =>
        have hC := e5 hA
        have hL : L r = 0 := by omega
        rw [hL, hC]
        exact view_nil _ _
      | some y => exact view_some e1 e2 (fun i hi => (e6 y hA).2 i hi)
    refine ⟨_, _, A, L, C, fun r => (A r).elim 0 (·.block), fun r => (A r).elim 0 (·.off), fun r j => (Z r).getD j 0, view_some hl hm (fun i hi => (hr i hi).1), fun r hr0 => (each r (by omega)).1, fun r hr0 => (each r (by omega)).2.2.1, fun r hr0 j hj => (each r (by omega)).2.2.2 j hj⟩
end

set_option maxHeartbeats 1000000 in
set_option maxRecDepth 100000 in
theorem lifted (os : Os) (started : os.Started) (H : Type) (enc : TypeId × Value → H) :
    ReturnsInHanded {} Try.checked os 3 .any (Rows.fnUniqueIndexOnOneMoreEqualityTermSpec.pre6 enc Try.prog Try.f3 Rows.fnUniqueIndexOnOneMoreEqualityTermRow.domain false) (Rows.fnUniqueIndexOnOneMoreEqualityTermSpec.post enc Try.prog Try.f3 false true false false) := by
  refine returnsInHanded_of_change (C := Try.checked) own started (by kernel_rfl) Try.func3
    (ChangeSpec.witness6 (enc := enc) (C := Try.checked) false ⟨#[], #[.int .i64 0, .slice none 0 0, .slice none 0 0, .slice none 0 0, .slice none 0 0, .slice none 0 0, .int .i64 0, .int .i64 0], []⟩ 8 (by kernel_rfl) (by kernel_rfl) (by kernel_rfl) (by kernel_rfl)) ?_
  intro W base args ds gs before hval0 hW hcnd _
  have hval : ∀ (j : Nat) t v, Try.f3.params[j]? = some t → args[j]? = some v → Value.okWide Try.prog W .any base t v := hval0
  have hW' := hW
  obtain ⟨p, q, hA0, hV, rfl, hfz, hnd⟩ := hW
  have hA : DataW.TrodAll enc Try.prog W 0 (fun _ => true) true Try.f3.params.toList args.toList ds p := hA0
  rw [Try.params3] at hA hval
  obtain ⟨v0, vs0, d0, ds0, p0, q0, hargs, rfl, rfl, h0, r0⟩ := trodAll_cons hA
  obtain ⟨v1, vs1, d1, ds1, p1, q1, rfl, rfl, rfl, h1, r1⟩ := trodAll_cons r0
  obtain ⟨v2, vs2, d2, ds2, p2, q2, rfl, rfl, rfl, h2, r2⟩ := trodAll_cons r1
  obtain ⟨v3, vs3, d3, ds3, p3, q3, rfl, rfl, rfl, h3, r3⟩ := trodAll_cons r2
  obtain ⟨v4, vs4, d4, ds4, p4, q4, rfl, rfl, rfl, h4, r4⟩ := trodAll_cons r3
  obtain ⟨v5, vs5, d5, ds5, p5, q5, rfl, rfl, rfl, h5, r5⟩ := trodAll_cons r4
  obtain ⟨v6, vs6, d6, ds6, p6, q6, rfl, rfl, rfl, h6, r6⟩ := trodAll_cons r5
  obtain ⟨v7, vs7, d7, ds7, p7, q7, rfl, rfl, rfl, h7, r7⟩ := trodAll_cons r6
  obtain ⟨rfl, rfl, rfl⟩ := trodAll_nil r7
  obtain rfl : args = #[v0, v1, v2, v3, v4, v5, v6, v7] := by cases args; simp_all
  obtain ⟨rfl, rfl⟩ := trodVars_none hV
  obtain ⟨x0, rfl, rfl, rfl, w0⟩ := open_int Try.underlying3 (hval 0 3 v0 rfl rfl) h0
  obtain ⟨x6, rfl, rfl, rfl, w6⟩ := open_int Try.underlying3 (hval 6 3 v6 rfl rfl) h6
  obtain ⟨x7, rfl, rfl, rfl, w7⟩ := open_int Try.underlying3 (hval 7 3 v7 rfl rfl) h7
  obtain ⟨a1, len1, cap1, rfl⟩ := okWide_slice Try.underlying22 (hval 1 22 v1 rfl rfl)
  obtain ⟨a2, len2, cap2, rfl⟩ := okWide_slice Try.underlying23 (hval 2 23 v2 rfl rfl)
  obtain ⟨a3, len3, cap3, rfl⟩ := okWide_slice Try.underlying24 (hval 3 24 v3 rfl rfl)
  obtain ⟨a4, len4, cap4, rfl⟩ := okWide_slice Try.underlying23 (hval 4 23 v4 rfl rfl)
  obtain ⟨a5, len5, cap5, rfl⟩ := okWide_slice Try.underlying22 (hval 5 22 v5 rfl rfl)
  have lt1 : ∀ x ∈ p1, x.block < W.heap.size := by obtain ⟨m, hm⟩ := h1; exact DataW.trod_lt m _ _ _ hm
  have lt2 : ∀ x ∈ p2, x.block < W.heap.size := by obtain ⟨m, hm⟩ := h2; exact DataW.trod_lt m _ _ _ hm
  have lt3 : ∀ x ∈ p3, x.block < W.heap.size := by obtain ⟨m, hm⟩ := h3; exact DataW.trod_lt m _ _ _ hm
  have lt4 : ∀ x ∈ p4, x.block < W.heap.size := by obtain ⟨m, hm⟩ := h4; exact DataW.trod_lt m _ _ _ hm
  have lt5 : ∀ x ∈ p5, x.block < W.heap.size := by obtain ⟨m, hm⟩ := h5; exact DataW.trod_lt m _ _ _ hm
  obtain ⟨b1, o1, U, m1, _, e1, g1⟩ := view_bools h1
  obtain ⟨b2, o2, O, m2, _, e2, g2⟩ := view_ints h2
  obtain ⟨b3, o3, A, L, C, RB, RO, Z, ⟨m3, _, e3, g3⟩, mL, hAr, hZ⟩ := view_rows h3
  obtain ⟨b4, o4, T, m4, n4, e4, g4⟩ := view_ints h4
  obtain ⟨b5, o5, F, m5, n5, e5, g5⟩ := view_bools h5
  clear hA0 hval0
  refine (main_walk x0 x6 x7 a1 a2 a3 a4 a5 len1 cap1 len2 cap2 len3 cap3 len4 cap4 len5 cap5 b1 o1 b2 o2 b3 o3 b4 o4 b5 o5 U O A L C RB RO Z T F W m1 m2 m3 m4 m5 mL e1 g1 e2 g2 e3 g3 hAr hZ e4 g4 e5 g5 n4 n5).mono fun e W' ⟨he, bel⟩ => ?_
  subst he
  exact ⟨_, rfl, _, _, _, [], _, [], hW', trodAll_mk1 (shut_bool Try.underlying4 _), (trodAll_cons_mk (shut_int Try.underlying3 w0) (trodAll_cons_mk (Below.trod laidOut (by kernel_rfl) (of_decide_eq_true (by kernel_rfl)) h1 bel lt1) (trodAll_cons_mk (Below.trod laidOut (by kernel_rfl) (of_decide_eq_true (by kernel_rfl)) h2 bel lt2) (trodAll_cons_mk (Below.trod laidOut (by kernel_rfl) (of_decide_eq_true (by kernel_rfl)) h3 bel lt3) (trodAll_cons_mk (Below.trod laidOut (by kernel_rfl) (of_decide_eq_true (by kernel_rfl)) h4 bel lt4) (trodAll_cons_mk (Below.trod laidOut (by kernel_rfl) (of_decide_eq_true (by kernel_rfl)) h5 bel lt5) (trodAll_cons_mk (shut_int Try.underlying3 w6) (trodAll_cons_mk (shut_int Try.underlying3 w7) trodAll_mk0)))))))), rfl, bel.frame _, fun h => by cases h⟩

theorem over : Rows.fnUniqueIndexOnOneMoreEqualityTermRow.holds Try.pinned (OpenSpec.ofChange Rows.fnUniqueIndexOnOneMoreEqualityTermSpec) :=
  OpenClaim.holds_of_wide 3 Try.f3 rfl rfl rfl rfl rfl rfl rfl ⟨rfl, rfl, rfl, rfl, rfl⟩ rfl rfl rfl rfl rfl (by kernel_rfl) Try.func3 (by kernel_rfl)
    (of_decide_eq_true (by kernel_rfl)) (by unfold Func.isWrapper; first | (rw [if_pos (by decide +kernel)]; kernel_rfl) | (rw [if_neg (by decide +kernel)]; exact ⟨rfl, rfl⟩))
    (fun os started H enc _ => lifted os started H enc)

/-- THE STATEMENT -/
theorem proved : Rows.FnUniqueIndexOnOneMoreEqualityTermSaid := over
end Go.Proofs.Qxb6615124a.fnUniqueIndexOnOneMoreEqualityTerm
