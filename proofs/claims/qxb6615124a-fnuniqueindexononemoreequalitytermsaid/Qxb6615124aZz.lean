/- ZZUniqueIndexOn -/
import Derived.Test.Qxb6615124aRows
import Derived.Test.Qxb6615124aHeap
import Derived.WalkKit
import Derived.WalkSpells
import Derived.WalkLawsBesides
import Derived.Deep.LoopGhost
import Derived.Deep.OwnRows
import Derived.Deep.QuietTactic
import Derived.BigQuiet
import Derived.Deep.RegionHeld3
import Derived.Deep.AppendLies
import Derived.Deep.RegionLaw
import Derived.Deep.DrawnRows
namespace Go.Proofs.Qxb6615124a
open Go.RowKit
attribute [local go_sem ↓] Go.wp_at_zero Go.wp_at_succ

theorem Try.info32 : (Try.prog.info? 32).map (fun i => (i.zero, i.size, i.bytes)) = some (some (.pointer none), 1, 8) := by kernel_rfl
theorem Try.info48 : (Try.prog.info? 48).map (fun i => (i.zero, i.size, i.bytes)) = some (some (.pointer none), 1, 8) := by kernel_rfl
theorem Try.info56 : (Try.prog.info? 56).map (fun i => (i.zero, i.size, i.bytes)) = some (some (.pointer none), 1, 8) := by kernel_rfl

theorem Try.size53 : (Try.prog.info? 53).map (·.size) = some 8 := by kernel_rfl
theorem eql_ix (w : World) (a b : Nat) (ha : Cellsy w a) (hb : Cellsy w b) :
    (binOp .eql 48 (.pointer (some ⟨a, 0, none⟩)) (.pointer (some ⟨b, 0, none⟩))).run Try.prog w = .ok (.bool (decide (a = b))) w := by
  obtain ⟨j, hj, hjs⟩ := Option.map_eq_some_iff.1 Try.size53
  obtain ⟨ca, ta, ha⟩ := ha
  obtain ⟨cb, tb, hb⟩ := hb
  by_cases h : a = b
  · subst h
    simpa using run_eql_ptr_same (P := Try.prog) w ⟨a, 0, none⟩ Try.underlying48 hj
  · simpa [h] using run_eql_ptr_other (P := Try.prog) w (a := ⟨a, 0, none⟩) (b := ⟨b, 0, none⟩) Try.underlying48 hj (by rw [hjs]; decide) (by simp) ha hb

/-- a is the first number from 1 on of which p holds, below n; -1 where there is none. -/
def IsFirst (n : Nat) (p : Nat → Bool) (a : Int) : Prop :=
  (∃ i : Nat, 1 ≤ i ∧ i < n ∧ p i = true ∧ (∀ j, 1 ≤ j → j < i → p j = false) ∧ a = i) ∨ ((∀ j, 1 ≤ j → j < n → p j = false) ∧ a = -1)
def Ans (w : World) (n : Nat) (p : Nat → Bool) (e : Ending) (w' : World) : Prop := Below w.heap.size w w' ∧ ∃ a : Int, e = .returned (.int .i64 a) ∧ IsFirst n p a

set_option maxRecDepth 100000 in
set_option maxHeartbeats 2000000 in
theorem zz_any (n nU nT : Nat) (ua oa ca ta fa : Option Addr) (cU cO cC cT cF : Nat) (ub uo ob oo cb co tb to fb fo : Nat) (U : Nat → Bool) (O : Nat → Nat) (A : Nat → Option Addr) (L C RB RO : Nat → Nat) (Z : Nat → Nat → Nat) (T : Nat → Nat) (F : Nat → Bool) (w : World)
    (hn : n ≤ 65536) (hU : nU ≤ 1048576) (hU0 : 1 ≤ nU) (hT : nT ≤ 1048577) (hL : ∀ i, i < nU → L i ≤ 1048576)
    (hua : ua = some ⟨ub, uo, none⟩) (hUc : ∀ i, i < nU → w.cell? ⟨ub, uo + i, none⟩ = some (.bool (U i)))
    (hoa : oa = some ⟨ob, oo, none⟩) (hOc : ∀ i, i < nU → w.cell? ⟨ob, oo + i, none⟩ = some (.int .i64 (O i)))
    (hca : ca = some ⟨cb, co, none⟩) (hrow : ∀ r, r < nU → w.cell? ⟨cb, co + r, none⟩ = some (.slice (A r) (L r) (C r)))
    (hA : ∀ r, r < nU → 0 < L r → A r = some ⟨RB r, RO r, none⟩) (hZ : ∀ r, r < nU → ∀ j, j < L r → w.cell? ⟨RB r, RO r + j, none⟩ = some (.int .i64 (Z r j)))
    (hta : 0 < nT → ta = some ⟨tb, to, none⟩) (hTc : ∀ i, i < nT → w.cell? ⟨tb, to + i, none⟩ = some (.int .i64 (T i)))
    (hfa : 0 < nT → fa = some ⟨fb, fo, none⟩) (hFc : ∀ i, i < nT → w.cell? ⟨fb, fo + i, none⟩ = some (.bool (F i)))
    (hOL : ∀ i, i < nU → O i ≤ L i) (hZn : ∀ i, i < nU → ∀ j, j < L i → Z i j < n) (hTn : ∀ i, i < nT → T i < n) (hTd : ∀ i j, i < j → j < nT → T i ≠ T j) :
    Calls Try.prog 7 #[.int .i64 n, .slice ua nU cU, .slice oa nU cO, .slice ca nU cC, .slice ta nT cT, .slice fa nT cF] w (Ans w nU (good U O Z nT T F)) := by
  subst hua hoa hca
  have hmk := run_make_row' (P := Try.prog) 31 32 (.pointer none) 8 Try.underlying31 Try.info32 rfl .i64 .i64 n (by omega) (by omega)
  go_enter Try.func7, Try.ntmps7
  go_wp2
  clear hmk
  go_loopg [31] n (fun g i wr => ∃ r : Nat, r ≤ n ∧ g = n - r ∧ i = .int .i64 r ∧ Cols w n r wr)
  case atStart => exact ⟨0, Nat.zero_le _, rfl, rfl, cols_start w n⟩
  case round =>
    obtain ⟨r, hr, rfl, rfl, hC⟩ := hrel
    by_cases hlt : r < n
    · have hsz := hC.size
      have s1 : ∀ o, (wr.alloc o).cell? ⟨w.heap.size, r, none⟩ = some (.pointer none) := fun o => by simpa using (hC.row.alloc o).cell hlt
      have s2 : ∀ o, (wr.alloc o).frozen? ⟨w.heap.size, r, none⟩ = false := fun o => (hC.row.alloc o).frozen r
      have s3 : (r : Int) < (n : Int) := by omega
      have HC : Hid (Cols w n r wr) := hC
      clear hC hUc hOc hrow hA hZ hta hTc hfa hFc hOL hZn hTn hTd hL
      go_wp2
      go_roundg (n - (r + 1))
      case measure => omega
      case rel => exact ⟨r + 1, by omega, rfl, by go_num, cols_step HC.out hlt _ _⟩
    · obtain rfl : n = r := by omega
      have hsz := hC.size
      have HI0 : Hid (Idx w n U O L Z (fun _ => 0) 0 (wr.alloc (.cells #[.string ⟨#[]⟩, .slice (some ⟨w.heap.size, 0, none⟩) n n, .map none, .slice none 0 0, .slice none 0 0, .pointer none, .pointer none] 47))) := idx_start hC _ _ _ _ _ _
      have HWF : Hid ((∀ i, i < nU → w.cell? ⟨ub, uo + i, none⟩ = some (.bool (U i))) ∧ (∀ i, i < nU → w.cell? ⟨ob, oo + i, none⟩ = some (.int .i64 (O i))) ∧ (∀ r, r < nU → w.cell? ⟨cb, co + r, none⟩ = some (.slice (A r) (L r) (C r))) ∧
        (∀ r, r < nU → 0 < L r → A r = some ⟨RB r, RO r, none⟩) ∧ (∀ r, r < nU → ∀ j, j < L r → w.cell? ⟨RB r, RO r + j, none⟩ = some (.int .i64 (Z r j)))) := ⟨hUc, hOc, hrow, hA, hZ⟩
      have HTF : Hid ((0 < nT → ta = some ⟨tb, to, none⟩) ∧ (∀ i, i < nT → w.cell? ⟨tb, to + i, none⟩ = some (.int .i64 (T i))) ∧ (0 < nT → fa = some ⟨fb, fo, none⟩) ∧ (∀ i, i < nT → w.cell? ⟨fb, fo + i, none⟩ = some (.bool (F i)))) := ⟨hta, hTc, hfa, hFc⟩
      have HB : Hid ((∀ i, i < nU → O i ≤ L i) ∧ (∀ i, i < nU → ∀ j, j < L i → Z i j < n) ∧ (∀ i, i < nT → T i < n) ∧ (∀ i j, i < j → j < nT → T i ≠ T j) ∧ (∀ i, i < nU → L i ≤ 1048576)) := ⟨hOL, hZn, hTn, hTd, hL⟩
      clear hC hUc hOc hrow hA hZ hta hTc hfa hFc hOL hZn hTn hTd hL
      go_wp2
      clear hsz
      go_loopg [46] nU (fun g i wi => ∃ (k : Nat) (X : Nat → Nat), k ≤ nU ∧ g = nU - k ∧ i = .int .i64 k ∧ Idx w n U O L Z X k wi)
      case atStart => exact ⟨0, _, Nat.zero_le _, rfl, rfl, HI0.out⟩
      case round =>
        obtain ⟨k, X, hk, rfl, rfl, hI⟩ := hrel
        clear HI0
        by_cases hkU : k < nU
        · have hb := hI.below
          have u1 : wr.cell? ⟨ub, uo + k, none⟩ = some (.bool (U k)) := cell_later hb (HWF.out.1 k hkU)
          have u2 : wr.cell? ⟨ob, oo + k, none⟩ = some (.int .i64 (O k)) := cell_later hb (HWF.out.2.1 k hkU)
          have u3 : wr.cell? ⟨cb, co + k, none⟩ = some (.slice (A k) (L k) (C k)) := cell_later hb (HWF.out.2.2.1 k hkU)
          have l1 := World.block_lt_of_cell? _ _ u3
          have hAk := HWF.out.2.2.2.1 k hkU
          obtain ⟨Ak, hAk0⟩ : ∃ Ak, A k = Ak := ⟨_, rfl⟩
          rw [hAk0] at u3 hAk
          clear hAk0
          have k1 : (0 : Int) ≤ (k : Int) := Int.natCast_nonneg _
          have k2 : (k : Int) < (nU : Int) := by omega
          have HI : Hid (Idx w n U O L Z X k wr) := hI
          clear hI hb
          go_wp2_with fail
          go_region_held3 (fun w' => w'.cell? ⟨ub, uo + k, none⟩ = some (.bool (U k)) ∧ w'.cell? ⟨ob, oo + k, none⟩ = some (.int .i64 (O k))) (go_keep) (fail)
          go_wp2
          obtain ⟨wo, hwo⟩ : ∃ wo : World, wo = wr := ⟨_, rfl⟩
          subst hwo
          clear u1 u2 u3 l1
          obtain ⟨i0, hi0, hz0, hz1, hz2⟩ := info_parts Try.info32
          have hLk := HB.out.2.2.2.2 k hkU
          go_loopg [64] (L k) (fun g i wi => ∃ j : Nat, j ≤ L k ∧ g = L k - j ∧ i = .int .i64 j ∧ Below wo.heap.size wo wi ∧ wo.heap.size < wi.heap.size ∧ IxOk wi wo.heap.size (U k) (O k) j (fun j => .pointer (some ⟨w.heap.size + 1 + Z k j, 0, none⟩)))
          case atStart => exact ⟨0, Nat.zero_le _, rfl, rfl, ((Below.refl _ _).alloc (Nat.le_refl _) _).drew, by simp, ix_start wo (U k) (O k) _ _ _ _ _ _⟩
          case round =>
            obtain ⟨j, hj, rfl, rfl, hbi, hszi, hIx⟩ := hrel
            by_cases hjL : j < L k
            · obtain rfl := hAk (by omega)
              obtain ⟨c, va, vc, h0, h1, h2, h3, h4, h5⟩ := hIx
              have hNlt : w.heap.size < wo.heap.size := by have := HI.out.lt; omega
              have a1 : wr.cell? ⟨wo.heap.size, 2, none⟩ = some (.slice va j vc) := cell_of_cells h0 h3
              have a2 : wr.frozen? ⟨wo.heap.size, 2, none⟩ = false := free_of_cells h0
              have a5 : ∀ o, (wr.alloc o).frozen? ⟨wo.heap.size, 2, none⟩ = false := fun o => (World.frozen?_of_block (w := wr) (Below.heap_alloc wr o _ hszi)).trans a2
              have a6 : ∀ o, (wr.alloc o).cell? ⟨wo.heap.size, 2, none⟩ = some (.slice va j vc) := fun o => (World.cell?_of_block (w := wr) (Below.heap_alloc wr o _ hszi)).trans a1
              have hz := HB.out.2.1 k hkU j hjL
              have a3 : wr.cell? ⟨w.heap.size, Z k j, none⟩ = some (.pointer (some ⟨w.heap.size + 1 + Z k j, 0, none⟩)) := (hbi.cell (p := ⟨w.heap.size, Z k j, none⟩) hNlt).trans (HI.out.row.cell hz)
              have a4 : wr.cell? ⟨RB k, RO k + j, none⟩ = some (.int .i64 (Z k j)) := cell_later hbi (cell_later HI.out.below (HWF.out.2.2.2.2 k hkU j hjL))
              have ag : (Value.slice va j vc).ownBlock ≠ some wo.heap.size := fun e => by have := (h5.lt _ e).1; omega
              have an : (Value.slice va j vc).ownBlock ≠ some w.heap.size := fun e => by have := (h5.lt _ e).1; omega
              have z0 : (0 : Int) ≤ (Z k j : Int) := Int.natCast_nonneg _
              have z1 : (Z k j : Int) < (n : Int) := by omega
              have j1 : (j : Int) < (L k : Int) := by omega
              have HH : Hid (wr.heap[wo.heap.size]? = some (.cells c 53 (0, 0)) ∧ c.size = 8 ∧ c[1]? = some (.bool (U k)) ∧ c[3]? = some (.int .i64 (O k)) ∧ wr.ownsRow (wo.heap.size + 1) 32 1 (.slice va j vc) j ((List.range j).map (fun j => .pointer (some ⟨w.heap.size + 1 + Z k j, 0, none⟩)))) := ⟨h0, h1, h2, h4, h5⟩
              clear h0 h1 h2 h3 h4 hAk
              go_wp2_with fail
              go_region_law ((refine step_append_lies _ (by rfl) _ _ _ (by rfl) (wo.heap.size + 1) 32 i0 _ 1 8 Try.underlying31 hi0 hz0 hz1 hz2 rfl (by omega) (.slice va j vc) j ((List.range j).map (fun j => .pointer (some ⟨w.heap.size + 1 + Z k j, 0, none⟩))) (by rfl) ((h5.alloc _).drew) ⟨wr.heap.size, 0, none⟩ 1 1 [.pointer (some ⟨w.heap.size + 1 + Z k j, 0, none⟩)] (by rfl) (by rfl) (World.news_of_block (cs := #[.pointer (some ⟨w.heap.size + 1 + Z k j, 0, none⟩)]) (t := 32) (fr := (0, 0)) (heap_alloc_new wr _)) (by simp [Value.oneCell']) (by omega) (by unfold maxLen; omega) (by omega) (by simp; omega) (wr.heap.size + 1) (by simp) ?_; intro gg cap w1 hown1 hgrow hat hlt; have b1 : w1.cell? ⟨wo.heap.size, 2, none⟩ = some (.slice va j vc) := (hgrow.cell_far _ (by simp; omega) (Ne.symm ag)).trans (a6 _); have b2 : w1.frozen? ⟨wo.heap.size, 2, none⟩ = false := (hgrow.frozen_far _ (by simp; omega) (Ne.symm ag)).trans (a5 _)))
              all_goals
                clear a1 a2 a3 a4 a5 a6 b1 b2
                go_wp2
                go_roundg (L k - (j + 1))
                case measure => omega
                case rel =>
                  have hbw : ∀ b, b < wr.heap.size → ∀ o, ((wr.alloc o).drew).heap[b]? = wr.heap[b]? := fun b hb o => Below.heap_alloc wr o b hb
                  refine ⟨j + 1, by omega, rfl, by go_num, ?_, ?_, ix_step HH.out.1 HH.out.2.1 HH.out.2.2.1 HH.out.2.2.2.1 HH.out.2.2.2.2 (fun b hb => hbw b hb _) (by simp) hgrow hown1⟩
                  · exact (((hbi.alloc (Nat.le_of_lt hszi) _).drew).grown hgrow (by simp; omega) (fun b e => by have := (h5.lt b e).1; omega)).setCell (Nat.le_refl _) _
                  · have hs1 := hgrow.size
                    have e2 : ∀ p v, (w1.setCell p v).heap.size = w1.heap.size := fun p v => by simp [World.setCell]
                    rw [e2]
                    simp at hs1
                    omega
            · obtain rfl : j = L k := by omega
              obtain ⟨i1, hi1, hy0, hy1, hy2⟩ := info_parts Try.info48
              have hI' := HI.out.later hbi
              obtain ⟨c, va, vc, t0, t1, t2, t3⟩ := hI'.tab
              have hlt0 := hI'.lt
              have a1 : wr.cell? ⟨w.heap.size + 1 + n, 3, none⟩ = some (.slice va k vc) := cell_of_cells t0 t2
              have a2 : wr.frozen? ⟨w.heap.size + 1 + n, 3, none⟩ = false := free_of_cells t0
              have ag : (Value.slice va k vc).ownBlock ≠ some (w.heap.size + 1 + n) := fun e => by have := (t3.lt _ e).1; omega
              have a5 : ∀ o, (wr.alloc o).frozen? ⟨w.heap.size + 1 + n, 3, none⟩ = false := fun o => (World.frozen?_of_block (w := wr) (Below.heap_alloc wr o _ hlt0)).trans a2
              have a6 : ∀ o, (wr.alloc o).cell? ⟨w.heap.size + 1 + n, 3, none⟩ = some (.slice va k vc) := fun o => (World.cell?_of_block (w := wr) (Below.heap_alloc wr o _ hlt0)).trans a1
              have HH : Hid (Idx w n U O L Z X k wr ∧ IxOk wr wo.heap.size (U k) (O k) (L k) (fun j => .pointer (some ⟨w.heap.size + 1 + Z k j, 0, none⟩)) ∧ wr.heap[w.heap.size + 1 + n]? = some (.cells c 47 (0, 0)) ∧ c.size = 7) := ⟨hI', hIx, t0, t1⟩
              have hxo := HI.out.lt
              have HX : Hid (∀ i, i < k → X i < wo.heap.size) := fun i hi => (HI.out.ix i hi).2.1
              clear hI' hIx t0 t1 t2 hAk
              go_wp2_with (at_builtin; (refine wpList_append_lies _ rfl _ _ _ rfl (w.heap.size + 1 + n + 1) 48 i1 _ 1 8 Try.underlying44 hi1 hy0 hy1 hy2 rfl (by omega) (.slice va k vc) k _ rfl (t3.alloc _) ⟨wr.heap.size, 0, none⟩ 1 1 [.pointer (some ⟨wo.heap.size, 0, none⟩)] rfl rfl (World.news_of_block (cs := #[.pointer (some ⟨wo.heap.size, 0, none⟩)]) (t := 48) (fr := (0, 0)) (heap_alloc_new wr _)) (by simp [Value.oneCell']) (by omega) (by unfold maxLen; omega) (by omega) (by simp; omega) (wr.heap.size + 1) (by simp) ?_; intro gg cap w1 hown1 hgrow hat hlt; have b1 : w1.cell? ⟨w.heap.size + 1 + n, 3, none⟩ = some (.slice va k vc) := (hgrow.cell_far _ (by simp; omega) (Ne.symm ag)).trans (a6 _); have b2 : w1.frozen? ⟨w.heap.size + 1 + n, 3, none⟩ = false := (hgrow.frozen_far _ (by simp; omega) (Ne.symm ag)).trans (a5 _)))
              go_roundg (nU - (k + 1))
              case measure => omega
              case rel =>
                exact ⟨k + 1, _, by omega, rfl, by go_num, idx_next HH.out.1 HH.out.2.1 HX.out hxo hszi HH.out.2.2.1 HH.out.2.2.2 t3 ((Below.refl _ _).alloc (Nat.le_refl _) _) hgrow hown1⟩
        · obtain rfl : nU = k := by omega
          obtain ⟨w0, hw0⟩ : ∃ w0 : World, w0 = wr := ⟨_, rfl⟩
          subst hw0
          have HI : Hid (Idx w n U O L Z X nU w0) := hI
          clear hI
          obtain ⟨i2, hi2, hx0, hx1, hx2⟩ := info_parts Try.info56
          go_wp2
          go_loopg [20, 95] nT (fun g v i wi => ∃ (t : Nat) (Y : Nat → Nat), t ≤ nT ∧ g = nT - t ∧ i = .int .i64 t ∧ Trm w0 (w.heap.size + 1) T F Y t v wi)
          case atStart => exact ⟨0, fun _ => 0, Nat.zero_le _, rfl, rfl, Below.refl _ _, World.ownsRow_nil _ _ _ _, fun t ht => absurd ht (Nat.not_lt_zero _)⟩
          case round =>
            obtain ⟨t, Y, ht, rfl, rfl, hTr⟩ := hrel
            by_cases htT : t < nT
            · obtain ⟨x1, x2, x3, x4⟩ := HTF.out
              obtain rfl := x1 (by omega)
              obtain rfl := x3 (by omega)
              have hb0 := hTr.below
              have hNlt : w.heap.size < w0.heap.size := by have := HI.out.lt; omega
              have hTt := HB.out.2.2.1 t htT
              have a1 : wr.cell? ⟨tb, to + t, none⟩ = some (.int .i64 (T t)) := cell_later hb0 (cell_later HI.out.below (x2 t htT))
              have a2 : wr.cell? ⟨fb, fo + t, none⟩ = some (.bool (F t)) := cell_later hb0 (cell_later HI.out.below (x4 t htT))
              have l2 := World.block_lt_of_cell? _ _ a2
              have a3 : wr.cell? ⟨w.heap.size, T t, none⟩ = some (.pointer (some ⟨w.heap.size + 1 + T t, 0, none⟩)) := (hb0.cell (p := ⟨w.heap.size, T t, none⟩) hNlt).trans (HI.out.row.cell hTt)
              have a4 : (T t : Int) < (n : Int) := by omega
              have a5 : (t : Int) < (nT : Int) := by omega
              have HTr : Hid (Trm w0 (w.heap.size + 1) T F Y t u20 wr) := hTr
              have hown := hTr.own
              clear x1 x2 x3 x4 hb0 hTr
              cases hF : F t
              · rw [hF] at a2
                have HF : Hid (F t = false) := hF
                clear hF
                go_wp2_with (at_builtin; (refine wpList_append_lies _ rfl _ _ _ rfl w0.heap.size 56 i2 _ 1 8 Try.underlying55 hi2 hx0 hx1 hx2 rfl (by omega) u20 t _ rfl ((hown.alloc _).alloc _) ⟨wr.heap.size + 1, 0, none⟩ 1 1 [.pointer (some ⟨wr.heap.size, 0, none⟩)] rfl rfl (news2 wr _ #[.pointer (some ⟨wr.heap.size, 0, none⟩)] 56) (by simp [Value.oneCell']) (by omega) (by unfold maxLen; omega) (by omega) (by have := HTr.out.below.size; simp; omega) (wr.heap.size + 1 + 1) (by simp) ?_; intro gg cap w1 hown1 hgrow hat hlt))
                go_roundg (nT - (t + 1))
                case measure => omega
                case rel =>
                  exact ⟨t + 1, _, by omega, rfl, by go_num, trm_next HTr.out (((Below.refl _ _).alloc (Nat.le_refl _) _).alloc (by simp) _) ⟨_, none, 0, 0, blk2 wr _ _, rfl, rfl, by rw [HF.out]; rfl⟩ hgrow hown1⟩
              · rw [hF] at a2
                have HF : Hid (F t = true) := hF
                clear hF
                go_wp2_with (at_builtin; (refine wpList_append_lies _ rfl _ _ _ rfl w0.heap.size 56 i2 _ 1 8 Try.underlying55 hi2 hx0 hx1 hx2 rfl (by omega) u20 t _ rfl (((hown.alloc _).alloc _).alloc _) ⟨wr.heap.size + 1 + 1, 0, none⟩ 1 1 [.pointer (some ⟨wr.heap.size, 0, none⟩)] rfl rfl (news3 wr _ _ #[.pointer (some ⟨wr.heap.size, 0, none⟩)] 56) (by simp [Value.oneCell']) (by omega) (by unfold maxLen; omega) (by omega) (by have := HTr.out.below.size; simp; omega) (wr.heap.size + 1 + 1 + 1) (by simp) ?_; intro gg cap w1 hown1 hgrow hat hlt))
                go_roundg (nT - (t + 1))
                case measure => omega
                case rel =>
                  exact ⟨t + 1, _, by omega, rfl, by go_num, trm_next HTr.out ((((Below.refl _ _).alloc (Nat.le_refl _) _).alloc (by simp) _).alloc (by simp; omega) _) ⟨_, some _, 1, 1, blk3 wr _ _ _, rfl, rfl, by rw [HF.out]; rfl⟩ hgrow hown1⟩
            · obtain rfl : nT = t := by omega
              have hI := HI.out.later hTr.below
              obtain ⟨wa, wb, cW, VA, VL, VC, hv, v1, v2, v3, v4, v5⟩ := hTr.view
              obtain ⟨tg, tcap, hc1, hc2, hc3, hc4⟩ := hI.view hU0
              obtain ⟨ca, g, cc, d1, d2, d3, d4, d5, d6⟩ := hI.views HB.out.2.2.2.2 HB.out.1
              have huio := uio_any (w.heap.size + 1 + n) tg nU tcap (w.heap.size + 1) n wb nT cW X U O ca g L cc Z wa Y T F VA VL VC wr hU0 hU hc1 hc2 hT hc3 hc4 d1 d2 d3 d4 d5 d6 HB.out.2.1 v1 v2 v3 v4 v5 HB.out.2.2.1 HB.out.2.2.2.1 hI.cells
              have HTr : Hid (Below w.heap.size w wr) := HI.out.below.trans (hTr.below.mono HI.out.below.size)
              have HIx : Hid (∀ i, i < nU → Cellsy wr (X i)) := fun i hi => by
                obtain ⟨c, va, vc, t0, _⟩ := (hI.ix i hi).2.2
                exact ⟨c, 53, t0⟩
              have HInc : Hid (∀ i j, i < j → j < nU → X i < X j) := hI.inc
              subst hv
              clear hTr hI v1 v2 v3 v4 v5 d1 d2 d3 d4 d5 d6 hi2 hx0 hx1 hx2
              go_wp2_with fail
              refine huio.mono ?_
              rintro e w' ⟨⟨q, rfl⟩, (⟨i, hi1, hi2, hp, hmin, rfl⟩ | ⟨hno, rfl⟩)⟩
              · have HP : Hid (good U O Z nT T F i = true ∧ ∀ j, 1 ≤ j → j < i → good U O Z nT T F j = false) := ⟨hp, hmin⟩
                clear hp hmin huio
                go_wp2
                go_loopg [128] nU (fun g s wi => ∃ r : Nat, r ≤ i ∧ g = nU - r ∧ s = .int .i64 r ∧ wi = wr.drewN q)
                case atStart => exact ⟨0, Nat.zero_le _, rfl, rfl, rfl⟩
                case round =>
                  obtain ⟨r, hr, rfl, rfl, rfl⟩ := hrel
                  have p1 := hc4 r (by omega)
                  have p2 := eql_ix (wr.drewN q) (X r) (X i) (HIx.out r (by omega)) (HIx.out i hi2)
                  have p3 : (r : Int) < (nU : Int) := by omega
                  clear hc4
                  by_cases e : r = i
                  · subst e
                    rw [decide_eq_true rfl] at p2
                    go_wp2
                    go_ret
                    exact ⟨below_drewN HTr.out _, _, rfl, Or.inl ⟨r, hi1, hi2, HP.out.1, HP.out.2, rfl⟩⟩
                  · rw [decide_eq_false (by have := HInc.out r i (by omega) hi2; omega)] at p2
                    go_wp2
                    go_roundg (nU - (r + 1))
                    case measure => omega
                    case rel => exact ⟨r + 1, by omega, rfl, by go_num, rfl⟩
              · have HP : Hid (∀ j, 1 ≤ j → j < nU → good U O Z nT T F j = false) := hno
                clear hno huio
                go_wp2
                go_loopg [128] nU (fun g s wi => ∃ r : Nat, r ≤ nU ∧ g = nU - r ∧ s = .int .i64 r ∧ wi = wr.drewN q)
                case atStart => exact ⟨0, Nat.zero_le _, rfl, rfl, rfl⟩
                case round =>
                  obtain ⟨r, hr, rfl, rfl, rfl⟩ := hrel
                  by_cases e : r < nU
                  · have p1 := hc4 r (by omega)
                    have p3 : (r : Int) < (nU : Int) := by omega
                    clear hc4
                    go_wp2
                    go_roundg (nU - (r + 1))
                    case measure => omega
                    case rel => exact ⟨r + 1, by omega, rfl, by go_num, rfl⟩
                  · clear hc4
                    go_wp2
                    go_ret
                    exact ⟨below_drewN HTr.out _, _, rfl, Or.inr ⟨HP.out, rfl⟩⟩

end Go.Proofs.Qxb6615124a
