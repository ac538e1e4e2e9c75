/- The heap that ZZUniqueIndexOn builds, step by step: no walk here. -/
import Derived.Test.Qxb6615124aRows
import Derived.Test.Qxb6615124aLeafB
import Derived.Test.Qxb6615124aUio
import Derived.WalkKit
import Derived.WalkSpells
import Derived.WalkLawsBesides
import Derived.Deep.OwnRows
import Derived.Deep.AppendLies
import Derived.Deep.Slices
namespace Go.Proofs.Qxb6615124a
open Go.RowKit Go.Deep

theorem grown_of_below {S : Nat} {w w' : World} (h : Below S w w') (hS : w.heap.size ≤ S) (row : Option Nat) : w.grownBy w' row :=
  ⟨h.os, h.tape, h.output, h.size, fun k hk _ => h.block k (by omega)⟩

theorem Cellsy.of_block {w w' : World} {b : Nat} (h : Cellsy w b) (e : w'.heap[b]? = w.heap[b]?) : Cellsy w' b := by
  obtain ⟨c, t, h⟩ := h
  exact ⟨c, t, e.trans h⟩
theorem Cellsy.lt {w : World} {b : Nat} (h : Cellsy w b) : b < w.heap.size := by
  obtain ⟨c, t, h⟩ := h
  exact (Array.getElem?_eq_some_iff.1 h).1

theorem cell_of_cells {w : World} {b o : Nat} {c : Array Value} {t : TypeId} {v : Value} (h : w.heap[b]? = some (.cells c t (0, 0))) (hv : c[o]? = some v) : w.cell? ⟨b, o, none⟩ = some v := by
  simp [World.cell?, h, hv]
theorem free_of_cells {w : World} {b o : Nat} {c : Array Value} {t : TypeId} (h : w.heap[b]? = some (.cells c t (0, 0))) : w.frozen? ⟨b, o, none⟩ = false := by
  simp [World.frozen?, h]
theorem lt_of_cells {w : World} {b : Nat} {o : Obj} (h : w.heap[b]? = some o) : b < w.heap.size := (Array.getElem?_eq_some_iff.1 h).1
theorem cells_set {w : World} {b o : Nat} {c : Array Value} {t : TypeId} (h : w.heap[b]? = some (.cells c t (0, 0))) (v : Value) : (w.setCell ⟨b, o, none⟩ v).heap[b]? = some (.cells (c.setIfInBounds o v) t (0, 0)) := by
  simp [World.setCell, Array.getElem?_modify, h]
theorem block_setCell {w : World} {b k : Nat} (o : Nat) (v : Value) (h : k ≠ b) : (w.setCell ⟨b, o, none⟩ v).heap[k]? = w.heap[k]? := Below.heap_setCell _ _ _ _ h

/-! ### The columns -/
structure Cols (w : World) (n r : Nat) (wr : World) : Prop where
  below : Below w.heap.size w wr
  size : wr.heap.size = w.heap.size + 1 + r
  row : wr.rowIs w.heap.size 32 n (fun j => if j < r then .pointer (some ⟨w.heap.size + 1 + j, 0, none⟩) else .pointer none)
  cells : ∀ j, j < r → Cellsy wr (w.heap.size + 1 + j)

theorem cols_start (w : World) (n : Nat) : Cols w n 0 (w.alloc (.cells (madeCells #[.pointer none] n) 32)) :=
  ⟨(Below.refl _ _).alloc (Nat.le_refl _) _, by simp, (World.rowIs_made w _ n 32).congr (fun j _ => by simp), fun j hj => absurd hj (Nat.not_lt_zero _)⟩

theorem cols_step {w wr : World} {n r : Nat} (h : Cols w n r wr) (hr : r < n) (c : Array Value) (t : TypeId) :
    Cols w n (r + 1) ((wr.alloc (.cells c t)).setCell ⟨w.heap.size, r, none⟩ (.pointer (some ⟨w.heap.size + 1 + r, 0, none⟩))) := by
  refine ⟨(h.below.alloc h.below.size _).setCell (Nat.le_refl _) _, by simp [h.size]; omega, ((h.row.alloc _).set r _).congr (fun j _ => ?_), fun j hj => ?_⟩
  · by_cases e : j = r
    · subst e; simp
    · rw [if_neg e]
      by_cases hlt : j < r
      · rw [if_pos hlt, if_pos (by omega)]
      · rw [if_neg hlt, if_neg (by omega)]
  · by_cases e : j = r
    · subst e
      refine ⟨c, t, ?_⟩
      rw [block_setCell _ _ (by omega), ← h.size]
      exact heap_alloc_new wr _
    · refine (h.cells j (by omega)).of_block ?_
      rw [block_setCell _ _ (by omega)]
      exact Below.heap_alloc wr _ _ (by rw [h.size]; omega)

/-! ### One index -/
def IxOk (w : World) (x : Nat) (u : Bool) (o : Nat) (l : Nat) (f : Nat → Value) : Prop :=
  ∃ c va vc, w.heap[x]? = some (.cells c 53 (0, 0)) ∧ c.size = 8 ∧ c[1]? = some (.bool u) ∧ c[2]? = some (.slice va l vc) ∧ c[3]? = some (.int .i64 o) ∧ w.ownsRow (x + 1) 32 1 (.slice va l vc) l ((List.range l).map f)

theorem IxOk.kept {w w' : World} {x : Nat} {u : Bool} {o l : Nat} {f : Nat → Value} (h : IxOk w x u o l f) (row : Option Nat) (hg : w.grownBy w' row) (hr : ∀ b c t, row = some b → w.heap[b]? = some (.cells c t (0, 0)) → t ≠ 53 ∧ t ≠ 32) : IxOk w' x u o l f := by
  obtain ⟨c, va, vc, h0, h1, h2, h3, h4, h5⟩ := h
  refine ⟨c, va, vc, ?_, h1, h2, h3, h4, h5.kept hg ?_⟩
  · rw [hg.block x (lt_of_cells h0) (fun e => (hr x c 53 e.symm h0).1 rfl)]; exact h0
  · by_cases e : (Value.slice va l vc).ownBlock = none
    · exact Or.inl e
    · right
      intro e2
      rcases h5.2 with ⟨hv, _⟩ | ⟨g, cap, cur, hv, _, hg2, _⟩
      · rw [hv] at e; exact e rfl
      · rw [hv] at e2
        exact (hr g cur 32 e2.symm hg2).2 rfl

theorem IxOk.set {w : World} {x b : Nat} {u : Bool} {o l : Nat} {f : Nat → Value} (h : IxOk w x u o l f) (hb : ∀ c t, w.heap[b]? = some (.cells c t (0, 0)) → t ≠ 53 ∧ t ≠ 32) (k : Nat) (v : Value) : IxOk (w.setCell ⟨b, k, none⟩ v) x u o l f := by
  refine h.kept (some b) ⟨rfl, rfl, rfl, by simp [World.setCell], fun i _ hi => block_setCell _ _ (fun e => hi (by rw [e]))⟩ (fun b' c t e hh => ?_)
  obtain rfl := Option.some.inj e
  exact hb c t hh

/-- The box of a new index. -/
theorem ix_start (w : World) (u : Bool) (o : Nat) (f : Nat → Value) (s a1 a2 p s3 : Value) :
    IxOk (w.alloc (.cells #[s, .bool u, .slice none 0 0, .int .i64 o, a1, a2, p, s3] 53)) w.heap.size u o 0 f :=
  ⟨_, none, 0, heap_alloc_new w _, rfl, rfl, rfl, rfl, World.ownsRow_nil _ _ _ _⟩

/-- 'ix.cols = append(ix.cols, cs[c])'. -/
theorem ix_step {w w1 w2 : World} {x g cap : Nat} {u : Bool} {o l : Nat} {f : Nat → Value} {va : Option Addr} {vc : Nat} {c : Array Value}
    (h0 : w.heap[x]? = some (.cells c 53 (0, 0))) (h1 : c.size = 8) (h2 : c[1]? = some (.bool u)) (h4 : c[3]? = some (.int .i64 o)) (h5 : w.ownsRow (x + 1) 32 1 (.slice va l vc) l ((List.range l).map f))
    (hw1 : ∀ k, k < w.heap.size → w1.heap[k]? = w.heap[k]?) (hs1 : w.heap.size ≤ w1.heap.size)
    (hg : w1.grownBy w2 (Value.slice va l vc).ownBlock) (hown : w2.ownsRow (x + 1) 32 1 (.slice (some ⟨g, 0, none⟩) (l + 1) cap) (l + 1) ((List.range l).map f ++ [f l])) :
    IxOk (w2.setCell ⟨x, 2, none⟩ (.slice (some ⟨g, 0, none⟩) (l + 1) cap)) x u o (l + 1) f := by
  have hx := lt_of_cells h0
  have e0 : w2.heap[x]? = some (.cells c 53 (0, 0)) := by
    rw [hg.block x (by omega) (fun e => by
      have := (h5.lt x e.symm).1
      omega), hw1 x hx]
    exact h0
  refine ⟨_, some ⟨g, 0, none⟩, cap, cells_set e0 _, by simpa using h1, ?_, ?_, ?_, ?_⟩
  · rw [Array.getElem?_setIfInBounds_ne (by omega)]; exact h2
  · rw [Array.getElem?_setIfInBounds_self_of_lt (by omega)]
  · rw [Array.getElem?_setIfInBounds_ne (by omega)]; exact h4
  · rw [List.range_succ, List.map_append]
    exact ownsRow_setCell_below hown (by show x < x + 1; omega) _

/-! ### The table and its indexes -/
structure Idx (w : World) (n : Nat) (U : Nat → Bool) (O L : Nat → Nat) (Z : Nat → Nat → Nat) (X : Nat → Nat) (k : Nat) (wr : World) : Prop where
  below : Below w.heap.size w wr
  row : wr.rowIs w.heap.size 32 n (fun j => .pointer (some ⟨w.heap.size + 1 + j, 0, none⟩))
  cells : ∀ j, j < n → Cellsy wr (w.heap.size + 1 + j)
  tab : ∃ c va vc, wr.heap[w.heap.size + 1 + n]? = some (.cells c 47 (0, 0)) ∧ c.size = 7 ∧ c[3]? = some (.slice va k vc) ∧ wr.ownsRow (w.heap.size + 1 + n + 1) 48 1 (.slice va k vc) k ((List.range k).map fun i => .pointer (some ⟨X i, 0, none⟩))
  ix : ∀ i, i < k → w.heap.size + 1 + n < X i ∧ X i < wr.heap.size ∧ IxOk wr (X i) (U i) (O i) (L i) (fun j => .pointer (some ⟨w.heap.size + 1 + Z i j, 0, none⟩))
  inc : ∀ i j, i < j → j < k → X i < X j

variable {w wr w' : World} {n k : Nat} {U : Nat → Bool} {O L : Nat → Nat} {Z : Nat → Nat → Nat} {X : Nat → Nat}

theorem idx_start (h : Cols w n n wr) (s m a b p q : Value) :
    Idx w n U O L Z X 0 (wr.alloc (.cells #[s, a, m, .slice none 0 0, b, p, q] 47)) := by
  refine ⟨h.below.alloc h.below.size _, ((h.row.alloc _).congr fun j hj => by rw [if_pos hj]), fun j hj => (h.cells j hj).of_block (Below.heap_alloc wr _ _ (by rw [h.size]; omega)), ?_, fun i hi => absurd hi (Nat.not_lt_zero _), fun i j _ hj => absurd hj (Nat.not_lt_zero _)⟩
  refine ⟨#[s, a, m, .slice none 0 0, b, p, q], none, 0, ?_, rfl, rfl, World.ownsRow_nil _ _ _ _⟩
  rw [← h.size]
  exact heap_alloc_new wr _

theorem Idx.lt (h : Idx w n U O L Z X k wr) : w.heap.size + 1 + n < wr.heap.size := by
  obtain ⟨c, va, vc, h0, _⟩ := h.tab
  exact lt_of_cells h0

theorem Idx.later (h : Idx w n U O L Z X k wr) (hb : Below wr.heap.size wr w') : Idx w n U O L Z X k w' := by
  have hg := grown_of_below hb (Nat.le_refl _) none
  have hlt := h.lt
  refine ⟨h.below.trans (hb.mono h.below.size), h.row.of_block (hb.block _ (by omega)), fun j hj => (h.cells j hj).of_block (hb.block _ (by omega)), ?_, fun i hi => ?_, h.inc⟩
  · obtain ⟨c, va, vc, h0, h1, h2, h3⟩ := h.tab
    exact ⟨c, va, vc, (hb.block _ hlt).trans h0, h1, h2, h3.kept hg (by cases hv : (Value.slice va k vc).ownBlock <;> simp)⟩
  · obtain ⟨a1, a2, a3⟩ := h.ix i hi
    exact ⟨a1, Nat.lt_of_lt_of_le a2 hb.size, a3.kept none hg (fun b c t e => by cases e)⟩

/-- 't.indexes = append(t.indexes, ix)'. -/
theorem idx_next {wi w1 w2 : World} {x g cap vc : Nat} {va : Option Addr} {c : Array Value} (h : Idx w n U O L Z X k wi)
    (hx : IxOk wi x (U k) (O k) (L k) (fun j => .pointer (some ⟨w.heap.size + 1 + Z k j, 0, none⟩))) (hxi : ∀ i, i < k → X i < x) (hx0 : w.heap.size + 1 + n < x) (hxs : x < wi.heap.size)
    (h0 : wi.heap[w.heap.size + 1 + n]? = some (.cells c 47 (0, 0))) (h1 : c.size = 7) (h3 : wi.ownsRow (w.heap.size + 1 + n + 1) 48 1 (.slice va k vc) k ((List.range k).map fun i => .pointer (some ⟨X i, 0, none⟩)))
    (hw1 : Below wi.heap.size wi w1) (hg : w1.grownBy w2 (Value.slice va k vc).ownBlock)
    (hown : w2.ownsRow (w.heap.size + 1 + n + 1) 48 1 (.slice (some ⟨g, 0, none⟩) (k + 1) cap) (k + 1) (((List.range k).map fun i => .pointer (some ⟨X i, 0, none⟩)) ++ [.pointer (some ⟨x, 0, none⟩)])) :
    Idx w n U O L Z (fun i => if i < k then X i else x) (k + 1) (w2.setCell ⟨w.heap.size + 1 + n, 3, none⟩ (.slice (some ⟨g, 0, none⟩) (k + 1) cap)) := by
  have hI := h.later hw1
  have hx1 : IxOk w1 x (U k) (O k) (L k) (fun j => .pointer (some ⟨w.heap.size + 1 + Z k j, 0, none⟩)) := hx.kept none (grown_of_below hw1 (Nat.le_refl _) none) (fun b c t e => by cases e)
  have h31 := h3.kept (grown_of_below hw1 (Nat.le_refl _) none) (by cases hv : (Value.slice va k vc).ownBlock <;> simp)
  have h01 : w1.heap[w.heap.size + 1 + n]? = some (.cells c 47 (0, 0)) := (hw1.block _ (lt_of_cells h0)).trans h0
  have hrow : ∀ b c t, (Value.slice va k vc).ownBlock = some b → w1.heap[b]? = some (.cells c t (0, 0)) → t = 48 := by
    intro b c t e hh
    rcases h31.2 with ⟨hv, _⟩ | ⟨g, cap, cur, hv, _, hg2, _⟩
    · rw [hv] at e; simp [Value.ownBlock] at e
    · rw [hv] at e
      simp only [Value.ownBlock, Option.some.injEq] at e
      subst e
      rw [hg2] at hh
      simp only [Option.some.injEq, Obj.cells.injEq] at hh
      exact hh.2.1.symm
  have hge : ∀ b, (Value.slice va k vc).ownBlock = some b → w.heap.size + 1 + n + 1 ≤ b := fun b e => (h31.lt b e).1
  have hlt1 := hI.lt
  have old : ∀ b, b ≤ w.heap.size + 1 + n → w2.heap[b]? = w1.heap[b]? := fun b hb => hg.block b (by omega) (fun e => by have := hge b e.symm; omega)
  have hbel : Below w.heap.size w w2 := hI.below.grown hg hI.below.size (fun b e => by have := hge b e; omega)
  have e02 : w2.heap[w.heap.size + 1 + n]? = some (.cells c 47 (0, 0)) := (old _ (Nat.le_refl _)).trans h01
  have keep : ∀ {x u o l f}, IxOk w1 x u o l f → IxOk (w2.setCell ⟨w.heap.size + 1 + n, 3, none⟩ (.slice (some ⟨g, 0, none⟩) (k + 1) cap)) x u o l f := fun hh =>
    (hh.kept _ hg (fun b c t e hb => by rw [hrow b c t e hb]; decide)).set (fun c t hb => by rw [e02] at hb; simp only [Option.some.injEq, Obj.cells.injEq] at hb; rw [← hb.2.1]; decide) _ _
  have hs2 := hg.size
  have hs1 := hw1.size
  refine ⟨hbel.setCell (by show w.heap.size ≤ w.heap.size + 1 + n; omega) _, (hI.row.of_block (old _ (by omega))).setOther (by show w.heap.size ≠ w.heap.size + 1 + n; omega) _,
    fun j hj => (hI.cells j hj).of_block (by rw [block_setCell _ _ (by omega)]; exact old _ (by omega)), ?_, fun i hi => ?_, fun i j hij hj => ?_⟩
  · refine ⟨_, some ⟨g, 0, none⟩, cap, cells_set e02 _, by simpa using h1, ?_, ?_⟩
    · rw [Array.getElem?_setIfInBounds_self_of_lt (by omega)]
    · have e : ((List.range (k + 1)).map fun i => Value.pointer (some ⟨if i < k then X i else x, 0, none⟩)) = ((List.range k).map fun i => Value.pointer (some ⟨X i, 0, none⟩)) ++ [.pointer (some ⟨x, 0, none⟩)] := by
        rw [List.range_succ, List.map_append]
        congr 1
        · exact List.map_congr_left (fun i hi => by rw [if_pos (List.mem_range.1 hi)])
        · simp
      rw [e]
      exact ownsRow_setCell_below hown (by show w.heap.size + 1 + n < _; omega) _
  · have hsz : (w2.setCell ⟨w.heap.size + 1 + n, 3, none⟩ (.slice (some ⟨g, 0, none⟩) (k + 1) cap)).heap.size = w2.heap.size := by simp [World.setCell]
    by_cases e : i < k
    · obtain ⟨a1, a2, a3⟩ := hI.ix i e
      simp only [if_pos e]
      exact ⟨a1, by rw [hsz]; omega, keep a3⟩
    · obtain rfl : i = k := by omega
      simp only [if_neg e]
      exact ⟨hx0, by rw [hsz]; omega, keep hx1⟩
  · by_cases e : j < k
    · simp only [if_pos e, if_pos (show i < k by omega)]
      exact h.inc i j hij e
    · simp only [if_neg e, if_pos (show i < k by omega)]
      exact hxi i (by omega)

/-! ### The terms -/
def TmOk (w : World) (y p : Nat) (fl : Bool) : Prop :=
  ∃ c a l cp, w.heap[y]? = some (.cells c 63 (0, 0)) ∧ c[0]? = some (.pointer (some ⟨p, 0, none⟩)) ∧ c[1]? = some (.slice a l cp) ∧ a.isNone = !fl

theorem TmOk.kept {w w' : World} {y p : Nat} {fl : Bool} (h : TmOk w y p fl) (row : Option Nat) (hg : w.grownBy w' row) (hr : ∀ b c t, row = some b → w.heap[b]? = some (.cells c t (0, 0)) → t ≠ 63) : TmOk w' y p fl := by
  obtain ⟨c, a, l, cp, h0, h1, h2, h3⟩ := h
  exact ⟨c, a, l, cp, by rw [hg.block y (lt_of_cells h0) (fun e => (hr y c 63 e.symm h0) rfl)]; exact h0, h1, h2, h3⟩

structure Trm (w0 : World) (N1 : Nat) (T : Nat → Nat) (F : Nat → Bool) (Y : Nat → Nat) (k : Nat) (v : Value) (wr : World) : Prop where
  below : Below w0.heap.size w0 wr
  own : wr.ownsRow w0.heap.size 56 1 v k ((List.range k).map fun t => .pointer (some ⟨Y t, 0, none⟩))
  tm : ∀ t, t < k → TmOk wr (Y t) (N1 + T t) (F t)

theorem trm_next {w0 wr w1 w2 : World} {N1 k y : Nat} {T Y : Nat → Nat} {F : Nat → Bool} {v v' : Value} (h : Trm w0 N1 T F Y k v wr) (hw1 : Below wr.heap.size wr w1) (htm : TmOk w1 y (N1 + T k) (F k))
    (hg : w1.grownBy w2 v.ownBlock) (hown : w2.ownsRow w0.heap.size 56 1 v' (k + 1) (((List.range k).map fun t => .pointer (some ⟨Y t, 0, none⟩)) ++ [.pointer (some ⟨y, 0, none⟩)])) :
    Trm w0 N1 T F (fun t => if t < k then Y t else y) (k + 1) v' w2 := by
  have hg1 := grown_of_below hw1 (Nat.le_refl _) none
  have hown1 := h.own.kept hg1 (by cases hv : v.ownBlock <;> simp)
  have hrow : ∀ b c t, v.ownBlock = some b → w1.heap[b]? = some (.cells c t (0, 0)) → t ≠ 63 := by
    intro b c t e hh
    rcases hown1.2 with ⟨hv, _⟩ | ⟨g, cap, cur, hv, _, hg2, _⟩
    · rw [hv] at e; simp [Value.ownBlock] at e
    · rw [hv] at e
      simp only [Value.ownBlock, Option.some.injEq] at e
      subst e
      rw [hg2] at hh
      simp only [Option.some.injEq, Obj.cells.injEq] at hh
      rw [← hh.2.1]; decide
  refine ⟨(h.below.trans (hw1.mono h.below.size)).grown hg (Nat.le_trans h.below.size hw1.size) (fun b e => (hown1.lt b e).1), ?_, fun t ht => ?_⟩
  · have e : ((List.range (k + 1)).map fun t => Value.pointer (some ⟨if t < k then Y t else y, 0, none⟩)) = ((List.range k).map fun t => Value.pointer (some ⟨Y t, 0, none⟩)) ++ [.pointer (some ⟨y, 0, none⟩)] := by
      rw [List.range_succ, List.map_append]
      congr 1
      · exact List.map_congr_left (fun i hi => by rw [if_pos (List.mem_range.1 hi)])
      · simp
    rw [e]
    exact hown
  · by_cases e : t < k
    · simp only [if_pos e]
      exact ((h.tm t e).kept none hg1 (fun b c t e => by cases e)).kept _ hg hrow
    · obtain rfl : t = k := by omega
      simp only [if_neg e]
      exact htm.kept _ hg hrow

theorem size_alloc (w : World) (o : Obj) : (w.alloc o).heap.size = w.heap.size + 1 := by simp
theorem news2 (w : World) (o1 : Obj) (cs : Array Value) (t : TypeId) : ∀ j u, cs.toList[j]? = some u → ((w.alloc o1).alloc (.cells cs t)).cell? ((⟨w.heap.size + 1, 0, none⟩ : Addr).add j) = some u := by
  have h := heap_alloc_new (w.alloc o1) (.cells cs t)
  rw [size_alloc] at h
  exact World.news_of_block h
theorem news3 (w : World) (o1 o2 : Obj) (cs : Array Value) (t : TypeId) : ∀ j u, cs.toList[j]? = some u → (((w.alloc o1).alloc o2).alloc (.cells cs t)).cell? ((⟨w.heap.size + 1 + 1, 0, none⟩ : Addr).add j) = some u := by
  have h := news2 (w.alloc o1) o2 cs t
  rw [size_alloc] at h
  exact h
theorem blk2 (w : World) (o1 o2 : Obj) : ((w.alloc o1).alloc o2).heap[w.heap.size]? = some o1 :=
  (Below.heap_alloc (w.alloc o1) o2 _ (by rw [size_alloc]; omega)).trans (heap_alloc_new w o1)
theorem blk3 (w : World) (o1 o2 o3 : Obj) : (((w.alloc o1).alloc o2).alloc o3).heap[w.heap.size]? = some o1 :=
  (Below.heap_alloc ((w.alloc o1).alloc o2) o3 _ (by rw [size_alloc, size_alloc]; omega)).trans (blk2 w o1 o2)

/-! ### What uniqueIndexOn reads -/
theorem own_cell {w : World} {base : Nat} {e : TypeId} {g n cap : Nat} {f : Nat → Value} (h : w.ownsRow base e 1 (.slice (some ⟨g, 0, none⟩) n cap) n ((List.range n).map f)) {i : Nat} (hi : i < n) : w.cell? ⟨g, i, none⟩ = some (f i) := by
  have h1 := h.cells (g := g) rfl i (f i) (by simp [hi])
  have h2 : (⟨g, 0, none⟩ : Addr).add i = ⟨g, i, none⟩ := by unfold Addr.add; split <;> simp_all
  rw [h2] at h1
  exact h1

theorem own_shape {w : World} {base : Nat} {e : TypeId} {v : Value} {n : Nat} {xs : List Value} (h : w.ownsRow base e 1 v n xs) :
    (v = .slice none 0 0 ∧ n = 0) ∨ ∃ g cap, v = .slice (some ⟨g, 0, none⟩) n cap ∧ n ≤ cap ∧ cap ≤ maxLen := by
  rcases h.2 with h0 | ⟨g, cap, cur, hv, _, _, h1, h2, _⟩
  · exact Or.inl h0
  · exact Or.inr ⟨g, cap, hv, h1, h2⟩

theorem Idx.view {nU : Nat} (h : Idx w n U O L Z X nU wr) (h1 : 1 ≤ nU) :
    ∃ tg tcap, nU ≤ tcap ∧ tcap ≤ 9223372036854775807 ∧ wr.cell? ⟨w.heap.size + 1 + n, 3, none⟩ = some (.slice (some ⟨tg, 0, none⟩) nU tcap) ∧ ∀ i, i < nU → wr.cell? ⟨tg, i, none⟩ = some (.pointer (some ⟨X i, 0, none⟩)) := by
  obtain ⟨c, va, vc, t0, t1, t2, t3⟩ := h.tab
  rcases own_shape t3 with ⟨_, e⟩ | ⟨g, cap, hv, hc1, hc2⟩
  · omega
  · rw [hv] at t2 t3
    exact ⟨g, cap, hc1, by unfold maxLen at hc2; omega, cell_of_cells t0 t2, fun i hi => own_cell t3 hi⟩

theorem Idx.views {nU : Nat} (h : Idx w n U O L Z X nU wr) (hL : ∀ i, i < nU → L i ≤ 1048576) (hOL : ∀ i, i < nU → O i ≤ L i) :
    ∃ (ca : Nat → Option Addr) (g cc : Nat → Nat), (∀ i, i < nU → wr.cell? ⟨X i, 1, none⟩ = some (.bool (U i))) ∧ (∀ i, i < nU → wr.cell? ⟨X i, 2, none⟩ = some (.slice (ca i) (L i) (cc i))) ∧ (∀ i, i < nU → wr.cell? ⟨X i, 3, none⟩ = some (.int .i64 (O i))) ∧
      (∀ i, i < nU → O i ≤ L i ∧ L i ≤ cc i ∧ cc i ≤ 9223372036854775807 ∧ L i ≤ 1048576) ∧ (∀ i, i < nU → (ca i = none ∧ L i = 0 ∧ cc i = 0) ∨ ca i = some ⟨g i, 0, none⟩) ∧
      (∀ i, i < nU → ∀ j, j < L i → wr.cell? ⟨g i, j, none⟩ = some (.pointer (some ⟨w.heap.size + 1 + Z i j, 0, none⟩))) := by
  have each : ∀ i, i < nU → ∃ y : Option Addr × Nat × Nat, wr.cell? ⟨X i, 1, none⟩ = some (.bool (U i)) ∧ wr.cell? ⟨X i, 2, none⟩ = some (.slice y.1 (L i) y.2.2) ∧ wr.cell? ⟨X i, 3, none⟩ = some (.int .i64 (O i)) ∧
      (L i ≤ y.2.2 ∧ y.2.2 ≤ 9223372036854775807) ∧ ((y.1 = none ∧ L i = 0 ∧ y.2.2 = 0) ∨ y.1 = some ⟨y.2.1, 0, none⟩) ∧ ∀ j, j < L i → wr.cell? ⟨y.2.1, j, none⟩ = some (.pointer (some ⟨w.heap.size + 1 + Z i j, 0, none⟩)) := by
    intro i hi
    obtain ⟨c, va, vc, t0, t1, t2, t3, t4, t5⟩ := (h.ix i hi).2.2
    rcases own_shape t5 with ⟨hv, e⟩ | ⟨g, cap, hv, hc1, hc2⟩
    · simp only [Value.slice.injEq] at hv
      obtain ⟨rfl, _, rfl⟩ := hv
      exact ⟨(none, 0, 0), cell_of_cells t0 t2, cell_of_cells t0 t3, cell_of_cells t0 t4, ⟨by simp [e], by simp⟩, Or.inl ⟨rfl, e, rfl⟩, fun j hj => by omega⟩
    · simp only [Value.slice.injEq] at hv
      obtain ⟨rfl, _, rfl⟩ := hv
      exact ⟨(some ⟨g, 0, none⟩, g, vc), cell_of_cells t0 t2, cell_of_cells t0 t3, cell_of_cells t0 t4, ⟨hc1, by unfold maxLen at hc2; omega⟩, Or.inr rfl, fun j hj => own_cell t5 hj⟩
  obtain ⟨y, hy⟩ := choose_lt each
  exact ⟨fun i => (y i).1, fun i => (y i).2.1, fun i => (y i).2.2, fun i hi => (hy i hi).1, fun i hi => (hy i hi).2.1, fun i hi => (hy i hi).2.2.1, fun i hi => ⟨hOL i hi, (hy i hi).2.2.2.1.1, (hy i hi).2.2.2.1.2, hL i hi⟩, fun i hi => (hy i hi).2.2.2.2.1, fun i hi => (hy i hi).2.2.2.2.2⟩

theorem Trm.view {w0 : World} {N1 nT : Nat} {T Y : Nat → Nat} {F : Nat → Bool} {v : Value} (h : Trm w0 N1 T F Y nT v wr) :
    ∃ (wa : Option Addr) (wb cW : Nat) (VA : Nat → Option Addr) (VL VC : Nat → Nat), v = .slice wa nT cW ∧ (0 < nT → wa = some ⟨wb, 0, none⟩) ∧ (∀ t, t < nT → wr.cell? ⟨wb, t, none⟩ = some (.pointer (some ⟨Y t, 0, none⟩))) ∧
      (∀ t, t < nT → wr.cell? ⟨Y t, 0, none⟩ = some (.pointer (some ⟨N1 + T t, 0, none⟩))) ∧ (∀ t, t < nT → wr.cell? ⟨Y t, 1, none⟩ = some (.slice (VA t) (VL t) (VC t))) ∧ (∀ t, t < nT → (VA t).isNone = !F t) := by
  have each : ∀ t, t < nT → ∃ y : Option Addr × Nat × Nat, wr.cell? ⟨Y t, 0, none⟩ = some (.pointer (some ⟨N1 + T t, 0, none⟩)) ∧ wr.cell? ⟨Y t, 1, none⟩ = some (.slice y.1 y.2.1 y.2.2) ∧ y.1.isNone = !F t := by
    intro t ht
    obtain ⟨c, a, l, cp, t0, t1, t2, t3⟩ := h.tm t ht
    exact ⟨(a, l, cp), cell_of_cells t0 t1, cell_of_cells t0 t2, t3⟩
  obtain ⟨y, hy⟩ := choose_lt each
  rcases own_shape h.own with ⟨hv, e⟩ | ⟨g, cap, hv, hc1, hc2⟩
  · exact ⟨none, 0, 0, fun t => (y t).1, fun t => (y t).2.1, fun t => (y t).2.2, by rw [hv, e], fun h => by omega, fun t ht => by omega, fun t ht => (hy t ht).1, fun t ht => (hy t ht).2.1, fun t ht => (hy t ht).2.2⟩
  · have ho := h.own
    rw [hv] at ho
    exact ⟨some ⟨g, 0, none⟩, g, cap, fun t => (y t).1, fun t => (y t).2.1, fun t => (y t).2.2, hv, fun _ => rfl, fun t ht => own_cell ho ht, fun t ht => (hy t ht).1, fun t ht => (hy t ht).2.1, fun t ht => (hy t ht).2.2⟩

end Go.Proofs.Qxb6615124a
