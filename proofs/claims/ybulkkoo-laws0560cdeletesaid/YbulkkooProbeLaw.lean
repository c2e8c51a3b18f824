/-
  LawS0560CDelete (8): what lies in memory round after round.
-/
import Derived.Test.YbulkkooProbePlace
import Derived.Test.YbulkkooProbeUnplace
import Derived.OwnWalk
import Derived.Deep.AppendLies
namespace Go.Proofs.Ybulkkoo.Probe
open Go.RowKit

theorem info49 : (Yba.prog.info? 49).map (fun i => (i.zero, i.size, i.bytes)) = some (some (.agg #[.int .i64 0, .int .u64 0, .int .i64 0, .int .i64 0, .int .i64 0]), 5, 40) := by kernel_rfl
theorem info3' : (Yba.prog.info? 3).map (fun i => (i.zero, i.size, i.bytes)) = some (some (.int .i64 0), 1, 8) := by kernel_rfl

/-- One kept value's cells; all of them. -/
def kept1 (H : Nat → Nat) (i : Nat) : List Value := [.int .i64 (i : Int), .int .u64 (H i : Int), .int .i64 0, .int .i64 0, .int .i64 ((i : Int) + 1)]
def keptCells (H : Nat → Nat) : Nat → List Value
  | 0 => []
  | k + 1 => keptCells H k ++ kept1 H k
theorem keptCells_length (H : Nat → Nat) : ∀ k, (keptCells H k).length = k * 5
  | 0 => rfl
  | k + 1 => by simp [keptCells, keptCells_length H k, kept1]; omega
theorem keptCells_at (H : Nat → Nat) : ∀ (k i : Nat), i < k → (keptCells H k)[i * 5]? = some (.int .i64 (i : Int)) ∧ (keptCells H k)[i * 5 + 1]? = some (.int .u64 (H i : Int))
  | 0, _, h => absurd h (Nat.not_lt_zero _)
  | k + 1, i, h => by
    have hl := keptCells_length H k
    by_cases e : i = k
    · subst e
      unfold keptCells
      rw [List.getElem?_append_right (by omega), List.getElem?_append_right (by omega), hl]
      simp [kept1]
    · have ih := keptCells_at H k i (by omega)
      unfold keptCells
      rw [List.getElem?_append_left (by omega), List.getElem?_append_left (by omega)]
      exact ih

/-- THE STATE AT A ROUND's HEAD: block N holds the places, block bm the struct, the kept values lie further on; i values are kept and placed. -/
structure LS (w0 w : World) (N bm n i : Nat) (H : Nat → Nat) (kv : Value) (T : List Nat) : Prop where
  ck : w.cell? ⟨bm, 0, none⟩ = some kv
  fk : w.frozen? ⟨bm, 0, none⟩ = false
  cp : w.cell? ⟨bm, 2, none⟩ = some (.slice (some ⟨N, 0, none⟩) n n)
  kept : w.ownsRow (bm + 1) 49 5 kv i (keptCells H i)
  pl : w.ownsRow 0 3 1 (.slice (some ⟨N, 0, none⟩) n n) n (nums T)
  tab : Tab n (fun v => H v % n) (fun v => v < i) T
  count : cnt T = i
  size : bm + 1 ≤ w.heap.size
  below : Below N w0 w
  lt : N < bm

/-- Behind the append: the struct and the places as they were. -/
theorem LS.appended {w0 w w1 : World} {N bm n i : Nat} {H : Nat → Nat} {kv : Value} {T : List Nat} {O : Obj} (h : LS w0 w N bm n i H kv T) (hgrow : (w.alloc O).grownBy w1 kv.ownBlock) :
    w1.cell? ⟨bm, 0, none⟩ = some kv ∧ w1.frozen? ⟨bm, 0, none⟩ = false ∧ w1.cell? ⟨bm, 2, none⟩ = some (.slice (some ⟨N, 0, none⟩) n n) ∧
      w1.ownsRow 0 3 1 (.slice (some ⟨N, 0, none⟩) n n) n (nums T) ∧ Below N w0 w1 ∧ bm + 1 ≤ w1.heap.size := by
  have hlt := h.kept.lt
  have hs := h.size
  have hNb := h.lt
  have hne : ∀ b, b < bm + 1 → some b ≠ kv.ownBlock := fun b hb e => by have := hlt b e.symm; omega
  have hall := (World.grownBy_alloc w O kv.ownBlock)
  have hb : w1.heap[bm]? = w.heap[bm]? := by
    rw [hgrow.block (bm) (by simp; omega) (hne (bm) (by omega)), hall.block (bm) (by omega) (hne (bm) (by omega))]
  refine ⟨?_, ?_, ?_, ?_, ?_, ?_⟩
  · rw [World.cell?_of_block (w := w) (a := ⟨bm, 0, none⟩) hb]; exact h.ck
  · rw [World.frozen?_of_block (w := w) (a := ⟨bm, 0, none⟩) hb]; exact h.fk
  · rw [World.cell?_of_block (w := w) (a := ⟨bm, 2, none⟩) hb]; exact h.cp
  · refine (h.pl.alloc O).kept hgrow (.inr ?_)
    intro e; exact hne N (by omega) e
  · refine (h.below.alloc (by omega) O).grown hgrow (by simp; omega) ?_
    intro b hb; have := hlt b hb; omega
  · have := hgrow.size; simp at this; omega

theorem grownBy_setCell (w : World) (p : Addr) (u : Value) : w.grownBy (w.setCell p u) (some p.block) :=
  ⟨rfl, rfl, rfl, by simp [World.setCell], fun k _ hk => Below.heap_setCell _ _ _ _ (fun e => hk (by rw [e]))⟩

/-- The kept values' slice is stored back: the memo as 'place' meets it. -/
theorem LS.stored {w1 : World} {N bm n i g kc : Nat} {H : Nat → Nat} {kv : Value} {T : List Nat} (hlt : N < bm) (c1 : w1.cell? ⟨bm, 0, none⟩ = some kv) (c2 : w1.cell? ⟨bm, 2, none⟩ = some (.slice (some ⟨N, 0, none⟩) n n))
    (hk : w1.ownsRow (bm + 1) 49 5 (.slice (some ⟨g, 0, none⟩) (i + 1) kc) (i + 1) (keptCells H (i + 1))) (hp : w1.ownsRow 0 3 1 (.slice (some ⟨N, 0, none⟩) n n) n (nums T)) :
    MS (w1.setCell ⟨bm, 0, none⟩ (.slice (some ⟨g, 0, none⟩) (i + 1) kc)) (bm) N g (i + 1) kc n H T := by
  have hg : bm + 1 ≤ g := (hk.lt g rfl).1
  refine ⟨World.cell?_setCell_same _ _ _ c1, ?_, fun j hj => ?_, fun j hj => ?_, hp.kept (grownBy_setCell _ _ _) (.inr (by simp [Value.ownBlock]; omega)), by omega, by omega⟩
  · rw [World.cell?_setCell_other _ _ _ _ (by simp)]; exact c2
  · rw [cell_set_other w1 _ (by show g ≠ bm; omega), hk.cellAt (j * 5) (by omega)]; exact (keptCells_at H (i + 1) j hj).1
  · rw [cell_set_other w1 _ (by show g ≠ bm; omega), hk.cellAt (j * 5 + 1) (by omega)]; exact (keptCells_at H (i + 1) j hj).2

/-- Behind 'place'. -/
theorem LS.placed {w0 w1 w3 : World} {N bm n i g kc m : Nat} {H : Nat → Nat} {T : List Nat} (hlt : N < bm) (f1 : w1.frozen? ⟨bm, 0, none⟩ = false)
    (hk : w1.ownsRow (bm + 1) 49 5 (.slice (some ⟨g, 0, none⟩) (i + 1) kc) (i + 1) (keptCells H (i + 1))) (hb : Below N w0 w1) (hs : bm + 1 ≤ w1.heap.size)
    (ht : Tab n (fun v => H v % n) (fun v => v < i) T) (hcnt : cnt T = i) (hm : m < n) (hmiss : MissAt T n (H i % n) i m)
    (h3 : MS w3 (bm) N g (i + 1) kc n H (T.set (pos n (H i % n) m) (i + 1))) (st : Still1 (w1.setCell ⟨bm, 0, none⟩ (.slice (some ⟨g, 0, none⟩) (i + 1) kc)) w3 N) :
    LS w0 w3 N bm n (i + 1) H (.slice (some ⟨g, 0, none⟩) (i + 1) kc) (T.set (pos n (H i % n) m) (i + 1)) := by
  have hg : bm + 1 ≤ g := (hk.lt g rfl).1
  have e1 : w3.heap[bm]? = (w1.setCell ⟨bm, 0, none⟩ (.slice (some ⟨g, 0, none⟩) (i + 1) kc)).heap[bm]? := st.block _ (by omega)
  have hpn : pos n (H i % n) m < T.length := by rw [ht.len]; exact pos_lt (by omega)
  refine ⟨h3.ck, ?_, h3.cp, ?_, h3.pl, ht.place hm hmiss.1 (fun j hj => (hmiss.2 j hj).1), ?_, ?_, ?_, hlt⟩
  · rw [World.frozen?_of_block (a := ⟨bm, 0, none⟩) e1, World.frozen?_setCell]; exact f1
  · have h2 : (w1.setCell ⟨bm, 0, none⟩ (.slice (some ⟨g, 0, none⟩) (i + 1) kc)).ownsRow (bm + 1) 49 5 (.slice (some ⟨g, 0, none⟩) (i + 1) kc) (i + 1) (keptCells H (i + 1)) := ownsRow_setCell_below hk (by simp) _
    refine h2.kept (row := some N) ⟨st.os, st.tape, st.output, Nat.le_of_eq st.size.symm, fun k _ hk' => st.block k (fun e => hk' (by rw [e]))⟩ (.inr ?_)
    intro e
    simp only [Value.ownBlock, Option.some.injEq] at e
    omega
  · have := cnt_set T (pos n (H i % n) m) (i + 1) hpn
    rw [hmiss.1] at this
    simp only [nz, Nat.add_one_ne_zero, if_false, if_true] at this
    omega
  · rw [st.size]; simpa [World.setCell] using hs
  · exact (hb.setCell (p := ⟨bm, 0, none⟩) (by show N ≤ bm; omega) _).trans ⟨st.os, st.tape, st.output, Nat.le_of_eq st.size.symm, fun b hb' => st.block b (by omega)⟩

theorem LS.miss {w0 w : World} {N bm n i : Nat} {H : Nat → Nat} {kv : Value} {T : List Nat} (h : LS w0 w N bm n i H kv T) (hn : i < n) : ∃ m, m < n ∧ MissAt T n (H i % n) i m := by
  obtain ⟨m, h1, h2, h3⟩ := first_empty (T := T) (n := n) (hh := H i % n) h.tab.len (by rw [h.count]; exact hn) (Nat.mod_lt _ (by omega))
  refine ⟨m, h1, h2, fun j hj => ⟨h3 j hj, fun e => ?_⟩⟩
  have := h.tab.val _ (pos_lt (n := n) (h := H i % n) (s := j) (by omega)) (h3 j hj)
  rw [e] at this
  exact absurd this (by show ¬ i + 1 - 1 < i; omega)
theorem Tab.le {n k : Nat} {h : Nat → Nat} {S : Nat → Prop} {T : List Nat} (t : Tab n h S T) (hS : ∀ v, S v → v < k) (q : Nat) (hq : q < n) : tt T q ≤ k := by
  by_cases e : tt T q = 0
  · omega
  · have := hS _ (t.val q hq e); omega

/-- The memo when all values are kept. -/
theorem LS.memo {w0 w : World} {N bm n i : Nat} {H : Nat → Nat} {kv : Value} {T : List Nat} (h : LS w0 w N bm n i H kv T) (hi : 0 < i) :
    ∃ g kc, kv = .slice (some ⟨g, 0, none⟩) i kc ∧ MS w (bm) N g i kc n H T := by
  have hNb := h.lt
  rcases h.kept.2 with ⟨_, h0⟩ | ⟨g, kc, _, hv, hg, _⟩
  · omega
  · have hk := h.kept
    rw [hv] at hk
    refine ⟨g, kc, hv, by rw [← hv]; exact h.ck, h.cp, fun j hj => ?_, fun j hj => ?_, h.pl, by omega, by omega⟩
    · rw [hk.cellAt (j * 5) (by omega)]; exact (keptCells_at H i j hj).1
    · rw [hk.cellAt (j * 5 + 1) (by omega)]; exact (keptCells_at H i j hj).2

/-- At the first round's head. -/
theorem LS.start {w w1 : World} (H : Nat → Nat) {n : Nat} (cs : Array Value) (e : TypeId) (hA : w1.ownsRow 0 3 1 (.slice (some ⟨w.heap.size, 0, none⟩) n n) n (madeCells #[.int .i64 0] n).toList) (hgrow : w.grownBy w1 none)
    (h0 : cs[0]? = some (.slice none 0 0)) (h2 : cs[2]? = some (.slice (some ⟨w.heap.size, 0, none⟩) n n)) :
    LS w (w1.alloc (.cells cs e)) w.heap.size w1.heap.size n 0 H (.slice none 0 0) (List.replicate n 0) := by
  have hs := (hA.lt w.heap.size rfl).2
  refine ⟨?_, ?_, ?_, World.ownsRow_nil _ _ _ _, ?_, Tab.empty n _, cnt_zero n, by simp, ?_, hs⟩
  · simp [h0]
  · simp
  · simp [h2]
  · rw [toList_madeCells_one] at hA; rw [nums_zero]; exact hA.alloc _
  · exact ((Below.refl _ w).grown hgrow (Nat.le_refl _) (by simp)).alloc (by omega) _

theorem Tab.hit {n v : Nat} {H : Nat → Nat} {S : Nat → Prop} {T : List Nat} (t : Tab n (fun v => H v % n) S T) (hn : 0 < n) (hv : S v) : ∃ m, m < n ∧ HitAt T n (H v % n) v m := by
  obtain ⟨m, h1, h2, h3⟩ := t.reach v hv
  exact ⟨m, h1, h2, fun i hi => ⟨h3 i hi, t.way (h := fun v => H v % n) (Nat.mod_lt _ hn) h1 h2 hi⟩⟩
theorem Tab.missed {n v : Nat} {H : Nat → Nat} {S : Nat → Prop} {T : List Nat} (t : Tab n (fun v => H v % n) S T) (hn : 0 < n) (hc : cnt T < n) (hv : ¬ S v) : ∃ m, m < n ∧ MissAt T n (H v % n) v m := by
  obtain ⟨m, h1, h2, h3⟩ := first_empty (T := T) (n := n) (hh := H v % n) t.len hc (Nat.mod_lt _ hn)
  refine ⟨m, h1, h2, fun j hj => ⟨h3 j hj, fun e => hv ?_⟩⟩
  have := t.val _ (pos_lt (n := n) (h := H v % n) (s := j) hn) (h3 j hj)
  rw [e] at this
  exact this
end Go.Proofs.Ybulkkoo.Probe
