/-
  THE WALK OF (*worthQueue).push (function 18).
-/
import Derived.Test.YbulkkooHeapUp
import Derived.OwnWalk
import Derived.Deep.RegionWith
namespace Go.Proofs.Ybulkkoo
open Go.RowKit

theorem info28 : (Yba.prog.info? 28).map (fun i => (i.zero, i.size, i.bytes)) = some (some (.agg #[.int .i64 0, .int .i64 0]), 2, 16) := by kernel_rfl

theorem grownBy_setCell (w : World) (p : Addr) (u : Value) : w.grownBy (w.setCell p u) (some p.block) :=
  ⟨rfl, rfl, rfl, by simp [World.setCell], fun k _ hk => Below.heap_setCell _ _ _ _ (fun e => hk (by rw [e]))⟩

/-- THE STATE BETWEEN TWO PUSHES: block N holds the queue's slice, block N + 1 the places, the queue's entries lie further on; nothing below N has turned since w0. -/
structure PS (w0 w : World) (N : Nat) (ws : Nat → Int) (k n : Nat) (qv : Value) (Q : List (Int × Nat)) (A : List Nat) : Prop where
  cq : w.cell? ⟨N, 0, none⟩ = some qv
  fq : w.frozen? ⟨N, 0, none⟩ = false
  q : w.ownsRow (N + 2) 28 2 qv k (flat Q)
  at' : w.ownsRow 0 3 1 (.slice (some ⟨N + 1, 0, none⟩) n n) n (nums A)
  inv : Heap.HInv ws k n Q A
  heap : Heap.HeapAll Q
  size : N + 2 ≤ w.heap.size
  below : Below N w0 w

/-- Behind the append: what lies where. -/
theorem PS.appended {w0 w w1 : World} {N k n : Nat} {ws : Nat → Int} {qv : Value} {Q : List (Int × Nat)} {A : List Nat} {O : Obj} (h : PS w0 w N ws k n qv Q A)
    (hgrow : (w.alloc O).grownBy w1 qv.ownBlock) :
    w1.cell? ⟨N, 0, none⟩ = some qv ∧ w1.frozen? ⟨N, 0, none⟩ = false ∧ w1.ownsRow 0 3 1 (.slice (some ⟨N + 1, 0, none⟩) n n) n (nums A) ∧ Below N w0 w1 ∧ N + 2 ≤ w1.heap.size := by
  have hlt := h.q.lt
  have hs := h.size
  have hne : ∀ b, b < N + 2 → some b ≠ qv.ownBlock := fun b hb e => by have := hlt b e.symm; omega
  have hall := (World.grownBy_alloc w O qv.ownBlock)
  have hb : w1.heap[N]? = w.heap[N]? := by
    rw [hgrow.block N (by simp; omega) (hne N (by omega)), hall.block N (by omega) (hne N (by omega))]
  refine ⟨?_, ?_, ?_, ?_, ?_⟩
  · rw [World.cell?_of_block (w := w) (a := ⟨N, 0, none⟩) hb]; exact h.cq
  · rw [World.frozen?_of_block (w := w) (a := ⟨N, 0, none⟩) hb]; exact h.fq
  · refine (h.at'.alloc O).kept hgrow (.inr ?_)
    intro e; exact hne (N + 1) (by omega) e
  · refine (h.below.alloc (by omega) O).grown hgrow (by simp; omega) ?_
    intro b hb; have := hlt b hb; omega
  · have := hgrow.size; simp at this; omega

/-- The queue's slice is stored back, the new place is laid: the state in which 'up' is called. -/
theorem PS.stored {w1 : World} {N k n g cap : Nat} {Q : List (Int × Nat)} {A : List Nat} (hq : w1.ownsRow (N + 2) 28 2 (.slice (some ⟨g, 0, none⟩) (k + 1) cap) (k + 1) (flat Q))
    (hA : w1.ownsRow 0 3 1 (.slice (some ⟨N + 1, 0, none⟩) n n) n (nums A)) (hl : Q.length = k + 1) (v : Value) (i : Nat) :
    QS ((w1.setCell ⟨N, 0, none⟩ v).setCell ⟨N + 1, i, none⟩ (.int .i64 (i : Int))) (N + 2) g cap (N + 1) n Q (A.set i i) := by
  have hg : N + 2 ≤ g := (hq.lt g rfl).1
  have h2 : QS (w1.setCell ⟨N, 0, none⟩ v) (N + 2) g cap (N + 1) n Q A := by
    refine ⟨?_, hA.kept (grownBy_setCell _ _ _) (.inr (by simp [Value.ownBlock])), by omega⟩
    rw [hl]
    exact ownsRow_setCell_below hq (by simp) _
  exact h2.setA i i

theorem PS.upped {w0 w1 w' : World} {N k n g cap : Nat} {ws : Nat → Int} {v : Value} {i : Nat} {u : Value} {Q' : List (Int × Nat)} {A' : List Nat} (hv : v = .slice (some ⟨g, 0, none⟩) (k + 1) cap) (hb : Below N w0 w1) (hs : N + 2 ≤ w1.heap.size) (hg : N + 2 ≤ g)
    (c1 : ∃ x, w1.cell? ⟨N, 0, none⟩ = some x) (f1 : w1.frozen? ⟨N, 0, none⟩ = false)
    (hq : QS w' (N + 2) g cap (N + 1) n Q' A') (hi : Heap.HInv ws (k + 1) n Q' A') (hh : Heap.HeapAll Q') (st : Still2 ((w1.setCell ⟨N, 0, none⟩ v).setCell ⟨N + 1, i, none⟩ u).drew w' g (N + 1)) :
    PS w0 w' N ws (k + 1) n v Q' A' := by
  have e1 : w'.heap[N]? = (w1.setCell ⟨N, 0, none⟩ v).heap[N]? := by
    rw [st.block N (by omega) (by omega)]
    show ((w1.setCell ⟨N, 0, none⟩ v).setCell ⟨N + 1, i, none⟩ u).heap[N]? = _
    exact Below.heap_setCell _ _ _ _ (by simp)
  obtain ⟨x, hx⟩ := c1
  refine ⟨?_, ?_, ?_, hq.at', hi, hh, ?_, ?_⟩
  · rw [World.cell?_of_block (w := w1.setCell ⟨N, 0, none⟩ v) (a := ⟨N, 0, none⟩) e1]
    exact World.cell?_setCell_same _ _ _ hx
  · rw [World.frozen?_of_block (w := w1.setCell ⟨N, 0, none⟩ v) (a := ⟨N, 0, none⟩) e1]
    rw [World.frozen?_setCell]; exact f1
  · have := hq.q; rw [hi.lenQ] at this; rw [hv]; exact this
  · rw [st.size]; simpa [World.drew, World.setCell] using hs
  · have b1 := ((hb.setCell (p := ⟨N, 0, none⟩) (by simp) v).setCell (p := ⟨N + 1, i, none⟩) (by simp) u).drew
    exact b1.trans ⟨st.os, st.tape, st.output, Nat.le_of_eq st.size.symm, fun b hb => st.block b (by omega) (by omega)⟩

set_option maxHeartbeats 400000 in
theorem push_any {ws : Nat → Int} (w0 : World) (N k n : Nat) (qv : Value) (Q : List (Int × Nat)) (A : List Nat) (w : World) (h : PS w0 w N ws k n qv Q A) (hkn : k < n) (hn : n ≤ 1024) :
    Calls Yba.prog 18 #[.pointer (some ⟨N, 0, none⟩), .slice (some ⟨N + 1, 0, none⟩) n n, .int .i64 k, .int .i64 (ws k)] w fun e w' => e = .returned (.tuple #[]) ∧
      ∃ qv' Q' A', PS w0 w' N ws (k + 1) n qv' Q' A' := by
  obtain ⟨i0, hi, hz0, hz1, hz2⟩ := info_parts info28
  have hc := h.cq
  have hq := h.q
  have hsz := h.size
  have HP : Hid (PS w0 w N ws k n qv Q A) := h
  clear h
  go_enter Yba.func18, Yba.ntmps18
  go_wp2_with (at_builtin; refine wpList_append_own _ rfl _ _ 24 rfl (N + 2) 28 i0 (.agg #[.int .i64 0, .int .i64 0]) 2 16 Yba.underlying24 hi hz0 hz1 hz2 rfl (by decide) _ _ _ rfl (hq.alloc _) ⟨w.heap.size, 0, none⟩ 1 1 [.int .i64 (ws k), .int .i64 (k : Int)] rfl rfl ?c1 ?c2 ?c3 ?c4 ?c5 ?_)
  case c1 =>
    intro j u hj
    match j, hj with
    | 0, hj => simp at hj; subst hj; simp [Addr.add]
    | 1, hj => simp at hj; subst hj; simp [Addr.add]
  case c2 => intro u hu; simp at hu; rcases hu with rfl | rfl <;> rfl
  case c3 => unfold maxLen; omega
  case c4 => omega
  case c5 => simp; omega
  intro v' w1 hown' hgrow _
  obtain ⟨g, cap, hv⟩ : ∃ g cap, v' = .slice (some ⟨g, 0, none⟩) (k + 1) cap := by
    rcases hown'.2 with ⟨_, h0⟩ | ⟨g, cap, _, hv, _⟩
    · omega
    · exact ⟨g, cap, hv⟩
  rw [hv]
  rw [hv] at hown'
  obtain ⟨c1, f1, a1, b1, s1⟩ := HP.out.appended hgrow
  have fA := a1.frozenAt k
  have cA := a1.cellAt k (by omega)
  rw [nums_at A k (by rw [HP.out.inv.lenA]; exact hkn)] at cA
  have e2 : flat Q ++ [Value.int .i64 (ws k), Value.int .i64 (k : Int)] = flat (Q ++ [(ws k, k)]) := (flat_snoc Q (ws k) k).symm
  rw [e2] at hown'
  have HB : Hid (Below N w0 w1 ∧ N + 2 ≤ g) := ⟨b1, (hown'.lt g rfl).1⟩
  have HI : Hid (Heap.HInv ws (k + 1) n (Q ++ [(ws k, k)]) (A.set k k)) := HP.out.inv.push hkn
  have HU : Hid (Heap.HeapBut (Q ++ [(ws k, k)]) k) := by have := HP.out.heap.push (ws k) k; rw [HP.out.inv.lenQ] at this; exact this
  have HQ : Hid (QS ((w1.setCell ⟨N, 0, none⟩ (.slice (some ⟨g, 0, none⟩) (k + 1) cap)).setCell ⟨N + 1, k, none⟩ (.int .i64 (k : Int))).drew (N + 2) g cap (N + 1) n (Q ++ [(ws k, k)]) (A.set k k)) :=
    (PS.stored hown' a1 (by simp [HP.out.inv.lenQ]) _ k).drew
  clear hown' hgrow a1 b1 hv e2 hc hq hsz
  go_wp2
  go_region_with (go_at_call 20; refine (up_any (ws := ws) (k := k + 1) (N + 2) g cap (N + 1) n (Q ++ [(ws k, k)]) (A.set k k) k _ HQ.out HI.out HU.out (by omega)).mono ?_; rintro e w' ⟨r, rfl, Q', A', hq', hi', hh', hs'⟩)
  all_goals (go_end0; exact ⟨rfl, _, Q', A', PS.upped rfl HB.out.1 s1 HB.out.2 ⟨_, c1⟩ f1 hq' hi' hh' hs'⟩)
end Go.Proofs.Ybulkkoo
