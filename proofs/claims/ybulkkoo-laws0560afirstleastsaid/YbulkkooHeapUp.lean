/-
  THE WALK OF worthQueue.up (function 20): it sifts entry j up; behind it the queue is in order, each index at its place.
-/
import Derived.Test.YbulkkooHeapSwap
namespace Go.Proofs.Ybulkkoo
open Go.RowKit

theorem heap_drewN (w : World) (nq : Nat) : (w.drewN nq).heap = w.heap ∧ (w.drewN nq).os = w.os ∧ (w.drewN nq).tape = w.tape ∧ (w.drewN nq).output = w.output := by
  exact ⟨rfl, rfl, rfl, rfl⟩

/-- 'swap' as 'up' calls it. -/
theorem swap_k {ws : Nat → Int} {k : Nat} (base g cap a n : Nat) (Q : List (Int × Nat)) (A : List Nat) (j l : Nat) (li : Int) (w : World) (h : QS w base g cap a n Q A) (hi : Heap.HInv ws k n Q A) (hj : j < k) (hl : l < j) (hli : li = (l : Int)) :
    Calls Yba.prog 21 #[.slice (some ⟨g, 0, none⟩) k cap, .slice (some ⟨a, 0, none⟩) n n, .int .i64 j, .int .i64 li] w fun e w' => e = .returned (.tuple #[]) ∧
      QS w' base g cap a n (Heap.swapQ Q j l) (Heap.swapA Q A j l) ∧ Still2 w w' g a := by
  have e := hi.lenQ
  subst hli
  have h1 := swap_any base g cap a n Q A j l w h hi hj hl
  rw [e] at h1
  exact h1

theorem QS.drewN {w : World} {base g cap a n : Nat} {Q : List (Int × Nat)} {A : List Nat} (h : QS w base g cap a n Q A) (nq : Nat) : QS (w.drewN nq) base g cap a n Q A := by
  have e := (heap_drewN w nq).1
  refine ⟨?_, ?_, h.ne⟩
  · have := h.q; unfold World.ownsRow at this ⊢; rw [e]; exact this
  · have := h.at'; unfold World.ownsRow at this ⊢; rw [e]; exact this
theorem Still2.drewN {w w' : World} {g a : Nat} (h : Still2 w w' g a) (nq : Nat) : Still2 w (w'.drewN nq) g a := by
  obtain ⟨e1, e2, e3, e4⟩ := heap_drewN w' nq
  exact ⟨e2.trans h.os, e3.trans h.tape, e4.trans h.output, by rw [e1]; exact h.size, by rw [e1]; exact h.block⟩

set_option maxHeartbeats 400000 in
theorem up_any {ws : Nat → Int} {k : Nat} (base g cap a n : Nat) (Q : List (Int × Nat)) (A : List Nat) (j : Nat) (w : World) (h : QS w base g cap a n Q A) (hi : Heap.HInv ws k n Q A) (hb : Heap.HeapBut Q j) (hj : j < k) :
    Calls Yba.prog 20 #[.slice (some ⟨g, 0, none⟩) k cap, .slice (some ⟨a, 0, none⟩) n n, .int .i64 j] w fun e w' => ∃ r : Int, e = .returned (.int .i64 r) ∧
      ∃ Q' A', QS w' base g cap a n Q' A' ∧ Heap.HInv ws k n Q' A' ∧ Heap.HeapAll Q' ∧ Still2 w w' g a := by
  have hlen := h.len
  unfold maxLen at hlen
  have hkl : k ≤ 9223372036854775807 := by have := hi.lenQ; omega
  have hnl : n ≤ 9223372036854775807 := hlen.2
  clear hlen
  have HS : Hid (QS w base g cap a n Q A ∧ Heap.HInv ws k n Q A ∧ Heap.HeapBut Q j) := ⟨h, hi, hb⟩
  clear h hi hb
  go_enter Yba.func20, Yba.ntmps20
  go_wp2
  go_loopw [2] (fun i wr => ∃ (j' : Nat) (Q' : List (Int × Nat)) (A' : List Nat), i = .int .i64 j' ∧ j' < k ∧ Hid (QS wr base g cap a n Q' A' ∧ Heap.HInv ws k n Q' A' ∧ Heap.HeapBut Q' j' ∧ Still2 w wr g a)) (fun i _ => (intOf i).toNat)
  case atStart => exact ⟨j, Q, A, rfl, hj, ⟨HS.out.1, HS.out.2.1, HS.out.2.2, Still2.refl _ _ _⟩⟩
  case round =>
    obtain ⟨j', Q', A', rfl, hj', HR⟩ := hrel
    by_cases h0 : 0 < j'
    · have hi := HR.out.2.1
      have hQ := hi.lenQ
      have hl : (j' - 1) / 2 < j' := by omega
      have c1 := (HR.out.1.cells (j := j') (by omega)).1
      have c2 := (HR.out.1.cells (j := (j' - 1) / 2) (by omega)).1
      clear hi hQ
      by_cases hlt : Heap.wo Q' j' < Heap.wo Q' ((j' - 1) / 2)
      · have hd : (0 : Int) < (j' : Int) := by omega
        go_wp2
        go_quiet (fail)
        go_wp2_with fail
        refine (swap_k base g cap a n Q' A' j' ((j' - 1) / 2) (((j' : Int) - 1) / 2) _ (HR.out.1.drewN nq) HR.out.2.1 hj' hl (by omega)).mono ?_
        rintro e w1 ⟨rfl, hq1, hs1⟩
        have HR1 : Hid (QS w1 base g cap a n (Heap.swapQ Q' j' ((j' - 1) / 2)) (Heap.swapA Q' A' j' ((j' - 1) / 2)) ∧ Heap.HInv ws k n (Heap.swapQ Q' j' ((j' - 1) / 2)) (Heap.swapA Q' A' j' ((j' - 1) / 2)) ∧ Heap.HeapBut (Heap.swapQ Q' j' ((j' - 1) / 2)) ((j' - 1) / 2) ∧ Still2 w w1 g a) :=
          ⟨hq1, HR.out.2.1.swap hj' (by omega) (by omega), HR.out.2.2.1.swap (by rw [HR.out.2.1.lenQ]; exact hj') h0 hlt, (HR.out.2.2.2.drewN nq).trans hs1⟩
        clear hq1 hs1 c1 c2
        go_wp2
        go_roundw
        case rel => exact ⟨(j' - 1) / 2, _, _, by go_num, by omega, HR1⟩
        case measure => simp [intOf]; omega
      · have hd : (0 : Int) < (j' : Int) := by omega
        go_wp2
        go_quiet (fail)
        go_wp2
        go_ret
        exact ⟨_, rfl, Q', A', HR.out.1.drewN nq, HR.out.2.1, HR.out.2.2.1.done (.inr (by omega)), HR.out.2.2.2.drewN nq⟩
    · have hd : decide (0 < j') = false := by simp; omega
      have HZ : Hid (j' = 0) := show j' = 0 by omega
      clear h0
      go_wp2
      go_quiet (fail)
      go_wp2
      go_ret
      exact ⟨_, rfl, Q', A', HR.out.1.drewN nq, HR.out.2.1, HR.out.2.2.1.done (.inl HZ.out), HR.out.2.2.2.drewN nq⟩
end Go.Proofs.Ybulkkoo
