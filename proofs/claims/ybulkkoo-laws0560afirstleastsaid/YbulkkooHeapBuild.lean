/-
  THE WALK OF zzs0560abuild (function 10): the pushes one behind the other.
-/
import Derived.Test.YbulkkooHeapPush
namespace Go.Proofs.Ybulkkoo
open Go.RowKit

theorem info3 : (Yba.prog.info? 3).map (fun i => (i.zero, i.size, i.bytes)) = some (some (.int .i64 0), 1, 8) := by kernel_rfl

theorem PS.made {w w1 : World} (ws : Nat → Int) {n : Nat} (hA : w1.ownsRow 0 3 1 (.slice (some ⟨w.heap.size + 1, 0, none⟩) n n) n (madeCells #[.int .i64 0] n).toList)
    (hgrow : (w.alloc (.cells #[.slice none 0 0] 24)).grownBy w1 none) : PS w w1 w.heap.size ws 0 n (.slice none 0 0) [] (List.replicate n 0) := by
  have hs := (hA.lt (w.heap.size + 1) rfl).2
  have hb : w1.heap[w.heap.size]? = (w.alloc (.cells #[.slice none 0 0] 24)).heap[w.heap.size]? := hgrow.block _ (by simp) (by simp)
  refine ⟨?_, ?_, World.ownsRow_nil _ _ _ _, ?_, Heap.HInv.empty ws n, Heap.HeapAll.empty, hs, ?_⟩
  · rw [World.cell?_of_block (a := ⟨w.heap.size, 0, none⟩) hb]; simp
  · rw [World.frozen?_of_block (a := ⟨w.heap.size, 0, none⟩) hb]; simp
  · rw [toList_madeCells_one] at hA; rw [nums_zero]; exact hA
  · exact ((Below.refl _ w).alloc (Nat.le_refl _) _).grown hgrow (by simp) (by simp)

/-- Where something has been pushed, the queue is a slice with an address. -/
theorem PS.slice {w0 w : World} {N k n : Nat} {ws : Nat → Int} {qv : Value} {Q : List (Int × Nat)} {A : List Nat} (h : PS w0 w N ws k n qv Q A) (hk : 0 < k) :
    ∃ g cap, qv = .slice (some ⟨g, 0, none⟩) k cap ∧ QS w (N + 2) g cap (N + 1) n Q A := by
  rcases h.q.2 with ⟨_, h0⟩ | ⟨g, cap, _, hv, hg, _⟩
  · omega
  · refine ⟨g, cap, hv, ?_, h.at', by omega⟩
    have := h.q
    rw [hv] at this
    rw [h.inv.lenQ]
    exact this

set_option maxHeartbeats 400000 in
theorem build_any (ws : Nat → Int) (b off n cap : Nat) (w : World) (hn : n ≤ 1024) (hb : b < w.heap.size) (hc : ∀ j, j < n → w.cell? ⟨b, off + j, none⟩ = some (.int .i64 (ws j))) :
    Calls Yba.prog 10 #[.slice (some ⟨b, off, none⟩) n cap] w fun e w' => ∃ qv Q A, e = .returned (.tuple #[qv, .slice (some ⟨w.heap.size + 1, 0, none⟩) n n]) ∧ PS w w' w.heap.size ws n n qv Q A := by
  obtain ⟨i0, hi, hz0, hz1, hz2⟩ := info_parts info3
  have HC : Hid (∀ j, j < n → w.cell? ⟨b, off + j, none⟩ = some (.int .i64 (ws j))) := hc
  clear hc
  go_enter Yba.func10, Yba.ntmps10
  go_wp2_with (at_make; refine wpList_make_full _ rfl _ _ 22 rfl 0 3 i0 (.int .i64 0) 1 Yba.underlying22 hi hz0 hz1 .i64 .i64 _ _ n rfl rfl rfl rfl ?c1 ?c2 ?c3 ?_)
  case c1 => rw [hz2]; omega
  case c2 => unfold maxLen; omega
  case c3 => exact Nat.zero_le _
  intro w1 hA hgrow
  have HP : Hid (PS w w1 w.heap.size ws 0 n (.slice none 0 0) [] (List.replicate n 0)) := PS.made ws hA hgrow
  clear hA hgrow hi hz0 hz1 hz2 i0
  go_wp2
  go_loopw [7] (fun i wr => ∃ (k : Nat) (qv : Value) (Q : List (Int × Nat)) (A : List Nat), i = .int .i64 k ∧ k ≤ n ∧ Hid (PS w wr w.heap.size ws k n qv Q A)) (fun i _ => n - (intOf i).toNat)
  case atStart => exact ⟨0, _, _, _, rfl, Nat.zero_le _, HP⟩
  case round =>
    obtain ⟨k, qv, Q, A, rfl, hk, HR⟩ := hrel
    by_cases hlt : k < n
    · have hcell : wr.cell? ⟨b, off + k, none⟩ = some (.int .i64 (ws k)) := (HR.out.below.cell (p := ⟨b, off + k, none⟩) hb).trans (HC.out k hlt)
      go_wp2_with (go_at_call 18; refine (push_any (ws := ws) w w.heap.size k n qv Q A _ HR.out hlt hn).mono ?_; rintro e w2 ⟨rfl, qv', Q', A', HR'⟩)
      have HR2 : Hid (PS w w2 w.heap.size ws (k + 1) n qv' Q' A') := HR'
      clear HR'
      try go_wp2
      go_roundw
      case rel => exact ⟨k + 1, qv', Q', A', by go_num, by omega, HR2⟩
      case measure => simp [intOf]; omega
    · obtain rfl : k = n := by omega
      have hcq := HR.out.cq
      go_wp2
      go_ret2
      exact ⟨qv, Q, A, rfl, HR.out⟩

set_option maxHeartbeats 400000 in
theorem build_empty (a : Option Addr) (cap : Nat) (w : World) :
    Calls Yba.prog 10 #[.slice a 0 cap] w fun e w' => e = .returned (.tuple #[.slice none 0 0, .slice (some ⟨w.heap.size + 1, 0, none⟩) 0 0]) ∧ Below w.heap.size w w' := by
  obtain ⟨i0, hi, hz0, hz1, hz2⟩ := info_parts info3
  go_enter Yba.func10, Yba.ntmps10
  go_wp2_with (at_make; refine wpList_make_full _ rfl _ _ 22 rfl 0 3 i0 (.int .i64 0) 1 Yba.underlying22 hi hz0 hz1 .i64 .i64 _ _ 0 rfl rfl rfl rfl ?c1 ?c2 ?c3 ?_)
  case c1 => rw [hz2]; omega
  case c2 => unfold maxLen; omega
  case c3 => exact Nat.zero_le _
  intro w1 hA hgrow
  have HP : Hid (PS w w1 w.heap.size (fun _ => 0) 0 0 (.slice none 0 0) [] (List.replicate 0 0)) := PS.made _ hA hgrow
  have hcq := HP.out.cq
  clear hA hgrow hi hz0 hz1 hz2 i0
  go_wp2
  go_loop [7] (fun i => i = .int .i64 0) (fun _ => 0)
  case atStart => rfl
  case round =>
    subst hrel
    go_wp2
    go_ret2
    exact ⟨rfl, HP.out.below⟩
end Go.Proofs.Ybulkkoo
