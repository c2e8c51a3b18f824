/-
  THE WALK OF LawS0560AHeap (function 3).
-/
import Derived.Test.YbulkkooHeapBuild
namespace Go.Proofs.Ybulkkoo
open Go.RowKit

theorem Below.drewN {B : Nat} {a w : World} (h : Below B a w) (m : Nat) : Below B a (w.drewN m) := ⟨h.os, h.tape, h.output, h.size, h.block⟩

set_option maxHeartbeats 400000 in
theorem lawHeap_long (a : Option Addr) (n cap : Nat) (w : World) (h : 1024 < n) :
    Calls Yba.prog 3 #[.slice a n cap] w fun e w' => e = .returned (.bool true) ∧ Below w.heap.size w w' := by
  have hl : (1024 : Int) < (n : Int) := by omega
  go_enter Yba.func3, Yba.ntmps3
  go_wp2
  go_ret
  exact ⟨rfl, Below.refl _ _⟩

set_option maxHeartbeats 400000 in
theorem lawHeap_empty (a : Option Addr) (cap : Nat) (w : World) :
    Calls Yba.prog 3 #[.slice a 0 cap] w fun e w' => e = .returned (.bool true) ∧ Below w.heap.size w w' := by
  go_enter Yba.func3, Yba.ntmps3
  go_wp2_with (go_at_call 10; refine (build_empty _ _ _).mono ?_; rintro e w1 ⟨rfl, hb1⟩)
  go_loop [6] (fun i => i = .int .i64 0) (fun _ => 0)
  case atStart => rfl
  case round =>
    subst hrel
    go_wp2
    go_loop [8] (fun i => i = .int .i64 1) (fun _ => 0)
    case atStart => rfl
    case round =>
      subst hrel
      go_wp2
      go_ret
      exact ⟨rfl, hb1⟩

set_option maxHeartbeats 800000 in
theorem lawHeap_any (ws : Nat → Int) (b off n cap : Nat) (w : World) (hn0 : 0 < n) (hn : n ≤ 1024) (hb : b < w.heap.size) (hc : ∀ j, j < n → w.cell? ⟨b, off + j, none⟩ = some (.int .i64 (ws j))) :
    Calls Yba.prog 3 #[.slice (some ⟨b, off, none⟩) n cap] w fun e w' => e = .returned (.bool true) ∧ Below w.heap.size w w' := by
  have hl : ¬ (1024 : Int) < (n : Int) := by omega
  have HC : Hid (∀ j, j < n → w.cell? ⟨b, off + j, none⟩ = some (.int .i64 (ws j))) := hc
  clear hc
  go_enter Yba.func3, Yba.ntmps3
  go_wp2_with fail
  refine (build_any ws b off n cap _ hn hb HC.out).mono ?_
  rintro e w1 ⟨qv, Q, A, rfl, hps⟩
  obtain ⟨g, qc, rfl, hqs⟩ := hps.slice hn0
  have HP : Hid (PS w w1 w.heap.size ws n n (.slice (some ⟨g, 0, none⟩) n qc) Q A) := hps
  have HQ : Hid (QS w1 (w.heap.size + 2) g qc (w.heap.size + 1) n Q A) := hqs
  clear hps hqs
  go_wp2
  go_loopw [6] (fun i wr => ∃ (k m : Nat), i = .int .i64 k ∧ k ≤ n ∧ wr = w1.drewN m) (fun i _ => n - (intOf i).toNat)
  case atStart => exact ⟨0, 0, rfl, Nat.zero_le _, rfl⟩
  case round =>
    obtain ⟨k, m, rfl, hk, rfl⟩ := hrel
    by_cases hlt : k < n
    · have c0 : w1.cell? ⟨b, off + k, none⟩ = some (.int .i64 (ws k)) := (HP.out.below.cell (p := ⟨b, off + k, none⟩) hb).trans (HC.out k hlt)
      have hi := HP.out.inv
      obtain ⟨p, hp⟩ : ∃ p, p = Heap.pl A k := ⟨_, rfl⟩
      have hpn : p < n := by rw [hp]; exact hi.plLt k hlt
      have c1 : w1.cell? ⟨w.heap.size + 1, k, none⟩ = some (.int .i64 (p : Int)) := by rw [hp]; exact HQ.out.cellA hlt
      have c2 := HQ.out.cells (j := p) (by rw [hi.lenQ]; exact hpn)
      have e2 : Heap.ix Q p = k := by rw [hp]; exact hi.place k hlt
      have e3 : Heap.wo Q p = ws k := by rw [hi.worth p hpn, e2]
      rw [e2, e3] at c2
      obtain ⟨c2, c3⟩ := c2
      clear e2 e3 hi hp
      go_wp2
      go_quiet (fail)
      go_wp2
      go_roundw
      case rel => exact ⟨k + 1, _, by go_num, by omega, rfl⟩
      case measure => simp [intOf]; omega
    · go_wp2
      go_loopw [8] (fun i wr => ∃ (j m : Nat), i = .int .i64 j ∧ 1 ≤ j ∧ j ≤ n ∧ wr = w1.drewN m) (fun i _ => n - (intOf i).toNat)
      case atStart => exact ⟨1, m, rfl, Nat.le_refl _, hn0, rfl⟩
      case round =>
        obtain ⟨j, m', rfl, hj1, hjn, rfl⟩ := hrel
        by_cases hlt : j < n
        · have hi := HP.out.inv
          have c1 := (HQ.out.cells (j := j) (by rw [hi.lenQ]; exact hlt)).1
          have c2 := (HQ.out.cells (j := (j - 1) / 2) (by rw [hi.lenQ]; omega)).1
          have ht : ¬ Heap.wo Q j < Heap.wo Q ((j - 1) / 2) := by
            have := HP.out.heap j hj1 (by rw [hi.lenQ]; exact hlt)
            omega
          clear hi
          go_wp2
          go_quiet (fail)
          go_wp2
          go_roundw
          case rel => exact ⟨j + 1, _, by go_num, by omega, by omega, rfl⟩
          case measure => simp [intOf]; omega
        · go_wp2
          go_ret
          exact ⟨rfl, Below.drewN HP.out.below _⟩
end Go.Proofs.Ybulkkoo
