/-
  THE WALK OF LawS0560AFirstLeast (function 4).
-/
import Derived.Test.YbulkkooHeapBuild
namespace Go.Proofs.Ybulkkoo
open Go.RowKit

/-- m is the least of the first k worths. -/
def LeastOf (ws : Nat → Int) (k : Nat) (m : Int) : Prop := (∃ i, i < k ∧ ws i = m) ∧ ∀ i, i < k → m ≤ ws i

theorem LeastOf.one (ws : Nat → Int) : LeastOf ws 1 (ws 0) :=
  ⟨⟨0, by omega, rfl⟩, fun i hi => by
    have e : i = 0 := by omega
    rw [e]
    exact Int.le_refl _⟩
theorem LeastOf.lower {ws : Nat → Int} {k : Nat} {m : Int} (h : LeastOf ws k m) (hl : ws k < m) : LeastOf ws (k + 1) (ws k) :=
  ⟨⟨k, by omega, rfl⟩, fun i hi => by
    by_cases e : i = k
    · rw [e]; exact Int.le_refl _
    · have := h.2 i (by omega); omega⟩
theorem LeastOf.stay {ws : Nat → Int} {k : Nat} {m : Int} (h : LeastOf ws k m) (hl : ¬ ws k < m) : LeastOf ws (k + 1) m :=
  ⟨by obtain ⟨i, hi, e⟩ := h.1; exact ⟨i, by omega, e⟩, fun i hi => by
    by_cases e : i = k
    · rw [e]; omega
    · exact h.2 i (by omega)⟩

/-- The queue's first entry is of the least worth. -/
theorem least_first {ws : Nat → Int} {n : Nat} {m : Int} {Q : List (Int × Nat)} {A : List Nat} (hi : Heap.HInv ws n n Q A) (hh : Heap.HeapAll Q) (hn : 0 < n) (hm : LeastOf ws n m) : Heap.wo Q 0 = m := by
  have h1 := hi.worth 0 hn
  have h2 := hm.2 (Heap.ix Q 0) (hi.ixLt 0 hn)
  obtain ⟨i, hin, e⟩ := hm.1
  have hp := hi.plLt i hin
  have h3 := hi.worth _ hp
  rw [hi.place i hin, e] at h3
  have h4 := hh.least n (Heap.pl A i) hp (by rw [hi.lenQ]; exact hp)
  omega

set_option maxHeartbeats 400000 in
theorem lawFirst_long (a : Option Addr) (n cap : Nat) (w : World) (h : 1024 < n) :
    Calls Yba.prog 4 #[.slice a n cap] w fun e w' => e = .returned (.bool true) ∧ Below w.heap.size w w' := by
  have hl : (1024 : Int) < (n : Int) := by omega
  go_enter Yba.func4, Yba.ntmps4
  go_wp2
  go_ret
  exact ⟨rfl, Below.refl _ _⟩

set_option maxHeartbeats 400000 in
theorem lawFirst_empty (a : Option Addr) (cap : Nat) (w : World) :
    Calls Yba.prog 4 #[.slice a 0 cap] w fun e w' => e = .returned (.bool true) ∧ Below w.heap.size w w' := by
  go_enter Yba.func4, Yba.ntmps4
  go_wp2
  go_ret
  exact ⟨rfl, Below.refl _ _⟩

set_option maxHeartbeats 800000 in
theorem lawFirst_any (ws : Nat → Int) (b off n cap : Nat) (w : World) (hn0 : 0 < n) (hn : n ≤ 1024) (hb : b < w.heap.size) (hc : ∀ j, j < n → w.cell? ⟨b, off + j, none⟩ = some (.int .i64 (ws j))) :
    Calls Yba.prog 4 #[.slice (some ⟨b, off, none⟩) n cap] w fun e w' => e = .returned (.bool true) ∧ Below w.heap.size w w' := by
  have hl : ¬ (1024 : Int) < (n : Int) := by omega
  have hz : ((n : Int) == 0) = false := by simp; omega
  have HC : Hid (∀ j, j < n → w.cell? ⟨b, off + j, none⟩ = some (.int .i64 (ws j))) := hc
  clear hc
  go_enter Yba.func4, Yba.ntmps4
  go_wp2_with fail
  refine (build_any ws b off n cap _ hn hb HC.out).mono ?_
  rintro e w1 ⟨qv, Q, A, rfl, hps⟩
  obtain ⟨g, qc, rfl, hqs⟩ := hps.slice hn0
  have HP : Hid (PS w w1 w.heap.size ws n n (.slice (some ⟨g, 0, none⟩) n qc) Q A) := hps
  have HQ : Hid (QS w1 (w.heap.size + 2) g qc (w.heap.size + 1) n Q A) := hqs
  clear hps hqs
  have HW : Hid (∀ j, j < n → w1.cell? ⟨b, off + j, none⟩ = some (.int .i64 (ws j))) := fun j hj => (HP.out.below.cell (p := ⟨b, off + j, none⟩) hb).trans (HC.out j hj)
  have c0 : w1.cell? ⟨b, off, none⟩ = some (.int .i64 (ws 0)) := HW.out 0 hn0
  go_wp2
  go_loop [6, 7] (fun l i => ∃ (k : Nat) (m : Int), i = .int .i64 k ∧ l = .int .i64 m ∧ 1 ≤ k ∧ k ≤ n ∧ Hid (LeastOf ws k m)) (fun _ i => n - (intOf i).toNat)
  case atStart => exact ⟨1, ws 0, rfl, rfl, Nat.le_refl _, hn0, LeastOf.one ws⟩
  case round =>
    obtain ⟨k, m, rfl, rfl, hk1, hk, HM⟩ := hrel
    by_cases hlt : k < n
    · have ck := HW.out k hlt
      by_cases hl : ws k < m
      · go_wp2
        go_round
        case rel => exact ⟨k + 1, ws k, by go_num, rfl, by omega, by omega, HM.out.lower hl⟩
        case measure => simp [intOf]; omega
      · go_wp2
        go_round
        case rel => exact ⟨k + 1, m, by go_num, rfl, by omega, by omega, HM.out.stay hl⟩
        case measure => simp [intOf]; omega
    · obtain rfl : k = n := by omega
      have hi := HP.out.inv
      have c1 := HQ.out.cells (j := 0) (by rw [hi.lenQ]; exact hn0)
      rw [least_first hi HP.out.heap hn0 HM.out] at c1
      obtain ⟨c1, c2⟩ := c1
      obtain ⟨f, hf⟩ : ∃ f, f = Heap.ix Q 0 := ⟨_, rfl⟩
      have hfn : f < k := by rw [hf]; exact hi.ixLt 0 hn0
      rw [← hf] at c2
      have c3 := HQ.out.cellA hfn
      rw [hf, hi.back 0 hn0, ← hf] at c3
      simp only [Nat.zero_mul, Nat.zero_add] at c1 c2
      clear hf hi
      go_wp2
      go_ret
      exact ⟨rfl, HP.out.below⟩
end Go.Proofs.Ybulkkoo
