/-
  THE WALKS BELOW LawS0580AOneRelease: the atomic word's Store, Load, CompareAndSwap; the atomic pointer's Load; RUnlock where no hand-over is called for.
-/
import Derived.Test.YbulkkziRows
import Derived.WalkKit
import Derived.WalkSpells
import Derived.ProofKit
import Derived.Below
import Derived.Laws.LoneSync
namespace Go.Proofs.Ybulkkzi
open Go.RowKit

/-- sync/atomic.LoadPointer: what the cell holds. -/
theorem run_call_loadPtr {P : Program} {f : FuncId} {fn : Func} (hf : P.funcs[f]? = some fn) (hname : (fn.name == "runtime.NumGoroutine") = false) (hb : fn.body.isNone = true) (hn : Extern.findNext fn = none)
    (he : Extern.find fn = some (Extern.Atomic.loadT .ptr)) {a : Addr} {x : Option Addr} {w : World} (hc : w.cell? a = some (.pointer x)) :
    (callFunc f #[.pointer (some a)]).run P w = .ok (.value (.pointer x)) w := by
  rw [run_callFunc_extern hf hname hb hn he]
  change (Sem.run P (do Extern.Atomic.read .ptr (← asAddr (.pointer (some a)))) w).andThen _ = _
  simp [Extern.Atomic.read, asAddr, hc, Result.andThen]

set_option maxHeartbeats 400000 in
theorem store_any (g : Nat) (x y : Int) (w : World) (hc : w.cell? ⟨g, 0, none⟩ = some (.int .u64 x)) (hf : w.frozen? ⟨g, 0, none⟩ = false) :
    Calls Yba.prog 5 #[.pointer (some ⟨g, 0, none⟩), .int .u64 y] w fun e w' => e = .returned (.tuple #[]) ∧ w' = w.setCell ⟨g, 0, none⟩ (.int .u64 y) := by
  have hst := run_call_store (P := Yba.prog) Yba.func9 (by kernel_rfl) (by kernel_rfl) (by kernel_rfl) (by kernel_rfl) (k := .u64) (y := y) hc hf
  go_enter Yba.func5, Yba.ntmps5
  go_wp2
  go_end0
  exact ⟨rfl, rfl⟩

set_option maxHeartbeats 400000 in
theorem load_any (g : Nat) (x : Int) (w : World) (hc : w.cell? ⟨g, 0, none⟩ = some (.int .u64 x)) :
    Calls Yba.prog 7 #[.pointer (some ⟨g, 0, none⟩)] w fun e w' => e = .returned (.int .u64 x) ∧ w' = w := by
  have hl := run_call_load (P := Yba.prog) Yba.func21 (by kernel_rfl) (by kernel_rfl) (by kernel_rfl) .u64 (by kernel_rfl) hc
  go_enter Yba.func7, Yba.ntmps7
  go_wp2
  go_ret
  exact ⟨rfl, rfl⟩

set_option maxHeartbeats 400000 in
theorem cas_any (g : Nat) (x y : Int) (w : World) (hc : w.cell? ⟨g, 0, none⟩ = some (.int .u64 x)) (hf : w.frozen? ⟨g, 0, none⟩ = false) :
    Calls Yba.prog 12 #[.pointer (some ⟨g, 0, none⟩), .int .u64 x, .int .u64 y] w fun e w' => e = .returned (.bool true) ∧ w' = w.setCell ⟨g, 0, none⟩ (.int .u64 y) := by
  have hcas := run_call_cas_hit (P := Yba.prog) Yba.func22 (by kernel_rfl) (by kernel_rfl) (by kernel_rfl) .u64 (by kernel_rfl) (y := y) hc hf
  go_enter Yba.func12, Yba.ntmps12
  go_wp2
  go_ret
  exact ⟨rfl, rfl⟩

set_option maxHeartbeats 400000 in
theorem loadPtr_nil (g : Nat) (w : World) (hc : w.cell? ⟨g, 1, none⟩ = some (.pointer none)) :
    Calls Yba.prog 8 #[.pointer (some ⟨g, 1, none⟩)] w fun e w' => e = .returned (.pointer none) ∧ w' = w := by
  have hl := run_call_loadPtr (P := Yba.prog) Yba.func15 (by kernel_rfl) (by kernel_rfl) (by kernel_rfl) (by kernel_rfl) hc
  have hcv : ∀ w : World, (convert 33 31 (.pointer none)).run Yba.prog w = .ok (.pointer none) w := fun _ => by kernel_rfl
  go_enter Yba.func8, Yba.ntmps8
  go_wp2
  go_ret
  exact ⟨rfl, rfl⟩

set_option maxHeartbeats 400000 in
theorem readers_any (s : Int) (w : World) :
    Calls Yba.prog 4 #[.int .u64 s] w fun e w' => e = .returned (.int .u64 (s / 8)) ∧ w' = w := by
  go_enter Yba.func4, Yba.ntmps4
  go_wp2
  go_ret
  exact ⟨rfl, rfl⟩

set_option maxHeartbeats 800000 in
theorem runlock_many (g : Nat) (s : Int) (w : World) (h0 : 16 ≤ s) (h1 : s ≤ 18446744073709551615) (hc : w.cell? ⟨g, 0, none⟩ = some (.int .u64 s)) (hf : w.frozen? ⟨g, 0, none⟩ = false) :
    Calls Yba.prog 6 #[.pointer (some ⟨g, 0, none⟩)] w fun e w' => e = .returned (.tuple #[]) ∧ w' = w.setCell ⟨g, 0, none⟩ (.int .u64 (s - 8)) := by
  have t0 : (s / 8 == 0) = false := by simp; omega
  have t1 : (s / 8 == 1) = false := by simp; omega
  go_enter Yba.func6, Yba.ntmps6
  go_wp2
  go_loopw [3] (fun _ wr => wr = w) (fun _ _ => 0)
  case atStart => rfl
  case round =>
    obtain rfl := hrel.symm
    clear hrel
    go_wp2_with (first | (go_at_call 7; refine (load_any g s _ hc).mono ?_; rintro e w' ⟨rfl, hw⟩; obtain rfl := hw.symm) | (go_at_call 4; refine (readers_any s _).mono ?_; rintro e w' ⟨rfl, hw⟩; obtain rfl := hw.symm) | (go_at_call 12; refine (cas_any g s (s - 8) _ hc hf).mono ?_; rintro e w' ⟨rfl, hw⟩; obtain rfl := hw.symm))
    go_end0
    exact ⟨rfl, rfl⟩

set_option maxHeartbeats 800000 in
theorem runlock_one (g : Nat) (s : Int) (w : World) (h0 : 8 ≤ s) (h1 : s ≤ 15) (hand : bits BinOp.and IntKind.u64 s 2 = 0) (hc : w.cell? ⟨g, 0, none⟩ = some (.int .u64 s)) (hf : w.frozen? ⟨g, 0, none⟩ = false) :
    Calls Yba.prog 6 #[.pointer (some ⟨g, 0, none⟩)] w fun e w' => e = .returned (.tuple #[]) ∧ w' = w.setCell ⟨g, 0, none⟩ (.int .u64 (s - 8)) := by
  have t0 : (s / 8 == 0) = false := by simp; omega
  have t1 : (s / 8 == 1) = true := by simp; omega
  go_enter Yba.func6, Yba.ntmps6
  go_wp2
  go_loopw [3] (fun _ wr => wr = w) (fun _ _ => 0)
  case atStart => rfl
  case round =>
    obtain rfl := hrel.symm
    clear hrel
    go_wp2_with (first | (go_at_call 7; refine (load_any g s _ hc).mono ?_; rintro e w' ⟨rfl, hw⟩; obtain rfl := hw.symm) | (go_at_call 4; refine (readers_any s _).mono ?_; rintro e w' ⟨rfl, hw⟩; obtain rfl := hw.symm) | (go_at_call 12; refine (cas_any g s (s - 8) _ hc hf).mono ?_; rintro e w' ⟨rfl, hw⟩; obtain rfl := hw.symm))
    go_end0
    exact ⟨rfl, rfl⟩

/-- RUnlock, whichever of the two it is. -/
def Fits (s : Int) : Prop := (16 ≤ s ∧ s ≤ 18446744073709551615) ∨ (8 ≤ s ∧ s ≤ 15 ∧ bits BinOp.and IntKind.u64 s 2 = 0)
theorem Fits.bounds {s : Int} (h : Fits s) : 8 ≤ s ∧ s ≤ 18446744073709551615 := by
  rcases h with h | h <;> omega
theorem runlock_any (g : Nat) (s : Int) (w : World) (h : Fits s) (hc : w.cell? ⟨g, 0, none⟩ = some (.int .u64 s)) (hf : w.frozen? ⟨g, 0, none⟩ = false) :
    Calls Yba.prog 6 #[.pointer (some ⟨g, 0, none⟩)] w fun e w' => e = .returned (.tuple #[]) ∧ w' = w.setCell ⟨g, 0, none⟩ (.int .u64 (s - 8)) := by
  rcases h with ⟨h0, h1⟩ | ⟨h0, h1, h2⟩
  · exact runlock_many g s w h0 h1 hc hf
  · exact runlock_one g s w h0 h1 h2 hc hf

set_option maxHeartbeats 800000 in
theorem law_high (s2 : Int) (w : World) (h0 : 16 ≤ s2) (h1 : s2 ≤ 18446744073709551615) :
    Calls Yba.prog 3 #[.int .u64 s2] w fun e w' => e = .returned (.bool true) ∧ Grown w w' := by
  have t0 : (s2 / 8 == 0) = false := by simp; omega
  have t1 : (s2 / 8 == 1) = false := by simp; omega
  have HF : Hid (Fits s2) := .inl ⟨h0, h1⟩
  go_enter Yba.func3, Yba.ntmps3
  go_wp2_with (first | (go_at_call 4; refine (readers_any s2 _).mono ?_; rintro e w' ⟨rfl, hw⟩; obtain rfl := hw.symm))
  refine (store_any w.heap.size 0 s2 _ (by simp) (by simp)).mono ?_
  rintro e w1 ⟨rfl, hw1⟩
  subst hw1
  go_wp2_with fail
  refine (runlock_any w.heap.size s2 _ HF.out (by simp) (by simp)).mono ?_
  rintro e w1 ⟨rfl, hw1⟩
  subst hw1
  go_wp2_with fail
  refine (load_any w.heap.size (s2 - 8) _ (by simp)).mono ?_
  rintro e w1 ⟨rfl, hw1⟩
  subst hw1
  go_wp2_with fail
  refine (loadPtr_nil w.heap.size _ (by simp)).mono ?_
  rintro e w1 ⟨rfl, hw1⟩
  subst hw1
  go_wp2
  go_ret
  exact ⟨rfl, (Grown.refl w).alloc _ _⟩

set_option maxHeartbeats 800000 in
theorem law_mid (s s2 : Int) (w : World) (h0 : 8 ≤ s) (h1 : s ≤ 15) (g0 : 8 ≤ s2) (g1 : s2 ≤ 15) (hcl : bits BinOp.andNot IntKind.u64 s 2 = s2) (hand : bits BinOp.and IntKind.u64 s2 2 = 0) :
    Calls Yba.prog 3 #[.int .u64 s] w fun e w' => e = .returned (.bool true) ∧ Grown w w' := by
  have t0 : (s / 8 == 0) = false := by simp; omega
  have t1 : (s / 8 == 1) = true := by simp; omega
  have HF : Hid (Fits s2) := .inr ⟨g0, g1, hand⟩
  clear hand
  go_enter Yba.func3, Yba.ntmps3
  go_wp2_with (first | (go_at_call 4; refine (readers_any s _).mono ?_; rintro e w' ⟨rfl, hw⟩; obtain rfl := hw.symm))
  refine (store_any w.heap.size 0 s2 _ (by simp) (by simp)).mono ?_
  rintro e w1 ⟨rfl, hw1⟩
  subst hw1
  go_wp2_with fail
  refine (runlock_any w.heap.size s2 _ HF.out (by simp) (by simp)).mono ?_
  rintro e w1 ⟨rfl, hw1⟩
  subst hw1
  go_wp2_with fail
  refine (load_any w.heap.size (s2 - 8) _ (by simp)).mono ?_
  rintro e w1 ⟨rfl, hw1⟩
  subst hw1
  go_wp2_with fail
  refine (loadPtr_nil w.heap.size _ (by simp)).mono ?_
  rintro e w1 ⟨rfl, hw1⟩
  subst hw1
  go_wp2
  go_ret
  exact ⟨rfl, (Grown.refl w).alloc _ _⟩

set_option maxHeartbeats 800000 in
theorem law_low (s s1 s2 : Int) (w : World) (h0 : 0 ≤ s) (h1 : s ≤ 7) (k0 : 8 ≤ s1) (k1 : s1 ≤ 15) (g0 : 8 ≤ s2) (g1 : s2 ≤ 15) (hor : bits BinOp.or IntKind.u64 s 8 = s1) (hcl : bits BinOp.andNot IntKind.u64 s1 2 = s2) (hand : bits BinOp.and IntKind.u64 s2 2 = 0) :
    Calls Yba.prog 3 #[.int .u64 s] w fun e w' => e = .returned (.bool true) ∧ Grown w w' := by
  have t0 : (s / 8 == 0) = true := by simp; omega
  have t1 : (s1 / 8 == 1) = true := by simp; omega
  have HF : Hid (Fits s2) := .inr ⟨g0, g1, hand⟩
  clear hand
  go_enter Yba.func3, Yba.ntmps3
  go_wp2_with (first | (go_at_call 4; refine (readers_any _ _).mono ?_; rintro e w' ⟨rfl, hw⟩; obtain rfl := hw.symm))
  refine (store_any w.heap.size 0 s2 _ (by simp) (by simp)).mono ?_
  rintro e w1 ⟨rfl, hw1⟩
  subst hw1
  go_wp2_with fail
  refine (runlock_any w.heap.size s2 _ HF.out (by simp) (by simp)).mono ?_
  rintro e w1 ⟨rfl, hw1⟩
  subst hw1
  go_wp2_with fail
  refine (load_any w.heap.size (s2 - 8) _ (by simp)).mono ?_
  rintro e w1 ⟨rfl, hw1⟩
  subst hw1
  go_wp2_with fail
  refine (loadPtr_nil w.heap.size _ (by simp)).mono ?_
  rintro e w1 ⟨rfl, hw1⟩
  subst hw1
  go_wp2
  go_ret
  exact ⟨rfl, (Grown.refl w).alloc _ _⟩

/-- Every word: sixteen small ones, each reckoned; the rest. -/
theorem law_any (s : Int) (w : World) (h0 : 0 ≤ s) (h1 : s ≤ 18446744073709551615) :
    Calls Yba.prog 3 #[.int .u64 s] w fun e w' => e = .returned (.bool true) ∧ Grown w w' := by
  by_cases hh : 16 ≤ s
  · exact law_high s w hh h1
  · have hs : s = 0 ∨ s = 1 ∨ s = 2 ∨ s = 3 ∨ s = 4 ∨ s = 5 ∨ s = 6 ∨ s = 7 ∨ s = 8 ∨ s = 9 ∨ s = 10 ∨ s = 11 ∨ s = 12 ∨ s = 13 ∨ s = 14 ∨ s = 15 := by omega
    rcases hs with rfl | rfl | rfl | rfl | rfl | rfl | rfl | rfl | rfl | rfl | rfl | rfl | rfl | rfl | rfl | rfl
    · exact law_low 0 8 8 w (by omega) (by omega) (by omega) (by omega) (by omega) (by omega) (by decide) (by decide) (by decide)
    · exact law_low 1 9 9 w (by omega) (by omega) (by omega) (by omega) (by omega) (by omega) (by decide) (by decide) (by decide)
    · exact law_low 2 10 8 w (by omega) (by omega) (by omega) (by omega) (by omega) (by omega) (by decide) (by decide) (by decide)
    · exact law_low 3 11 9 w (by omega) (by omega) (by omega) (by omega) (by omega) (by omega) (by decide) (by decide) (by decide)
    · exact law_low 4 12 12 w (by omega) (by omega) (by omega) (by omega) (by omega) (by omega) (by decide) (by decide) (by decide)
    · exact law_low 5 13 13 w (by omega) (by omega) (by omega) (by omega) (by omega) (by omega) (by decide) (by decide) (by decide)
    · exact law_low 6 14 12 w (by omega) (by omega) (by omega) (by omega) (by omega) (by omega) (by decide) (by decide) (by decide)
    · exact law_low 7 15 13 w (by omega) (by omega) (by omega) (by omega) (by omega) (by omega) (by decide) (by decide) (by decide)
    · exact law_mid 8 8 w (by omega) (by omega) (by omega) (by omega) (by decide) (by decide)
    · exact law_mid 9 9 w (by omega) (by omega) (by omega) (by omega) (by decide) (by decide)
    · exact law_mid 10 8 w (by omega) (by omega) (by omega) (by omega) (by decide) (by decide)
    · exact law_mid 11 9 w (by omega) (by omega) (by omega) (by omega) (by decide) (by decide)
    · exact law_mid 12 12 w (by omega) (by omega) (by omega) (by omega) (by decide) (by decide)
    · exact law_mid 13 13 w (by omega) (by omega) (by omega) (by omega) (by decide) (by decide)
    · exact law_mid 14 12 w (by omega) (by omega) (by omega) (by omega) (by decide) (by decide)
    · exact law_mid 15 13 w (by omega) (by omega) (by omega) (by omega) (by decide) (by decide)
end Go.Proofs.Ybulkkzi
