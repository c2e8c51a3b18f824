/-
  THE WALKS OF (*reader).byteAt (6), zzs0572bexpect (7), LawS0572BEveryPlace (4), LawS0572BByte (3).
-/
import Derived.Test.YbulkkvaRows
import Derived.WalkKit
import Derived.WalkSpells
import Derived.ProofKit
import Derived.Below
import Derived.RegionTactic
import Derived.ChangeAlike
import Derived.Deep.QuietTactic
import Derived.BigQuiet
namespace Go.Proofs.Ybulkkva
open Go.RowKit

set_option maxHeartbeats 400000 in
theorem byteAt_past (g : Nat) (s : ByteArray) (i : Int) (w : World) (hc : w.cell? ⟨g, 0, none⟩ = some (.string s)) (hi : (s.size : Int) ≤ i) :
    Calls Yba.prog 6 #[.pointer (some ⟨g, 0, none⟩), .int .i64 i] w fun e w' => e = .returned (.int .u8 0) ∧ w' = w := by
  go_enter Yba.func6, Yba.ntmps6
  go_wp2
  go_ret
  exact ⟨rfl, rfl⟩

set_option maxHeartbeats 400000 in
theorem byteAt_in (g : Nat) (s : ByteArray) (k : Nat) (w : World) (hc : w.cell? ⟨g, 0, none⟩ = some (.string s)) (hk : k < s.size) :
    Calls Yba.prog 6 #[.pointer (some ⟨g, 0, none⟩), .int .i64 (k : Int)] w fun e w' => e = .returned (.int .u8 (s[k].toNat : Int)) ∧ w' = w := by
  go_enter Yba.func6, Yba.ntmps6
  go_wp2
  go_ret
  exact ⟨rfl, rfl⟩

set_option maxHeartbeats 400000 in
theorem expect_in (s : ByteArray) (m : Nat) (w : World) (hm : m < s.size) (hs : s.size ≤ 9223372036854775807) :
    Calls Yba.prog 7 #[.string s, .int .i64 (m : Int)] w fun e w' => e = .returned (.int .u8 (s[m].toNat : Int)) ∧ w' = w := by
  go_enter Yba.func7, Yba.ntmps7
  go_wp2
  go_loop [5] (fun x => ∃ k : Nat, k ≤ m ∧ x = .int .i64 (k : Int)) (fun x => s.size - (intOf x).toNat)
  case atStart => exact ⟨0, Nat.zero_le _, rfl⟩
  case round =>
    obtain ⟨k, hk, rfl⟩ := hrel
    have hlt : k < s.size := by omega
    by_cases e : k = m
    · subst e
      go_wp2
      go_ret
      exact ⟨rfl, rfl⟩
    · have ht : ((k : Int) == (m : Int)) = false := by simp; omega
      go_wp2
      go_round
      case rel => exact ⟨k + 1, by omega, by go_num⟩
      case measure => simp [intOf]; omega

set_option maxHeartbeats 400000 in
theorem expect_past (s : ByteArray) (i : Int) (w : World) (hi : (s.size : Int) ≤ i) (hs : s.size ≤ 9223372036854775807) :
    Calls Yba.prog 7 #[.string s, .int .i64 i] w fun e w' => e = .returned (.int .u8 0) ∧ w' = w := by
  go_enter Yba.func7, Yba.ntmps7
  go_wp2
  go_loop [5] (fun x => ∃ k : Nat, k ≤ s.size ∧ x = .int .i64 (k : Int)) (fun x => s.size - (intOf x).toNat)
  case atStart => exact ⟨0, Nat.zero_le _, rfl⟩
  case round =>
    obtain ⟨k, hk, rfl⟩ := hrel
    by_cases hlt : k < s.size
    · have ht : ((k : Int) == i) = false := by simp; omega
      go_wp2
      go_round
      case rel => exact ⟨k + 1, by omega, by go_num⟩
      case measure => simp [intOf]; omega
    · go_wp2
      go_ret
      exact ⟨rfl, rfl⟩

set_option maxRecDepth 100000 in
set_option maxHeartbeats 400000 in
theorem every_long (s : ByteArray) (w : World) (h : 1024 < s.size) :
    Calls Yba.prog 4 #[.string s] w fun e w' => e = .returned (.bool true) ∧ Grown w w' := by
  have hl : (1024 : Int) < (s.size : Int) := by omega
  go_enter Yba.func4, Yba.ntmps4
  go_wp2
  go_ret
  exact ⟨rfl, Grown.refl _⟩

theorem grown_drewN {w w' : World} (h : Grown w w') (n : Nat) : Grown w (w'.drewN n) := h

set_option maxRecDepth 100000 in
set_option maxHeartbeats 800000 in
theorem every_any (s : ByteArray) (w : World) (h : s.size ≤ 1024) :
    Calls Yba.prog 4 #[.string s] w fun e w' => e = .returned (.bool true) ∧ Grown w w' := by
  have hl : ¬ (1024 : Int) < (s.size : Int) := by omega
  go_enter Yba.func4, Yba.ntmps4
  go_wp2
  go_loopw [4] (fun x wr => ∃ k : Nat, x = .int .i64 (k : Int) ∧ k ≤ s.size ∧ wr.cell? ⟨w.heap.size, 0, none⟩ = some (.string s) ∧ Hid (Grown w wr)) (fun x _ => s.size - (intOf x).toNat)
  case atStart => exact ⟨0, rfl, Nat.zero_le _, by simp, (Grown.refl w).alloc _ _⟩
  case round =>
    obtain ⟨k, rfl, hk, hc, HG⟩ := hrel
    by_cases hlt : k < s.size
    · have hk1 : (k : Int) < (s.size : Int) := by omega
      go_wp2
      go_quiet ((go_at_call 6; exact Calls.quiet_of_same (byteAt_in w.heap.size s k _ (by exact hc) hlt)))
      go_wp2
      go_roundw
      case rel => exact ⟨k + 1, by go_num, by omega, hc, grown_drewN HG.out _⟩
      case measure => simp [intOf]; omega
    · obtain rfl : k = s.size := by omega
      go_wp2_with fail
      refine (byteAt_past w.heap.size s _ _ hc (by omega)).mono ?_
      rintro e w' ⟨rfl, hw⟩
      obtain rfl := hw.symm
      clear hw
      go_wp2_with fail
      refine (byteAt_past w.heap.size s _ _ hc (by omega)).mono ?_
      rintro e w' ⟨rfl, hw⟩
      obtain rfl := hw.symm
      clear hw
      go_wp2
      go_ret
      exact ⟨rfl, HG.out⟩

set_option maxRecDepth 100000 in
set_option maxHeartbeats 400000 in
theorem byte_long (s : ByteArray) (i : Int) (w : World) (h : 4096 < s.size) :
    Calls Yba.prog 3 #[.string s, .int .i64 i] w fun e w' => e = .returned (.bool true) ∧ Grown w w' := by
  have hl : (4096 : Int) < (s.size : Int) := by omega
  go_enter Yba.func3, Yba.ntmps3
  go_wp2
  go_ret
  exact ⟨rfl, Grown.refl _⟩

/-- The two callees as the law calls them: the index a number that is k. -/
theorem byteAt_in' (g : Nat) (s : ByteArray) (k : Nat) (x : Int) (w : World) (hx : x = (k : Int)) (hc : w.cell? ⟨g, 0, none⟩ = some (.string s)) (hk : k < s.size) :
    Calls Yba.prog 6 #[.pointer (some ⟨g, 0, none⟩), .int .i64 x] w fun e w' => e = .returned (.int .u8 (s[k].toNat : Int)) ∧ w' = w := by
  subst hx; exact byteAt_in g s k w hc hk
theorem expect_in' (s : ByteArray) (m : Nat) (x : Int) (w : World) (hx : x = (m : Int)) (hm : m < s.size) (hs : s.size ≤ 9223372036854775807) :
    Calls Yba.prog 7 #[.string s, .int .i64 x] w fun e w' => e = .returned (.int .u8 (s[m].toNat : Int)) ∧ w' = w := by
  subst hx; exact expect_in s m w hm hs

set_option maxRecDepth 100000 in
set_option maxHeartbeats 800000 in
theorem byte_any (s : ByteArray) (i : Int) (w : World) (h : s.size ≤ 4096) (hi0 : -9223372036854775808 ≤ i) (hi1 : i ≤ 9223372036854775807) :
    Calls Yba.prog 3 #[.string s, .int .i64 i] w fun e w' => e = .returned (.bool true) ∧ Grown w w' := by
  have hl : ¬ (4096 : Int) < (s.size : Int) := by omega
  by_cases hneg : i < 0
  · by_cases hp : (s.size : Int) ≤ -(i + 1)
    · go_enter Yba.func3, Yba.ntmps3
      go_wp2_with (first | (go_at_call 6; refine (byteAt_past w.heap.size s _ _ (by simp) (by omega)).mono ?_; rintro e w' ⟨rfl, hw⟩; obtain rfl := hw.symm) | (go_at_call 7; refine (expect_past s _ _ (by omega) (by omega)).mono ?_; rintro e w' ⟨rfl, hw⟩; obtain rfl := hw.symm))
      go_ret
      exact ⟨rfl, (Grown.refl w).alloc _ _⟩
    · obtain ⟨k, hk⟩ : ∃ k : Nat, -(i + 1) = (k : Int) := ⟨(-(i + 1)).toNat, by omega⟩
      have hks : k < s.size := by omega
      have HK : Hid (-(i + 1) = (k : Int)) := hk
      clear hk
      go_enter Yba.func3, Yba.ntmps3
      go_wp2_with (first | (go_at_call 6; refine (byteAt_in' w.heap.size s k _ _ HK.out (by simp) hks).mono ?_; rintro e w' ⟨rfl, hw⟩; obtain rfl := hw.symm) | (go_at_call 7; refine (expect_in' s k _ _ HK.out hks (by omega)).mono ?_; rintro e w' ⟨rfl, hw⟩; obtain rfl := hw.symm))
      go_ret
      exact ⟨rfl, (Grown.refl w).alloc _ _⟩
  · by_cases hp : (s.size : Int) ≤ i
    · go_enter Yba.func3, Yba.ntmps3
      go_wp2_with (first | (go_at_call 6; refine (byteAt_past w.heap.size s _ _ (by simp) (by omega)).mono ?_; rintro e w' ⟨rfl, hw⟩; obtain rfl := hw.symm) | (go_at_call 7; refine (expect_past s _ _ (by omega) (by omega)).mono ?_; rintro e w' ⟨rfl, hw⟩; obtain rfl := hw.symm))
      go_ret
      exact ⟨rfl, (Grown.refl w).alloc _ _⟩
    · obtain ⟨k, rfl⟩ : ∃ k : Nat, i = (k : Int) := ⟨i.toNat, by omega⟩
      have hks : k < s.size := by omega
      go_enter Yba.func3, Yba.ntmps3
      go_wp2_with (first | (go_at_call 6; refine (byteAt_in w.heap.size s k _ (by simp) hks).mono ?_; rintro e w' ⟨rfl, hw⟩; obtain rfl := hw.symm) | (go_at_call 7; refine (expect_in s k _ hks (by omega)).mono ?_; rintro e w' ⟨rfl, hw⟩; obtain rfl := hw.symm))
      go_ret
      exact ⟨rfl, (Grown.refl w).alloc _ _⟩
end Go.Proofs.Ybulkkva
