/-
  THE WALKS OF findPlace[int] (function 11, index nil) AND slices.Index[[]int,int] (function 12): each answers the first place of x, or says that there is none.
-/
import Derived.Test.YbulkkooRows
import Derived.WalkKit
import Derived.WalkSpells
import Derived.ProofKit
import Derived.Below
namespace Go.Proofs.Ybulkkoo
open Go.RowKit

/-- 'k is the first place below n at which f holds x'. -/
def FirstAt (f : Nat → Int) (n : Nat) (x : Int) (k : Nat) : Prop := k < n ∧ f k = x ∧ ∀ j, j < k → f j ≠ x

theorem first_or (f : Nat → Int) (x : Int) : ∀ n, (∀ j, j < n → f j ≠ x) ∨ ∃ k, FirstAt f n x k
  | 0 => .inl fun _ h => absurd h (Nat.not_lt_zero _)
  | n + 1 => by
    rcases first_or f x n with h | ⟨k, h1, h2, h3⟩
    · by_cases e : f n = x
      · exact .inr ⟨n, Nat.lt_succ_self _, e, h⟩
      · refine .inl fun j hj => ?_
        by_cases ej : j = n
        · rw [ej]; exact e
        · exact h j (by omega)
    · exact .inr ⟨k, by omega, h2, h3⟩

theorem ne_beq {a b : Int} (h : a ≠ b) : (a == b) = false := by simpa using h

/-- What the walk asks of a slice of ints: nil or empty, or its elements' cells. -/
def HasInts (w : World) (a : Option Addr) (n : Nat) (f : Nat → Int) : Prop :=
  n = 0 ∨ ∃ b off, a = some ⟨b, off, none⟩ ∧ ∀ j, j < n → w.cell? ⟨b, off + j, none⟩ = some (.int .i64 (f j))

set_option maxHeartbeats 400000 in
theorem find_hit (b off n c : Nat) (f : Nat → Int) (x : Int) (m : Nat) (w : World) (hbig : n ≤ 9223372036854775807) (hf : FirstAt f n x m)
    (hc : ∀ j, j < n → w.cell? ⟨b, off + j, none⟩ = some (.int .i64 (f j))) :
    Calls Yba.prog 11 #[.slice (some ⟨b, off, none⟩) n c, .map none, .int .i64 x] w fun e w' => e = .returned (.tuple #[.int .i64 m, .bool true]) ∧ w' = w := by
  obtain ⟨hm, hx, hne⟩ := hf
  have HX : Hid (f m = x) := hx
  have HC : Hid (∀ j, j < n → w.cell? ⟨b, off + j, none⟩ = some (.int .i64 (f j))) := hc
  have HN : Hid (∀ j, j < m → f j ≠ x) := hne
  clear hx hc hne
  have hnil := fun wx => run_neq_map_nil (P := Yba.prog) wx 55 3 3 none Yba.underlying55
  go_enter Yba.func11, Yba.ntmps11
  go_wp2
  go_loop [24] (fun i => ∃ k : Nat, k ≤ m ∧ i = .int .i64 k) (fun i => n - (intOf i).toNat)
  case atStart => exact ⟨0, Nat.zero_le _, rfl⟩
  case round =>
    obtain ⟨k, hk, rfl⟩ := hrel
    have hlt : k < n := by omega
    have hcell := HC.out k hlt
    by_cases e : k = m
    · subst e
      have ht : (f k == x) = true := by simpa using HX.out
      go_wp2
      go_ret2
      exact ⟨rfl, rfl⟩
    · have ht : (f k == x) = false := ne_beq (HN.out k (by omega))
      go_wp2
      go_round
      case rel => exact ⟨k + 1, by omega, by go_num⟩
      case measure => simp [intOf]; omega

set_option maxHeartbeats 400000 in
theorem find_miss (b off n c : Nat) (f : Nat → Int) (x : Int) (w : World) (hbig : n ≤ 9223372036854775807) (hf : ∀ j, j < n → f j ≠ x)
    (hc : ∀ j, j < n → w.cell? ⟨b, off + j, none⟩ = some (.int .i64 (f j))) :
    Calls Yba.prog 11 #[.slice (some ⟨b, off, none⟩) n c, .map none, .int .i64 x] w fun e w' => e = .returned (.tuple #[.int .i64 0, .bool false]) ∧ w' = w := by
  have HC : Hid (∀ j, j < n → w.cell? ⟨b, off + j, none⟩ = some (.int .i64 (f j))) := hc
  have HN : Hid (∀ j, j < n → f j ≠ x) := hf
  clear hc hf
  have hnil := fun wx => run_neq_map_nil (P := Yba.prog) wx 55 3 3 none Yba.underlying55
  go_enter Yba.func11, Yba.ntmps11
  go_wp2
  go_loop [24] (fun i => ∃ k : Nat, k ≤ n ∧ i = .int .i64 k) (fun i => n - (intOf i).toNat)
  case atStart => exact ⟨0, Nat.zero_le _, rfl⟩
  case round =>
    obtain ⟨k, hk, rfl⟩ := hrel
    by_cases hlt : k < n
    · have hcell := HC.out k hlt
      have ht : (f k == x) = false := ne_beq (HN.out k (by omega))
      go_wp2
      go_round
      case rel => exact ⟨k + 1, by omega, by go_num⟩
      case measure => simp [intOf]; omega
    · go_wp2
      go_ret2
      exact ⟨rfl, rfl⟩

set_option maxHeartbeats 400000 in
theorem find_empty (a : Option Addr) (c : Nat) (x : Int) (w : World) :
    Calls Yba.prog 11 #[.slice a 0 c, .map none, .int .i64 x] w fun e w' => e = .returned (.tuple #[.int .i64 0, .bool false]) ∧ w' = w := by
  have hnil := fun wx => run_neq_map_nil (P := Yba.prog) wx 55 3 3 none Yba.underlying55
  go_enter Yba.func11, Yba.ntmps11
  go_wp2
  go_loop [24] (fun i => i = .int .i64 0) (fun _ => 0)
  case atStart => rfl
  case round =>
    subst hrel
    go_wp2
    go_ret2
    exact ⟨rfl, rfl⟩

set_option maxHeartbeats 400000 in
theorem index_hit (b off n c : Nat) (f : Nat → Int) (x : Int) (m : Nat) (w : World) (hbig : n ≤ 9223372036854775807) (hf : FirstAt f n x m)
    (hc : ∀ j, j < n → w.cell? ⟨b, off + j, none⟩ = some (.int .i64 (f j))) :
    Calls Yba.prog 12 #[.slice (some ⟨b, off, none⟩) n c, .int .i64 x] w fun e w' => e = .returned (.int .i64 m) ∧ w' = w := by
  obtain ⟨hm, hx, hne⟩ := hf
  have HX : Hid (f m = x) := hx
  have HC : Hid (∀ j, j < n → w.cell? ⟨b, off + j, none⟩ = some (.int .i64 (f j))) := hc
  have HN : Hid (∀ j, j < m → f j ≠ x) := hne
  clear hx hc hne
  go_enter Yba.func12, Yba.ntmps12
  go_wp2
  go_loop [8] (fun i => ∃ k : Nat, k ≤ m ∧ i = .int .i64 k) (fun i => n - (intOf i).toNat)
  case atStart => exact ⟨0, Nat.zero_le _, rfl⟩
  case round =>
    obtain ⟨k, hk, rfl⟩ := hrel
    have hlt : k < n := by omega
    have hcell := HC.out k hlt
    by_cases e : k = m
    · subst e
      have ht : (x == f k) = true := by simpa using HX.out.symm
      go_wp2
      go_ret
      exact ⟨rfl, rfl⟩
    · have ht : (x == f k) = false := ne_beq (Ne.symm (HN.out k (by omega)))
      go_wp2
      go_round
      case rel => exact ⟨k + 1, by omega, by go_num⟩
      case measure => simp [intOf]; omega

set_option maxHeartbeats 400000 in
theorem index_miss (b off n c : Nat) (f : Nat → Int) (x : Int) (w : World) (hbig : n ≤ 9223372036854775807) (hf : ∀ j, j < n → f j ≠ x)
    (hc : ∀ j, j < n → w.cell? ⟨b, off + j, none⟩ = some (.int .i64 (f j))) :
    Calls Yba.prog 12 #[.slice (some ⟨b, off, none⟩) n c, .int .i64 x] w fun e w' => e = .returned (.int .i64 (-1)) ∧ w' = w := by
  have HC : Hid (∀ j, j < n → w.cell? ⟨b, off + j, none⟩ = some (.int .i64 (f j))) := hc
  have HN : Hid (∀ j, j < n → f j ≠ x) := hf
  clear hc hf
  go_enter Yba.func12, Yba.ntmps12
  go_wp2
  go_loop [8] (fun i => ∃ k : Nat, k ≤ n ∧ i = .int .i64 k) (fun i => n - (intOf i).toNat)
  case atStart => exact ⟨0, Nat.zero_le _, rfl⟩
  case round =>
    obtain ⟨k, hk, rfl⟩ := hrel
    by_cases hlt : k < n
    · have hcell := HC.out k hlt
      have ht : (x == f k) = false := ne_beq (Ne.symm (HN.out k (by omega)))
      go_wp2
      go_round
      case rel => exact ⟨k + 1, by omega, by go_num⟩
      case measure => simp [intOf]; omega
    · go_wp2
      go_ret
      exact ⟨rfl, rfl⟩

set_option maxHeartbeats 400000 in
theorem index_empty (a : Option Addr) (c : Nat) (x : Int) (w : World) :
    Calls Yba.prog 12 #[.slice a 0 c, .int .i64 x] w fun e w' => e = .returned (.int .i64 (-1)) ∧ w' = w := by
  go_enter Yba.func12, Yba.ntmps12
  go_wp2
  go_loop [8] (fun i => i = .int .i64 0) (fun _ => 0)
  case atStart => rfl
  case round =>
    subst hrel
    go_wp2
    go_ret
    exact ⟨rfl, rfl⟩

end Go.Proofs.Ybulkkoo
