/-
  THE WALKS OF findPlace[string] (function 13), slices.Index[[]string,string] (function 14) AND LawS0560BIndex (function 6): a nil index: both scan for the first place; another: both look up.
-/
import Derived.Test.YbulkkooRows
import Derived.WalkKit
import Derived.WalkSpells
import Derived.ProofKit
import Derived.Below
namespace Go.Proofs.Ybulkkoo
open Go.RowKit

/-- 'k is the first place below n at which p says yes'. -/
def FirstB (p : Nat → Bool) (n : Nat) (k : Nat) : Prop := k < n ∧ p k = true ∧ ∀ j, j < k → p j = false

theorem firstB_or (p : Nat → Bool) : ∀ n, (∀ j, j < n → p j = false) ∨ ∃ k, FirstB p n k
  | 0 => .inl fun _ h => absurd h (Nat.not_lt_zero _)
  | n + 1 => by
    rcases firstB_or p n with h | ⟨k, h1, h2, h3⟩
    · by_cases e : p n = true
      · exact .inr ⟨n, Nat.lt_succ_self _, e, h⟩
      · refine .inl fun j hj => ?_
        by_cases ej : j = n
        · rw [ej]; simpa using e
        · exact h j (by omega)
    · exact .inr ⟨k, by omega, h2, h3⟩

/-- 'element j is x', as findPlace asks it. -/
def isAt (f : Nat → ByteArray) (x : ByteArray) (j : Nat) : Bool := (f j).toList == x.toList
theorem isAt_eq (f : Nat → ByteArray) (x : ByteArray) (j : Nat) : ((f j).toList == x.toList) = isAt f x j := rfl
theorem isAt_comm (f : Nat → ByteArray) (x : ByteArray) (j : Nat) : (x.toList == (f j).toList) = isAt f x j := by unfold isAt; exact BEq.comm

set_option maxHeartbeats 400000 in
theorem findS_hit (b off n c : Nat) (f : Nat → ByteArray) (x : ByteArray) (m : Nat) (w : World) (hbig : n ≤ 9223372036854775807) (hf : FirstB (isAt f x) n m)
    (hc : ∀ j, j < n → w.cell? ⟨b, off + j, none⟩ = some (.string (f j))) :
    Calls Yba.prog 13 #[.slice (some ⟨b, off, none⟩) n c, .map none, .string x] w fun e w' => e = .returned (.tuple #[.int .i64 m, .bool true]) ∧ w' = w := by
  obtain ⟨hm, hx, hne⟩ := hf
  have HX : Hid (isAt f x m = true) := hx
  have HC : Hid (∀ j, j < n → w.cell? ⟨b, off + j, none⟩ = some (.string (f j))) := hc
  have HN : Hid (∀ j, j < m → isAt f x j = false) := hne
  clear hx hc hne
  have hnil := fun wx => run_neq_map_nil (P := Yba.prog) wx 35 9 3 none Yba.underlying35
  go_enter Yba.func13, Yba.ntmps13
  go_wp2
  go_loop [24] (fun i => ∃ k : Nat, k ≤ m ∧ i = .int .i64 k) (fun i => n - (intOf i).toNat)
  case atStart => exact ⟨0, Nat.zero_le _, rfl⟩
  case round =>
    obtain ⟨k, hk, rfl⟩ := hrel
    have hlt : k < n := by omega
    have hcell := HC.out k hlt
    by_cases e : k = m
    · subst e
      have ht : ((f k).toList == x.toList) = true := by rw [isAt_eq]; exact HX.out
      go_wp2
      go_ret2
      exact ⟨rfl, rfl⟩
    · have ht : ((f k).toList == x.toList) = false := by rw [isAt_eq]; exact HN.out k (by omega)
      go_wp2
      go_round
      case rel => exact ⟨k + 1, by omega, by go_num⟩
      case measure => simp [intOf]; omega

set_option maxHeartbeats 400000 in
theorem findS_miss (b off n c : Nat) (f : Nat → ByteArray) (x : ByteArray) (w : World) (hbig : n ≤ 9223372036854775807) (hf : ∀ j, j < n → isAt f x j = false)
    (hc : ∀ j, j < n → w.cell? ⟨b, off + j, none⟩ = some (.string (f j))) :
    Calls Yba.prog 13 #[.slice (some ⟨b, off, none⟩) n c, .map none, .string x] w fun e w' => e = .returned (.tuple #[.int .i64 0, .bool false]) ∧ w' = w := by
  have HC : Hid (∀ j, j < n → w.cell? ⟨b, off + j, none⟩ = some (.string (f j))) := hc
  have HN : Hid (∀ j, j < n → isAt f x j = false) := hf
  clear hc hf
  have hnil := fun wx => run_neq_map_nil (P := Yba.prog) wx 35 9 3 none Yba.underlying35
  go_enter Yba.func13, Yba.ntmps13
  go_wp2
  go_loop [24] (fun i => ∃ k : Nat, k ≤ n ∧ i = .int .i64 k) (fun i => n - (intOf i).toNat)
  case atStart => exact ⟨0, Nat.zero_le _, rfl⟩
  case round =>
    obtain ⟨k, hk, rfl⟩ := hrel
    by_cases hlt : k < n
    · have hcell := HC.out k hlt
      have ht : ((f k).toList == x.toList) = false := by rw [isAt_eq]; exact HN.out k (by omega)
      go_wp2
      go_round
      case rel => exact ⟨k + 1, by omega, by go_num⟩
      case measure => simp [intOf]; omega
    · go_wp2
      go_ret2
      exact ⟨rfl, rfl⟩

set_option maxHeartbeats 400000 in
theorem findS_empty (a : Option Addr) (c : Nat) (x : ByteArray) (w : World) :
    Calls Yba.prog 13 #[.slice a 0 c, .map none, .string x] w fun e w' => e = .returned (.tuple #[.int .i64 0, .bool false]) ∧ w' = w := by
  have hnil := fun wx => run_neq_map_nil (P := Yba.prog) wx 35 9 3 none Yba.underlying35
  go_enter Yba.func13, Yba.ntmps13
  go_wp2
  go_loop [24] (fun i => i = .int .i64 0) (fun _ => 0)
  case atStart => rfl
  case round =>
    subst hrel
    go_wp2
    go_ret2
    exact ⟨rfl, rfl⟩

set_option maxHeartbeats 400000 in
theorem findS_map (a : Option Addr) (n c bm : Nat) (x : ByteArray) (v : Int) (hs : Bool) (w : World)
    (hrun : (Instr.lookup 35 (.map (some bm)) (.string x) true).run Yba.prog w = .ok (.tuple #[.int .i64 v, .bool hs]) w) :
    Calls Yba.prog 13 #[.slice a n c, .map (some bm), .string x] w fun e w' => e = .returned (.tuple #[.int .i64 v, .bool hs]) ∧ w' = w := by
  have hnil := fun wx => run_neq_map_nil (P := Yba.prog) wx 35 9 3 (some bm) Yba.underlying35
  go_enter Yba.func13, Yba.ntmps13
  go_wp2
  go_ret2
  exact ⟨rfl, rfl⟩

set_option maxHeartbeats 400000 in
theorem indexS_hit (b off n c : Nat) (f : Nat → ByteArray) (x : ByteArray) (m : Nat) (w : World) (hbig : n ≤ 9223372036854775807) (hf : FirstB (isAt f x) n m)
    (hc : ∀ j, j < n → w.cell? ⟨b, off + j, none⟩ = some (.string (f j))) :
    Calls Yba.prog 14 #[.slice (some ⟨b, off, none⟩) n c, .string x] w fun e w' => e = .returned (.int .i64 m) ∧ w' = w := by
  obtain ⟨hm, hx, hne⟩ := hf
  have HX : Hid (isAt f x m = true) := hx
  have HC : Hid (∀ j, j < n → w.cell? ⟨b, off + j, none⟩ = some (.string (f j))) := hc
  have HN : Hid (∀ j, j < m → isAt f x j = false) := hne
  clear hx hc hne
  go_enter Yba.func14, Yba.ntmps14
  go_wp2
  go_loop [8] (fun i => ∃ k : Nat, k ≤ m ∧ i = .int .i64 k) (fun i => n - (intOf i).toNat)
  case atStart => exact ⟨0, Nat.zero_le _, rfl⟩
  case round =>
    obtain ⟨k, hk, rfl⟩ := hrel
    have hlt : k < n := by omega
    have hcell := HC.out k hlt
    by_cases e : k = m
    · subst e
      have ht : (x.toList == (f k).toList) = true := by rw [isAt_comm]; exact HX.out
      go_wp2
      go_ret
      exact ⟨rfl, rfl⟩
    · have ht : (x.toList == (f k).toList) = false := by rw [isAt_comm]; exact HN.out k (by omega)
      go_wp2
      go_round
      case rel => exact ⟨k + 1, by omega, by go_num⟩
      case measure => simp [intOf]; omega

set_option maxHeartbeats 400000 in
theorem indexS_miss (b off n c : Nat) (f : Nat → ByteArray) (x : ByteArray) (w : World) (hbig : n ≤ 9223372036854775807) (hf : ∀ j, j < n → isAt f x j = false)
    (hc : ∀ j, j < n → w.cell? ⟨b, off + j, none⟩ = some (.string (f j))) :
    Calls Yba.prog 14 #[.slice (some ⟨b, off, none⟩) n c, .string x] w fun e w' => e = .returned (.int .i64 (-1)) ∧ w' = w := by
  have HC : Hid (∀ j, j < n → w.cell? ⟨b, off + j, none⟩ = some (.string (f j))) := hc
  have HN : Hid (∀ j, j < n → isAt f x j = false) := hf
  clear hc hf
  go_enter Yba.func14, Yba.ntmps14
  go_wp2
  go_loop [8] (fun i => ∃ k : Nat, k ≤ n ∧ i = .int .i64 k) (fun i => n - (intOf i).toNat)
  case atStart => exact ⟨0, Nat.zero_le _, rfl⟩
  case round =>
    obtain ⟨k, hk, rfl⟩ := hrel
    by_cases hlt : k < n
    · have hcell := HC.out k hlt
      have ht : (x.toList == (f k).toList) = false := by rw [isAt_comm]; exact HN.out k (by omega)
      go_wp2
      go_round
      case rel => exact ⟨k + 1, by omega, by go_num⟩
      case measure => simp [intOf]; omega
    · go_wp2
      go_ret
      exact ⟨rfl, rfl⟩

set_option maxHeartbeats 400000 in
theorem indexS_empty (a : Option Addr) (c : Nat) (x : ByteArray) (w : World) :
    Calls Yba.prog 14 #[.slice a 0 c, .string x] w fun e w' => e = .returned (.int .i64 (-1)) ∧ w' = w := by
  go_enter Yba.func14, Yba.ntmps14
  go_wp2
  go_loop [8] (fun i => i = .int .i64 0) (fun _ => 0)
  case atStart => rfl
  case round =>
    subst hrel
    go_wp2
    go_ret
    exact ⟨rfl, rfl⟩

set_option maxHeartbeats 400000 in
theorem lawIndex_long (a : Option Addr) (n c : Nat) (r : Option Nat) (x : ByteArray) (w : World) (h : 1024 < n) :
    Calls Yba.prog 6 #[.slice a n c, .map r, .string x] w fun e w' => e = .returned (.bool true) ∧ w' = w := by
  have hl : (1024 : Int) < (n : Int) := by omega
  go_enter Yba.func6, Yba.ntmps6
  go_wp2
  go_ret
  exact ⟨rfl, rfl⟩

set_option maxHeartbeats 400000 in
theorem lawIndex_map (a : Option Addr) (n c bm : Nat) (x : ByteArray) (v : Int) (hs : Bool) (w : World) (h : ¬ 1024 < n)
    (hrun : (Instr.lookup 35 (.map (some bm)) (.string x) true).run Yba.prog w = .ok (.tuple #[.int .i64 v, .bool hs]) w) :
    Calls Yba.prog 6 #[.slice a n c, .map (some bm), .string x] w fun e w' => e = .returned (.bool true) ∧ w' = w := by
  have hl : ¬ (1024 : Int) < (n : Int) := by omega
  have hnil := fun wx => run_neq_map_nil (P := Yba.prog) wx 35 9 3 (some bm) Yba.underlying35
  go_enter Yba.func6, Yba.ntmps6
  go_wp2_with (go_at_call 13; refine (findS_map a n c bm x v hs _ hrun).mono ?_; rintro e w' ⟨rfl, rfl⟩)
  go_ret
  exact ⟨by simp, rfl⟩

set_option maxHeartbeats 400000 in
theorem lawIndex_empty (a : Option Addr) (c : Nat) (x : ByteArray) (w : World) :
    Calls Yba.prog 6 #[.slice a 0 c, .map none, .string x] w fun e w' => e = .returned (.bool true) ∧ w' = w := by
  have hnil := fun wx => run_neq_map_nil (P := Yba.prog) wx 35 9 3 none Yba.underlying35
  go_enter Yba.func6, Yba.ntmps6
  go_wp2_with (first | (go_at_call 13; refine (findS_empty _ _ _ _).mono ?_; rintro e w' ⟨rfl, rfl⟩) | (go_at_call 14; refine (indexS_empty _ _ _ _).mono ?_; rintro e w' ⟨rfl, rfl⟩))
  go_ret
  exact ⟨rfl, rfl⟩

set_option maxHeartbeats 400000 in
theorem lawIndex_hit (b off n c : Nat) (f : Nat → ByteArray) (x : ByteArray) (m : Nat) (w : World) (h : ¬ 1024 < n) (hf : FirstB (isAt f x) n m)
    (hc : ∀ j, j < n → w.cell? ⟨b, off + j, none⟩ = some (.string (f j))) :
    Calls Yba.prog 6 #[.slice (some ⟨b, off, none⟩) n c, .map none, .string x] w fun e w' => e = .returned (.bool true) ∧ w' = w := by
  have hl : ¬ (1024 : Int) < (n : Int) := by omega
  have HF : Hid (FirstB (isAt f x) n m) := hf
  have HC : Hid (∀ j, j < n → w.cell? ⟨b, off + j, none⟩ = some (.string (f j))) := hc
  clear hf hc
  have hnil := fun wx => run_neq_map_nil (P := Yba.prog) wx 35 9 3 none Yba.underlying35
  go_enter Yba.func6, Yba.ntmps6
  go_wp2_with (first | (go_at_call 13; refine (findS_hit b off n c f x m _ (by omega) HF.out HC.out).mono ?_; rintro e w' ⟨rfl, rfl⟩) | (go_at_call 14; refine (indexS_hit b off n c f x m _ (by omega) HF.out HC.out).mono ?_; rintro e w' ⟨rfl, rfl⟩))
  go_ret
  exact ⟨rfl, rfl⟩

set_option maxHeartbeats 400000 in
theorem lawIndex_miss (b off n c : Nat) (f : Nat → ByteArray) (x : ByteArray) (w : World) (h : ¬ 1024 < n) (hf : ∀ j, j < n → isAt f x j = false)
    (hc : ∀ j, j < n → w.cell? ⟨b, off + j, none⟩ = some (.string (f j))) :
    Calls Yba.prog 6 #[.slice (some ⟨b, off, none⟩) n c, .map none, .string x] w fun e w' => e = .returned (.bool true) ∧ w' = w := by
  have hl : ¬ (1024 : Int) < (n : Int) := by omega
  have HF : Hid (∀ j, j < n → isAt f x j = false) := hf
  have HC : Hid (∀ j, j < n → w.cell? ⟨b, off + j, none⟩ = some (.string (f j))) := hc
  clear hf hc
  have hnil := fun wx => run_neq_map_nil (P := Yba.prog) wx 35 9 3 none Yba.underlying35
  go_enter Yba.func6, Yba.ntmps6
  go_wp2_with (first | (go_at_call 13; refine (findS_miss b off n c f x _ (by omega) HF.out HC.out).mono ?_; rintro e w' ⟨rfl, rfl⟩) | (go_at_call 14; refine (indexS_miss b off n c f x _ (by omega) HF.out HC.out).mono ?_; rintro e w' ⟨rfl, rfl⟩))
  go_ret
  exact ⟨rfl, rfl⟩

end Go.Proofs.Ybulkkoo
