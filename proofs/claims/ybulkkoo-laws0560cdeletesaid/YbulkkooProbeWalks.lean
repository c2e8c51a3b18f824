/-
  THE WALKS OF memo's home (19), find (16).
-/
import Derived.Test.YbulkkooRows
import Derived.Test.YbulkkooProbePlain
import Derived.WalkKit
import Derived.WalkSpells
import Derived.ProofKit
import Derived.Below
import Derived.RegionTactic
import Derived.ChangeAlike
import Derived.Deep.QuietTactic
import Derived.BigQuiet
import Derived.BigRegion
import Derived.Deep.LoopGhost
namespace Go.Proofs.Ybulkkoo.Probe
open Go.RowKit

def nums (A : List Nat) : List Value := A.map fun (i : Nat) => .int .i64 (i : Int)
theorem nums_at (A : List Nat) (i : Nat) (h : i < A.length) : (nums A)[i]? = some (.int .i64 (tt A i : Nat)) := by
  simp [nums, tt, h]
theorem nums_set (A : List Nat) (i v : Nat) : (nums A).set i (.int .i64 (v : Int)) = nums (A.set i v) := by
  simp [nums, List.map_set]
theorem nums_zero (n : Nat) : nums (List.replicate n 0) = List.replicate n (.int .i64 0) := by simp [nums]

/-- THE MEMO IN MEMORY: block bm holds the struct (field 0: the kept values; field 2: the places), block g the kept values (k of them; key i and hash H i of value i), block bp the places. -/
structure MS (w : World) (bm bp g k kc n : Nat) (H : Nat → Nat) (T : List Nat) : Prop where
  ck : w.cell? ⟨bm, 0, none⟩ = some (.slice (some ⟨g, 0, none⟩) k kc)
  cp : w.cell? ⟨bm, 2, none⟩ = some (.slice (some ⟨bp, 0, none⟩) n n)
  key : ∀ i, i < k → w.cell? ⟨g, i * 5, none⟩ = some (.int .i64 (i : Int))
  hash : ∀ i, i < k → w.cell? ⟨g, i * 5 + 1, none⟩ = some (.int .u64 (H i : Int))
  pl : w.ownsRow 0 3 1 (.slice (some ⟨bp, 0, none⟩) n n) n (nums T)
  nmp : bm ≠ bp
  ngp : g ≠ bp

/-- Nothing but block b has turned. -/
structure Still1 (w w' : World) (b : Nat) : Prop where
  os : w'.os = w.os
  tape : w'.tape = w.tape
  output : w'.output = w.output
  size : w'.heap.size = w.heap.size
  block : ∀ k, k ≠ b → w'.heap[k]? = w.heap[k]?

theorem Still1.refl (w : World) (b : Nat) : Still1 w w b := ⟨rfl, rfl, rfl, rfl, fun _ _ => rfl⟩
theorem Still1.trans {w w' w'' : World} {b : Nat} (h : Still1 w w' b) (h' : Still1 w' w'' b) : Still1 w w'' b :=
  ⟨h'.os.trans h.os, h'.tape.trans h.tape, h'.output.trans h.output, h'.size.trans h.size, fun k h1 => (h'.block k h1).trans (h.block k h1)⟩
theorem Still1.drew {w w' : World} {b : Nat} (h : Still1 w w' b) : Still1 w w'.drew b := ⟨h.os, h.tape, h.output, h.size, h.block⟩
theorem Still1.drewN {w w' : World} {b : Nat} (h : Still1 w w' b) (nq : Nat) : Still1 w (w'.drewN nq) b := ⟨h.os, h.tape, h.output, h.size, h.block⟩
theorem Still1.setCell {w w' : World} {b : Nat} (h : Still1 w w' b) (q : Nat) (u : Value) : Still1 w (w'.setCell ⟨b, q, none⟩ u) b :=
  h.trans ⟨rfl, rfl, rfl, by simp [World.setCell], fun k h1 => Below.heap_setCell _ _ _ _ h1⟩

theorem MS.drewN {w : World} {bm bp g k kc n : Nat} {H : Nat → Nat} {T : List Nat} (h : MS w bm bp g k kc n H T) (nq : Nat) : MS (w.drewN nq) bm bp g k kc n H T :=
  ⟨h.ck, h.cp, h.key, h.hash, h.pl, h.nmp, h.ngp⟩
theorem MS.drew {w : World} {bm bp g k kc n : Nat} {H : Nat → Nat} {T : List Nat} (h : MS w bm bp g k kc n H T) : MS w.drew bm bp g k kc n H T :=
  ⟨h.ck, h.cp, h.key, h.hash, h.pl, h.nmp, h.ngp⟩
theorem cell_set_other (w : World) {p a : Addr} (u : Value) (h : a.block ≠ p.block) : (w.setCell p u).cell? a = w.cell? a :=
  World.cell?_of_block (Below.heap_setCell _ _ _ _ h)
theorem MS.setPlace {w : World} {bm bp g k kc n : Nat} {H : Nat → Nat} {T : List Nat} (h : MS w bm bp g k kc n H T) (q v : Nat) :
    MS (w.setCell ⟨bp, q, none⟩ (.int .i64 (v : Int))) bm bp g k kc n H (T.set q v) := by
  have h1 := (h.pl.stored q (.int .i64 (v : Int))).1
  rw [nums_set] at h1
  refine ⟨?_, ?_, fun i hi => ?_, fun i hi => ?_, h1, h.nmp, h.ngp⟩
  · rw [cell_set_other w _ (by exact h.nmp)]; exact h.ck
  · rw [cell_set_other w _ (by exact h.nmp)]; exact h.cp
  · rw [cell_set_other w _ (by exact h.ngp)]; exact h.key i hi
  · rw [cell_set_other w _ (by exact h.ngp)]; exact h.hash i hi

theorem MS.len {w : World} {bm bp g k kc n : Nat} {H : Nat → Nat} {T : List Nat} (h : MS w bm bp g k kc n H T) : T.length = n := by
  have := h.pl.1; simpa [nums] using this
theorem MS.place {w : World} {bm bp g k kc n : Nat} {H : Nat → Nat} {T : List Nat} (h : MS w bm bp g k kc n H T) {q : Nat} (hq : q < n) : w.cell? ⟨bp, q, none⟩ = some (.int .i64 (tt T q : Nat)) := by
  rw [h.pl.cellAt q (by omega)]
  exact nums_at T q (by rw [h.len]; exact hq)

set_option maxHeartbeats 400000 in
theorem home_any (bm bp n hh : Nat) (w : World) (hn : 0 < n) (hn' : n ≤ 16) (hb : hh ≤ 18446744073709551615) (cp : w.cell? ⟨bm, 2, none⟩ = some (.slice (some ⟨bp, 0, none⟩) n n)) :
    Calls Yba.prog 19 #[.pointer (some ⟨bm, 0, none⟩), .int .u64 hh] w fun e w' => e = .returned (.int .i64 (hh % n : Nat)) ∧ w' = w := by
  have hr : hh % n < n := Nat.mod_lt _ hn
  go_enter Yba.func19, Yba.ntmps19
  go_wp2
  go_ret
  exact ⟨rfl, rfl⟩

theorem int_pos (n h s : Nat) : ((pos n h s : Nat) + 1 : Int) % (n : Int) = (pos n h (s + 1) : Nat) := by
  rw [← pos_succ]; rfl

/-- 'find' meets key after m steps. -/
def HitAt (T : List Nat) (n h0 key m : Nat) : Prop := tt T (pos n h0 m) = key + 1 ∧ ∀ i, i < m → tt T (pos n h0 i) ≠ 0 ∧ tt T (pos n h0 i) ≠ key + 1
/-- 'find' comes to an empty place after m steps. -/
def MissAt (T : List Nat) (n h0 key m : Nat) : Prop := tt T (pos n h0 m) = 0 ∧ ∀ i, i < m → tt T (pos n h0 i) ≠ 0 ∧ tt T (pos n h0 i) ≠ key + 1

theorem val_at {T : List Nat} {q k : Nat} (hle : tt T q ≤ k) (hne : tt T q ≠ 0) : ∃ u, u < k ∧ tt T q = u + 1 := ⟨tt T q - 1, by omega, by omega⟩

set_option maxHeartbeats 400000 in
theorem find_hit (bm bp g k kc n : Nat) (H : Nat → Nat) (T : List Nat) (w : World) (hs : MS w bm bp g k kc n H T) (key hh m : Nat) (hn : 0 < n) (hn' : n ≤ 16) (hk' : k ≤ 16) (hb : hh ≤ 18446744073709551615) (hle : ∀ q, q < n → tt T q ≤ k) (hm : HitAt T n (hh % n) key m) :
    Calls Yba.prog 16 #[.pointer (some ⟨bm, 0, none⟩), .int .i64 key, .int .u64 hh] w fun e w' => e = .returned (.tuple #[.int .i64 key, .int .i64 (pos n (hh % n) m : Nat)]) ∧ w' = w := by
  have cp := hs.cp
  have ck := hs.ck
  have HS : Hid (MS w bm bp g k kc n H T) := hs
  have HM : Hid (HitAt T n (hh % n) key m) := hm
  have HL : Hid (∀ q, q < n → tt T q ≤ k) := hle
  clear hs hm hle
  go_enter Yba.func16, Yba.ntmps16
  go_wp2_with (go_at_call 19; refine (home_any bm bp n hh _ hn hn' hb cp).mono ?_; rintro e w' ⟨rfl, hw⟩; obtain rfl := hw.symm)
  go_loopg [6, 7] m (fun gk _ p wr => ∃ s : Nat, s + gk = m ∧ p = .int .i64 (pos n (hh % n) s : Nat) ∧ wr = w)
  case atStart => exact ⟨0, by omega, by rw [pos_zero (Nat.mod_lt _ hn)]; rfl, rfl⟩
  case round =>
    obtain ⟨s, hsm, rfl, rfl⟩ := hrel
    obtain ⟨q, hq⟩ : ∃ q, q = pos n (hh % n) s := ⟨_, rfl⟩
    have HQ : Hid (q = pos n (hh % n) s) := hq
    have hqn : q < n := by rw [hq]; exact pos_lt hn
    have c1 := HS.out.place hqn
    rw [← hq]
    by_cases hlast : gk = 0
    · have hv : tt T q = key + 1 := by have := HM.out.1; rw [hq, show s = m by omega]; exact this
      have hkk : key < k := by have := HL.out q hqn; omega
      rw [hv] at c1
      have c2 := HS.out.key key hkk
      simp only [Int.natCast_add, Int.cast_ofNat_Int] at c1
      clear hq hv
      go_wp2
      go_ret2
      refine ⟨?_, rfl⟩
      rw [show m = s by omega, ← HQ.out]
      rfl
    · obtain ⟨u, huk, hu⟩ := val_at (HL.out q hqn) (by rw [hq]; exact (HM.out.2 s (by omega)).1)
      have hne : u ≠ key := fun e => (HM.out.2 s (by omega)).2 (by rw [← hq, hu, e])
      have ht : ((u : Int) == (key : Int)) = false := by simp; omega
      rw [hu] at c1
      have c2 := HS.out.key u huk
      simp only [Int.natCast_add, Int.cast_ofNat_Int] at c1
      clear hq hu
      go_wp2
      go_roundg (gk - 1)
      case rel => exact ⟨s + 1, by omega, by rw [HQ.out, int_pos], rfl⟩
      case measure => omega
set_option maxHeartbeats 400000 in
theorem find_miss (bm bp g k kc n : Nat) (H : Nat → Nat) (T : List Nat) (w : World) (hs : MS w bm bp g k kc n H T) (key hh m : Nat) (hn : 0 < n) (hn' : n ≤ 16) (hk' : k ≤ 16) (hb : hh ≤ 18446744073709551615) (hle : ∀ q, q < n → tt T q ≤ k) (hm : MissAt T n (hh % n) key m) :
    Calls Yba.prog 16 #[.pointer (some ⟨bm, 0, none⟩), .int .i64 key, .int .u64 hh] w fun e w' => e = .returned (.tuple #[.int .i64 (-1), .int .i64 (pos n (hh % n) m : Nat)]) ∧ w' = w := by
  have cp := hs.cp
  have ck := hs.ck
  have HS : Hid (MS w bm bp g k kc n H T) := hs
  have HM : Hid (MissAt T n (hh % n) key m) := hm
  have HL : Hid (∀ q, q < n → tt T q ≤ k) := hle
  clear hs hm hle
  go_enter Yba.func16, Yba.ntmps16
  go_wp2_with (go_at_call 19; refine (home_any bm bp n hh _ hn hn' hb cp).mono ?_; rintro e w' ⟨rfl, hw⟩; obtain rfl := hw.symm)
  go_loopg [6, 7] m (fun gk _ p wr => ∃ s : Nat, s + gk = m ∧ p = .int .i64 (pos n (hh % n) s : Nat) ∧ wr = w)
  case atStart => exact ⟨0, by omega, by rw [pos_zero (Nat.mod_lt _ hn)]; rfl, rfl⟩
  case round =>
    obtain ⟨s, hsm, rfl, rfl⟩ := hrel
    obtain ⟨q, hq⟩ : ∃ q, q = pos n (hh % n) s := ⟨_, rfl⟩
    have HQ : Hid (q = pos n (hh % n) s) := hq
    have hqn : q < n := by rw [hq]; exact pos_lt hn
    have c1 := HS.out.place hqn
    rw [← hq]
    by_cases hlast : gk = 0
    · have hv : tt T q = 0 := by have := HM.out.1; rw [hq, show s = m by omega]; exact this
      rw [hv] at c1
      simp only [Int.cast_ofNat_Int] at c1
      clear hq hv
      go_wp2
      go_ret2
      refine ⟨?_, rfl⟩
      rw [show m = s by omega, ← HQ.out]
      rfl
    · obtain ⟨u, huk, hu⟩ := val_at (HL.out q hqn) (by rw [hq]; exact (HM.out.2 s (by omega)).1)
      have hne : u ≠ key := fun e => (HM.out.2 s (by omega)).2 (by rw [← hq, hu, e])
      have ht : ((u : Int) == (key : Int)) = false := by simp; omega
      rw [hu] at c1
      have c2 := HS.out.key u huk
      simp only [Int.natCast_add, Int.cast_ofNat_Int] at c1
      clear hq hu
      go_wp2
      go_roundg (gk - 1)
      case rel => exact ⟨s + 1, by omega, by rw [HQ.out, int_pos], rfl⟩
      case measure => omega

end Go.Proofs.Ybulkkoo.Probe
