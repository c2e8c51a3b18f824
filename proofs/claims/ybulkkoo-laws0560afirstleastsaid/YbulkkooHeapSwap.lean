/-
  THE WALK OF worthQueue.swap (function 21), and what it does to the queue and the row of places as they lie in memory.
-/
import Derived.Test.YbulkkooRows
import Derived.Test.YbulkkooHeapPlain
import Derived.WalkKit
import Derived.WalkSpells
import Derived.ProofKit
import Derived.Below
import Derived.RegionTactic
import Derived.ChangeAlike
import Derived.Deep.QuietTactic
import Derived.BigQuiet
import Derived.BigRegion
namespace Go.Proofs.Ybulkkoo
open Go.RowKit

/-- The queue's cells; the places' cells. -/
def flat (Q : List (Int × Nat)) : List Value := Q.flatMap fun p => [.int .i64 p.1, .int .i64 (p.2 : Int)]
def nums (A : List Nat) : List Value := A.map fun (i : Nat) => .int .i64 (i : Int)

theorem flat_nil : flat [] = [] := rfl
theorem flat_cons (p : Int × Nat) (Q : List (Int × Nat)) : flat (p :: Q) = .int .i64 p.1 :: .int .i64 (p.2 : Int) :: flat Q := rfl
theorem flat_length (Q : List (Int × Nat)) : (flat Q).length = Q.length * 2 := by
  induction Q with
  | nil => rfl
  | cons p Q ih => rw [flat_cons]; simp only [List.length_cons, ih]; omega
theorem flat_snoc (Q : List (Int × Nat)) (x : Int) (i : Nat) : flat (Q ++ [(x, i)]) = flat Q ++ [.int .i64 x, .int .i64 (i : Int)] := by
  simp [flat]
theorem flat_at : ∀ (Q : List (Int × Nat)) (j : Nat), j < Q.length → (flat Q)[j * 2]? = some (.int .i64 (Heap.wo Q j)) ∧ (flat Q)[j * 2 + 1]? = some (.int .i64 (Heap.ix Q j : Nat))
  | [], _, h => absurd h (Nat.not_lt_zero _)
  | p :: Q, 0, _ => by simp [flat_cons, Heap.wo, Heap.ix]
  | p :: Q, j + 1, h => by
    have ih := flat_at Q j (by simpa using h)
    have e : (j + 1) * 2 = j * 2 + 1 + 1 := by omega
    rw [flat_cons, e]
    simpa [Heap.wo, Heap.ix] using ih
theorem flat_set : ∀ (Q : List (Int × Nat)) (j : Nat) (x : Int) (i : Nat), ((flat Q).set (j * 2) (.int .i64 x)).set (j * 2 + 1) (.int .i64 (i : Int)) = flat (Q.set j (x, i))
  | [], _, _, _ => by simp [flat]
  | p :: Q, 0, x, i => by simp [flat_cons]
  | p :: Q, j + 1, x, i => by
    have ih := flat_set Q j x i
    have e : (j + 1) * 2 = j * 2 + 1 + 1 := by omega
    rw [flat_cons, e]
    simp only [List.set_cons_succ, flat_cons]
    rw [ih]
theorem nums_at (A : List Nat) (i : Nat) (h : i < A.length) : (nums A)[i]? = some (.int .i64 (Heap.pl A i : Nat)) := by
  simp [nums, Heap.pl, h]
theorem nums_set (A : List Nat) (i v : Nat) : (nums A).set i (.int .i64 (v : Int)) = nums (A.set i v) := by
  simp [nums, List.map_set]
theorem nums_zero (n : Nat) : nums (List.replicate n 0) = List.replicate n (.int .i64 0) := by simp [nums]

/-- THE QUEUE AND THE PLACES IN MEMORY: block g holds the queue's entries, block a the places. -/
structure QS (w : World) (base g cap a n : Nat) (Q : List (Int × Nat)) (A : List Nat) : Prop where
  q : w.ownsRow base 28 2 (.slice (some ⟨g, 0, none⟩) Q.length cap) Q.length (flat Q)
  at' : w.ownsRow 0 3 1 (.slice (some ⟨a, 0, none⟩) n n) n (nums A)
  ne : g ≠ a

/-- Nothing but blocks g and a has turned. -/
structure Still2 (w w' : World) (g a : Nat) : Prop where
  os : w'.os = w.os
  tape : w'.tape = w.tape
  output : w'.output = w.output
  size : w'.heap.size = w.heap.size
  block : ∀ k, k ≠ g → k ≠ a → w'.heap[k]? = w.heap[k]?

theorem Still2.refl (w : World) (g a : Nat) : Still2 w w g a := ⟨rfl, rfl, rfl, rfl, fun _ _ _ => rfl⟩
theorem Still2.trans {w w' w'' : World} {g a : Nat} (h : Still2 w w' g a) (h' : Still2 w' w'' g a) : Still2 w w'' g a :=
  ⟨h'.os.trans h.os, h'.tape.trans h.tape, h'.output.trans h.output, h'.size.trans h.size, fun k h1 h2 => (h'.block k h1 h2).trans (h.block k h1 h2)⟩
theorem Still2.drew {w w' : World} {g a : Nat} (h : Still2 w w' g a) : Still2 w w'.drew g a := ⟨h.os, h.tape, h.output, h.size, h.block⟩
theorem Still2.setCell {w w' : World} {g a : Nat} (h : Still2 w w' g a) (p : Addr) (hp : p.block = g ∨ p.block = a) (u : Value) : Still2 w (w'.setCell p u) g a :=
  h.trans ⟨rfl, rfl, rfl, by simp [World.setCell], fun k h1 h2 => Below.heap_setCell _ _ _ _ (by rcases hp with e | e <;> rw [e] <;> assumption)⟩

theorem QS.drew {w : World} {base g cap a n : Nat} {Q : List (Int × Nat)} {A : List Nat} (h : QS w base g cap a n Q A) : QS w.drew base g cap a n Q A :=
  ⟨h.q.drew, h.at'.drew, h.ne⟩

theorem QS.setQ {w : World} {base g cap a n : Nat} {Q : List (Int × Nat)} {A : List Nat} (h : QS w base g cap a n Q A) (j : Nat) (x : Int) (i : Nat) :
    QS ((w.setCell ⟨g, j * 2, none⟩ (.int .i64 x)).setCell ⟨g, j * 2 + 1, none⟩ (.int .i64 (i : Int))) base g cap a n (Q.set j (x, i)) A := by
  have h1 := h.q.stored (j * 2) (.int .i64 x)
  have h2 := h1.1.stored (j * 2 + 1) (.int .i64 (i : Int))
  have hne : (Value.slice (some ⟨a, 0, none⟩) n n).ownBlock ≠ some g := by
    intro e; simp only [Value.ownBlock, Option.some.injEq] at e; exact h.ne e.symm
  refine ⟨?_, (h.at'.kept h1.2 (.inr hne)).kept h2.2 (.inr hne), h.ne⟩
  have h3 := h2.1
  rw [flat_set] at h3
  simpa using h3

theorem QS.setA {w : World} {base g cap a n : Nat} {Q : List (Int × Nat)} {A : List Nat} (h : QS w base g cap a n Q A) (i v : Nat) :
    QS (w.setCell ⟨a, i, none⟩ (.int .i64 (v : Int))) base g cap a n Q (A.set i v) := by
  have h1 := h.at'.stored i (.int .i64 (v : Int))
  have hne : (Value.slice (some ⟨g, 0, none⟩) Q.length cap).ownBlock ≠ some a := by
    intro e; simp only [Value.ownBlock, Option.some.injEq] at e; exact h.ne e
  refine ⟨h.q.kept h1.2 (.inr hne), ?_, h.ne⟩
  have h3 := h1.1
  rw [nums_set] at h3
  exact h3

theorem QS.cells {w : World} {base g cap a n : Nat} {Q : List (Int × Nat)} {A : List Nat} (h : QS w base g cap a n Q A) {j : Nat} (hj : j < Q.length) :
    w.cell? ⟨g, j * 2, none⟩ = some (.int .i64 (Heap.wo Q j)) ∧ w.cell? ⟨g, j * 2 + 1, none⟩ = some (.int .i64 (Heap.ix Q j : Nat)) := by
  rw [h.q.cellAt (j * 2) (by omega), h.q.cellAt (j * 2 + 1) (by omega)]
  exact flat_at Q j hj

theorem QS.lenA {w : World} {base g cap a n : Nat} {Q : List (Int × Nat)} {A : List Nat} (h : QS w base g cap a n Q A) : A.length = n := by
  have := h.at'.1; simpa [nums] using this

theorem QS.cellA {w : World} {base g cap a n : Nat} {Q : List (Int × Nat)} {A : List Nat} (h : QS w base g cap a n Q A) {i : Nat} (hi : i < n) :
    w.cell? ⟨a, i, none⟩ = some (.int .i64 (Heap.pl A i : Nat)) := by
  rw [h.at'.cellAt i (by omega)]
  exact nums_at A i (by rw [h.lenA]; exact hi)

theorem QS.len {w : World} {base g cap a n : Nat} {Q : List (Int × Nat)} {A : List Nat} (h : QS w base g cap a n Q A) : Q.length ≤ maxLen ∧ n ≤ maxLen := by
  refine ⟨?_, ?_⟩
  · rcases h.q.2 with ⟨h', _⟩ | ⟨g', cap', cur, h', _, _, hc, hm, _⟩
    · cases h'
    · omega
  · rcases h.at'.2 with ⟨h', _⟩ | ⟨g', cap', cur, h', _, _, hc, hm, _⟩
    · cases h'
    · omega

set_option maxHeartbeats 400000 in
theorem swap_walk (g a m cap n : Nat) (wj wl : Int) (ij il : Nat) (j l : Nat) (w : World) (hj : j < m) (hl : l < m) (hne : l < j) (_hm : m ≤ 9223372036854775807)
    (hij : ij < n) (hil : il < n) (_hn : n ≤ 9223372036854775807) (hga : g ≠ a) (hii : il ≠ ij)
    (c0 : w.cell? ⟨g, j * 2, none⟩ = some (.int .i64 wj)) (c1 : w.cell? ⟨g, j * 2 + 1, none⟩ = some (.int .i64 ij))
    (c2 : w.cell? ⟨g, l * 2, none⟩ = some (.int .i64 wl)) (c3 : w.cell? ⟨g, l * 2 + 1, none⟩ = some (.int .i64 il))
    (f0 : w.frozen? ⟨g, j * 2, none⟩ = false) (f1 : w.frozen? ⟨g, j * 2 + 1, none⟩ = false) (f2 : w.frozen? ⟨g, l * 2, none⟩ = false) (f3 : w.frozen? ⟨g, l * 2 + 1, none⟩ = false)
    (vj vl : Int) (c4 : w.cell? ⟨a, ij, none⟩ = some (.int .i64 vj)) (c5 : w.cell? ⟨a, il, none⟩ = some (.int .i64 vl)) (f4 : w.frozen? ⟨a, ij, none⟩ = false) (f5 : w.frozen? ⟨a, il, none⟩ = false) :
    Calls Yba.prog 21 #[.slice (some ⟨g, 0, none⟩) m cap, .slice (some ⟨a, 0, none⟩) n n, .int .i64 j, .int .i64 l] w fun e w' => e = .returned (.tuple #[]) ∧
      w' = ((((((w.setCell ⟨g, j * 2, none⟩ (.int .i64 wl)).setCell ⟨g, j * 2 + 1, none⟩ (.int .i64 il)).setCell ⟨g, l * 2, none⟩ (.int .i64 wj)).setCell ⟨g, l * 2 + 1, none⟩ (.int .i64 ij)).setCell ⟨a, il, none⟩ (.int .i64 j)).setCell ⟨a, ij, none⟩ (.int .i64 l)).drew.drew := by
  go_enter Yba.func21, Yba.ntmps21
  go_wp2
  go_region
  go_wp2
  go_region
  go_end0
  exact ⟨rfl, rfl⟩

theorem swap_any {ws : Nat → Int} {k : Nat} (base g cap a n : Nat) (Q : List (Int × Nat)) (A : List Nat) (j l : Nat) (w : World) (h : QS w base g cap a n Q A) (hi : Heap.HInv ws k n Q A) (hj : j < k) (hl : l < j) :
    Calls Yba.prog 21 #[.slice (some ⟨g, 0, none⟩) Q.length cap, .slice (some ⟨a, 0, none⟩) n n, .int .i64 j, .int .i64 l] w fun e w' => e = .returned (.tuple #[]) ∧
      QS w' base g cap a n (Heap.swapQ Q j l) (Heap.swapA Q A j l) ∧ Still2 w w' g a := by
  have hlen := h.len
  unfold maxLen at hlen
  have hQ := hi.lenQ
  have hkn := hi.kn
  have hlk : l < k := by omega
  have xj := hi.ixLt j hj
  have xl := hi.ixLt l hlk
  have hii : Heap.ix Q l ≠ Heap.ix Q j := fun e => by
    have h1 := hi.back l hlk
    have h2 := hi.back j hj
    rw [e, h2] at h1
    omega
  have cj := h.cells (j := j) (by omega)
  have cl := h.cells (j := l) (by omega)
  refine (swap_walk g a Q.length cap n (Heap.wo Q j) (Heap.wo Q l) (Heap.ix Q j) (Heap.ix Q l) j l w (by omega) (by omega) hl (by omega) (by omega) (by omega) (by omega) h.ne hii
    cj.1 cj.2 cl.1 cl.2 (h.q.frozenAt _) (h.q.frozenAt _) (h.q.frozenAt _) (h.q.frozenAt _) _ _ (h.cellA (by omega)) (h.cellA (by omega)) (h.at'.frozenAt _) (h.at'.frozenAt _)).mono ?_
  rintro e w' ⟨rfl, rfl⟩
  refine ⟨rfl, ?_, ?_⟩
  · have h1 := ((((h.setQ j (Heap.wo Q l) (Heap.ix Q l)).setQ l (Heap.wo Q j) (Heap.ix Q j)).setA (Heap.ix Q l) j).setA (Heap.ix Q j) l).drew.drew
    exact h1
  · exact ((((((Still2.refl w g a).setCell _ (.inl rfl) _).setCell _ (.inl rfl) _).setCell _ (.inl rfl) _).setCell _ (.inl rfl) _).setCell _ (.inr rfl) _).setCell _ (.inr rfl) _ |>.drew.drew

end Go.Proofs.Ybulkkoo
