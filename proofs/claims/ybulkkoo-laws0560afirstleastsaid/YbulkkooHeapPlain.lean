/-
  THE PLAIN LAW OF THE HEAP: a queue of pairs (worth, index), a row of places; pushing and sifting up keep 'each index at its place' and the heap's order. No Go in sight.
-/
namespace Go.Proofs.Ybulkkoo.Heap

/-- Entry p of the queue: its worth, its index. -/
def wo (Q : List (Int × Nat)) (p : Nat) : Int := (Q.getD p (0, 0)).1
def ix (Q : List (Int × Nat)) (p : Nat) : Nat := (Q.getD p (0, 0)).2
/-- Where index i lies. -/
def pl (A : List Nat) (i : Nat) : Nat := A.getD i 0

structure HInv (ws : Nat → Int) (k n : Nat) (Q : List (Int × Nat)) (A : List Nat) : Prop where
  lenQ : Q.length = k
  lenA : A.length = n
  kn : k ≤ n
  ixLt : ∀ p, p < k → ix Q p < k
  worth : ∀ p, p < k → wo Q p = ws (ix Q p)
  back : ∀ p, p < k → pl A (ix Q p) = p
  plLt : ∀ i, i < k → pl A i < k
  place : ∀ i, i < k → ix Q (pl A i) = i

def HeapAll (Q : List (Int × Nat)) : Prop := ∀ c, 1 ≤ c → c < Q.length → wo Q ((c - 1) / 2) ≤ wo Q c

def HeapBut (Q : List (Int × Nat)) (j : Nat) : Prop :=
  (∀ c, 1 ≤ c → c < Q.length → c ≠ j → wo Q ((c - 1) / 2) ≤ wo Q c) ∧
  ∀ c, 1 ≤ c → c < Q.length → (c - 1) / 2 = j → 1 ≤ j → wo Q ((j - 1) / 2) ≤ wo Q c

def swapQ (Q : List (Int × Nat)) (j l : Nat) : List (Int × Nat) := (Q.set j (wo Q l, ix Q l)).set l (wo Q j, ix Q j)
def swapA (Q : List (Int × Nat)) (A : List Nat) (j l : Nat) : List Nat := (A.set (ix Q l) j).set (ix Q j) l

theorem getD_set {α : Type} (L : List α) (i j : Nat) (x d : α) (h : i < L.length) : (L.set i x).getD j d = if i = j then x else L.getD j d := by
  simp only [List.getD, List.getElem?_set]
  by_cases e : i = j
  · subst e; simp [h]
  · simp [e]

theorem swapQ_at {Q : List (Int × Nat)} {j l : Nat} (hj : j < Q.length) (hl : l < Q.length) (p : Nat) :
    (swapQ Q j l).getD p (0, 0) = if l = p then (wo Q j, ix Q j) else if j = p then (wo Q l, ix Q l) else Q.getD p (0, 0) := by
  unfold swapQ
  rw [getD_set _ _ _ _ _ (by simpa using hl), getD_set _ _ _ _ _ hj]

theorem swapQ_l {Q : List (Int × Nat)} {j l : Nat} (hj : j < Q.length) (hl : l < Q.length) : wo (swapQ Q j l) l = wo Q j ∧ ix (swapQ Q j l) l = ix Q j := by
  unfold wo ix; rw [swapQ_at hj hl]; simp [wo, ix]
theorem swapQ_j {Q : List (Int × Nat)} {j l : Nat} (hj : j < Q.length) (hl : l < Q.length) (h : l ≠ j) : wo (swapQ Q j l) j = wo Q l ∧ ix (swapQ Q j l) j = ix Q l := by
  unfold wo ix; rw [swapQ_at hj hl]; simp [wo, ix, h]
theorem swapQ_other {Q : List (Int × Nat)} {j l p : Nat} (hj : j < Q.length) (hl : l < Q.length) (h : l ≠ p) (h' : j ≠ p) : wo (swapQ Q j l) p = wo Q p ∧ ix (swapQ Q j l) p = ix Q p := by
  unfold wo ix; rw [swapQ_at hj hl]; simp [h, h']
theorem swapQ_length (Q : List (Int × Nat)) (j l : Nat) : (swapQ Q j l).length = Q.length := by simp [swapQ]
theorem swapA_length (Q : List (Int × Nat)) (A : List Nat) (j l : Nat) : (swapA Q A j l).length = A.length := by simp [swapA]
theorem swapA_at {Q : List (Int × Nat)} {A : List Nat} {j l : Nat} (hj : ix Q j < A.length) (hl : ix Q l < A.length) (i : Nat) :
    pl (swapA Q A j l) i = if ix Q j = i then l else if ix Q l = i then j else pl A i := by
  unfold pl swapA
  rw [getD_set _ _ _ _ _ (by simpa using hj), getD_set _ _ _ _ _ hl]

theorem HInv.swap {ws : Nat → Int} {k n : Nat} {Q : List (Int × Nat)} {A : List Nat} (h : HInv ws k n Q A) {j l : Nat} (hj : j < k) (hl : l < k) (hne : l ≠ j) :
    HInv ws k n (swapQ Q j l) (swapA Q A j l) := by
  have hjQ : j < Q.length := by rw [h.lenQ]; exact hj
  have hlQ : l < Q.length := by rw [h.lenQ]; exact hl
  have hjx := h.ixLt j hj
  have hlx := h.ixLt l hl
  have hjA : ix Q j < A.length := by rw [h.lenA]; have := h.kn; omega
  have hlA : ix Q l < A.length := by rw [h.lenA]; have := h.kn; omega
  have hdiff : ix Q j ≠ ix Q l := fun e => hne (by rw [← h.back l hl, ← e, h.back j hj])
  have sl := swapQ_l hjQ hlQ
  have sj := swapQ_j hjQ hlQ hne
  have key : ∀ p, p < k → (p = l ∧ wo (swapQ Q j l) p = wo Q j ∧ ix (swapQ Q j l) p = ix Q j) ∨ (p = j ∧ wo (swapQ Q j l) p = wo Q l ∧ ix (swapQ Q j l) p = ix Q l) ∨
      (p ≠ l ∧ p ≠ j ∧ wo (swapQ Q j l) p = wo Q p ∧ ix (swapQ Q j l) p = ix Q p) := by
    intro p _
    by_cases e1 : p = l
    · exact .inl ⟨e1, by rw [e1]; exact sl⟩
    · by_cases e2 : p = j
      · exact .inr (.inl ⟨e2, by rw [e2]; exact sj⟩)
      · exact .inr (.inr ⟨e1, e2, swapQ_other hjQ hlQ (Ne.symm e1) (Ne.symm e2)⟩)
  refine ⟨by rw [swapQ_length]; exact h.lenQ, by rw [swapA_length]; exact h.lenA, h.kn, ?_, ?_, ?_, ?_, ?_⟩
  · intro p hp
    rcases key p hp with ⟨_, _, e⟩ | ⟨_, _, e⟩ | ⟨_, _, _, e⟩ <;> rw [e]
    · exact hjx
    · exact hlx
    · exact h.ixLt p hp
  · intro p hp
    rcases key p hp with ⟨_, e1, e⟩ | ⟨_, e1, e⟩ | ⟨_, _, e1, e⟩ <;> rw [e, e1]
    · exact h.worth j hj
    · exact h.worth l hl
    · exact h.worth p hp
  · intro p hp
    rw [swapA_at hjA hlA]
    rcases key p hp with ⟨ep, _, e⟩ | ⟨ep, _, e⟩ | ⟨e1, e2, _, e⟩ <;> rw [e]
    · rw [if_pos rfl]; exact ep.symm
    · rw [if_neg hdiff, if_pos rfl]; exact ep.symm
    · have hb := h.back p hp
      rw [if_neg (fun e => e2 (by rw [← hb, ← e, h.back j hj])), if_neg (fun e => e1 (by rw [← hb, ← e, h.back l hl]))]
      exact hb
  · intro i hi
    rw [swapA_at hjA hlA]
    split
    · exact hl
    · split
      · exact hj
      · exact h.plLt i hi
  · intro i hi
    rw [swapA_at hjA hlA]
    by_cases e1 : ix Q j = i
    · rw [if_pos e1, sl.2]; exact e1
    · rw [if_neg e1]
      by_cases e2 : ix Q l = i
      · rw [if_pos e2, sj.2]; exact e2
      · rw [if_neg e2]
        have hp := h.place i hi
        have n1 : l ≠ pl A i := fun e => e2 (by rw [e]; exact hp)
        have n2 : j ≠ pl A i := fun e => e1 (by rw [e]; exact hp)
        rw [(swapQ_other hjQ hlQ n1 n2).2]
        exact hp

theorem HeapBut.swap {Q : List (Int × Nat)} {j : Nat} (h : HeapBut Q j) (hj : j < Q.length) (h1 : 1 ≤ j) (hlt : wo Q j < wo Q ((j - 1) / 2)) :
    HeapBut (swapQ Q j ((j - 1) / 2)) ((j - 1) / 2) := by
  obtain ⟨ha, hb⟩ := h
  have hl : (j - 1) / 2 < Q.length := by omega
  have hne : (j - 1) / 2 ≠ j := by omega
  have sl := (swapQ_l hj hl).1
  have sj := (swapQ_j hj hl hne).1
  have so : ∀ p, (j - 1) / 2 ≠ p → j ≠ p → wo (swapQ Q j ((j - 1) / 2)) p = wo Q p := fun p e1 e2 => (swapQ_other hj hl e1 e2).1
  refine ⟨?_, ?_⟩
  · intro c h1c hc hcl
    rw [swapQ_length] at hc
    by_cases ecj : c = j
    · subst ecj; rw [sl, sj]; omega
    · rw [so c (Ne.symm hcl) (Ne.symm ecj)]
      by_cases epj : (c - 1) / 2 = j
      · rw [epj, sj]; exact hb c h1c hc epj h1
      · by_cases epl : (c - 1) / 2 = (j - 1) / 2
        · rw [epl, sl]
          have := ha c h1c hc ecj
          rw [epl] at this
          omega
        · rw [so _ (Ne.symm epl) (Ne.symm epj)]
          exact ha c h1c hc ecj
  · intro c h1c hc hpc h1l
    rw [swapQ_length] at hc
    have e1 : (j - 1) / 2 ≠ ((j - 1) / 2 - 1) / 2 := by omega
    have e2 : j ≠ ((j - 1) / 2 - 1) / 2 := by omega
    rw [so _ e1 e2]
    have hpar := ha ((j - 1) / 2) h1l hl hne
    by_cases ecj : c = j
    · subst ecj; rw [sj]; exact hpar
    · rw [so c (by omega) (Ne.symm ecj)]
      have := ha c h1c hc ecj
      rw [hpc] at this
      omega

theorem HeapBut.done {Q : List (Int × Nat)} {j : Nat} (h : HeapBut Q j) (hd : j = 0 ∨ wo Q ((j - 1) / 2) ≤ wo Q j) : HeapAll Q := by
  intro c h1 hc
  by_cases e : c = j
  · subst e
    rcases hd with hd | hd
    · omega
    · exact hd
  · exact h.1 c h1 hc e

theorem getD_snoc_lt {α : Type} (L : List α) (x d : α) (p : Nat) (h : p < L.length) : (L ++ [x]).getD p d = L.getD p d := by
  simp [List.getD, List.getElem?_append_left h]
theorem getD_snoc_eq {α : Type} (L : List α) (x d : α) (p : Nat) (h : p = L.length) : (L ++ [x]).getD p d = x := by
  subst h; simp [List.getD]

theorem HInv.push {ws : Nat → Int} {k n : Nat} {Q : List (Int × Nat)} {A : List Nat} (h : HInv ws k n Q A) (hk : k < n) :
    HInv ws (k + 1) n (Q ++ [(ws k, k)]) (A.set k k) := by
  have hl := h.lenQ
  have hA : ∀ i, pl (A.set k k) i = if k = i then k else pl A i := by
    intro i; unfold pl; exact getD_set _ _ _ _ _ (by rw [h.lenA]; exact hk)
  have hlt : ∀ p, p < k → ix (Q ++ [(ws k, k)]) p = ix Q p ∧ wo (Q ++ [(ws k, k)]) p = wo Q p := by
    intro p hp; unfold ix wo; rw [getD_snoc_lt _ _ _ _ (by omega)]; exact ⟨rfl, rfl⟩
  have heq : ix (Q ++ [(ws k, k)]) k = k ∧ wo (Q ++ [(ws k, k)]) k = ws k := by
    unfold ix wo; rw [getD_snoc_eq _ _ _ _ hl.symm]; exact ⟨rfl, rfl⟩
  refine ⟨by simp [hl], by simp [h.lenA], hk, ?_, ?_, ?_, ?_, ?_⟩
  · intro p hp
    by_cases e : p = k
    · rw [e, heq.1]; omega
    · rw [(hlt p (by omega)).1]; have := h.ixLt p (by omega); omega
  · intro p hp
    by_cases e : p = k
    · rw [e, heq.1, heq.2]
    · rw [(hlt p (by omega)).1, (hlt p (by omega)).2]; exact h.worth p (by omega)
  · intro p hp
    rw [hA]
    by_cases e : p = k
    · rw [e, heq.1, if_pos rfl]
    · rw [(hlt p (by omega)).1]
      have := h.ixLt p (by omega)
      rw [if_neg (by omega)]
      exact h.back p (by omega)
  · intro i hi
    rw [hA]
    split
    · omega
    · have := h.plLt i (by omega); omega
  · intro i hi
    rw [hA]
    split
    · rename_i e; rw [heq.1]; exact e
    · have := h.plLt i (by omega)
      rw [(hlt _ this).1]
      exact h.place i (by omega)

theorem HeapAll.push {Q : List (Int × Nat)} (h : HeapAll Q) (x : Int) (i : Nat) : HeapBut (Q ++ [(x, i)]) Q.length := by
  refine ⟨?_, ?_⟩
  · intro c h1 hc hne
    have hc' : c < Q.length := by simp at hc; omega
    unfold wo
    rw [getD_snoc_lt _ _ _ _ hc', getD_snoc_lt _ _ _ _ (by omega)]
    exact h c h1 hc'
  · intro c h1 hc hp _
    simp at hc
    omega

theorem HeapAll.least {Q : List (Int × Nat)} (h : HeapAll Q) : ∀ m c, c < m → c < Q.length → wo Q 0 ≤ wo Q c
  | 0, _, h0, _ => absurd h0 (Nat.not_lt_zero _)
  | m + 1, c, _, hc => by
    by_cases e : c = 0
    · rw [e]; exact Int.le_refl _
    · have h1 := HeapAll.least h m ((c - 1) / 2) (by omega) (by omega)
      have h2 := h c (by omega) hc
      omega

theorem HInv.empty (ws : Nat → Int) (n : Nat) : HInv ws 0 n [] (List.replicate n 0) :=
  ⟨rfl, by simp, Nat.zero_le _, fun _ h => absurd h (Nat.not_lt_zero _), fun _ h => absurd h (Nat.not_lt_zero _), fun _ h => absurd h (Nat.not_lt_zero _), fun _ h => absurd h (Nat.not_lt_zero _), fun _ h => absurd h (Nat.not_lt_zero _)⟩

theorem HeapAll.empty : HeapAll [] := fun _ _ h => absurd h (Nat.not_lt_zero _)

end Go.Proofs.Ybulkkoo.Heap
