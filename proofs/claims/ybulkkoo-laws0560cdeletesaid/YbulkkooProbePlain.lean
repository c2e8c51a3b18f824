/-
  THE PLAIN LAW OF LINEAR PROBING: a table of n places (0: empty; v + 1: value v), each value reached from its home over occupied places; placing a value; taking one out with the shift back. No Go in sight.
-/
namespace Go.Proofs.Ybulkkoo.Probe

def tt (T : List Nat) (q : Nat) : Nat := T.getD q 0
/-- The place s steps behind h, round the table. -/
def pos (n h s : Nat) : Nat := (h + s) % n
def nz (v : Nat) : Nat := if v = 0 then 0 else 1
def cnt : List Nat → Nat
  | [] => 0
  | v :: T => nz v + cnt T

theorem pos_lt {n h s : Nat} (hn : 0 < n) : pos n h s < n := Nat.mod_lt _ hn
theorem pos_zero {n h : Nat} (hh : h < n) : pos n h 0 = h := by unfold pos; rw [Nat.add_zero]; exact Nat.mod_eq_of_lt hh
theorem pos_succ (n h s : Nat) : (pos n h s + 1) % n = pos n h (s + 1) := by
  unfold pos
  rw [Nat.mod_add_mod, Nat.add_assoc]
theorem pos_eq {n e x : Nat} (he : e < n) (hx : x < n) : pos n e x = if e + x < n then e + x else e + x - n := by
  unfold pos
  split
  · rename_i h; exact Nat.mod_eq_of_lt h
  · rename_i h; rw [Nat.mod_eq_sub_mod (by omega)]; exact Nat.mod_eq_of_lt (by omega)
theorem pos_inj {n e x y : Nat} (he : e < n) (hx : x < n) (hy : y < n) (h : pos n e x = pos n e y) : x = y := by
  rw [pos_eq he hx, pos_eq he hy] at h
  split at h <;> split at h <;> omega
theorem pos_full {n e : Nat} (he : e < n) : pos n e n = e := by unfold pos; rw [Nat.add_mod_right]; exact Nat.mod_eq_of_lt he
theorem pos_pos {n e x i : Nat} : pos n (pos n e x) i = pos n e (x + i) := by
  unfold pos
  rw [Nat.mod_add_mod, Nat.add_assoc]

/-- How far behind e the place q lies. -/
def bk (n e q : Nat) : Nat := if e ≤ q then q - e else q + n - e
theorem bk_lt {n e q : Nat} (he : e < n) (hq : q < n) : bk n e q < n := by unfold bk; split <;> omega
theorem pos_bk {n e q : Nat} (he : e < n) (hq : q < n) : pos n e (bk n e q) = q := by
  rw [pos_eq he (bk_lt he hq)]
  unfold bk
  split <;> split <;> omega
theorem bk_pos {n e x : Nat} (he : e < n) (hx : x < n) : bk n e (pos n e x) = x :=
  pos_inj he (bk_lt he (pos_lt (by omega))) hx (pos_bk he (pos_lt (by omega)))

theorem tt_set {T : List Nat} {i : Nat} (h : i < T.length) (v j : Nat) : tt (T.set i v) j = if i = j then v else tt T j := by
  unfold tt
  simp only [List.getD, List.getElem?_set]
  by_cases e : i = j
  · subst e; simp [h]
  · simp [e]

theorem cnt_set : ∀ (T : List Nat) (i v : Nat), i < T.length → cnt (T.set i v) + nz (tt T i) = cnt T + nz v
  | [], _, _, h => absurd h (Nat.not_lt_zero _)
  | u :: T, 0, v, _ => by simp only [List.set_cons_zero, cnt, tt, List.getD_cons_zero]; omega
  | u :: T, i + 1, v, h => by
    have ih := cnt_set T i v (by simpa using h)
    have e : tt (u :: T) (i + 1) = tt T i := by simp [tt]
    simp only [List.set_cons_succ, cnt]
    rw [e]
    omega
theorem cnt_full : ∀ (T : List Nat), (∀ q, q < T.length → tt T q ≠ 0) → cnt T = T.length
  | [], _ => rfl
  | u :: T, h => by
    have h0 := h 0 (by simp)
    have ih := cnt_full T (fun q hq => by have := h (q + 1) (by simpa using hq); simpa [tt] using this)
    have e : tt (u :: T) 0 = u := by simp [tt]
    rw [e] at h0
    simp only [cnt, List.length_cons, ih, nz, if_neg h0]
    omega
theorem cnt_take (T : List Nat) (k : Nat) (h : k < T.length) : cnt (T.take (k + 1)) = cnt (T.take k) + nz (tt T k) := by
  induction T generalizing k with
  | nil => exact absurd h (Nat.not_lt_zero _)
  | cons u T ih =>
    cases k with
    | zero => simp [cnt, tt]
    | succ k =>
      have := ih k (by simpa using h)
      have e : tt (u :: T) (k + 1) = tt T k := by simp [tt]
      simp only [List.take_succ_cons, cnt]
      rw [e]
      omega
theorem cnt_le (T : List Nat) : cnt T ≤ T.length := by
  induction T with
  | nil => exact Nat.le_refl _
  | cons u T ih => simp only [cnt, nz, List.length_cons]; split <;> omega
theorem cnt_zero (n : Nat) : cnt (List.replicate n 0) = 0 := by
  induction n with
  | zero => rfl
  | succ n ih => simp [List.replicate_succ, cnt, ih, nz]
theorem tt_zero (n q : Nat) : tt (List.replicate n 0) q = 0 := by
  unfold tt
  simp only [List.getD, List.getElem?_replicate]
  split <;> rfl

/-- The first of the numbers below n at which p says yes, or none. -/
theorem first_or (p : Nat → Prop) (hd : ∀ j, p j ∨ ¬ p j) : ∀ n, (∀ j, j < n → ¬ p j) ∨ ∃ k, k < n ∧ p k ∧ ∀ j, j < k → ¬ p j
  | 0 => .inl fun _ h => absurd h (Nat.not_lt_zero _)
  | n + 1 => by
    rcases first_or p hd n with h | ⟨k, h1, h2, h3⟩
    · rcases hd n with e | e
      · exact .inr ⟨n, Nat.lt_succ_self _, e, h⟩
      · refine .inl fun j hj => ?_
        by_cases ej : j = n
        · rw [ej]; exact e
        · exact h j (by omega)
    · exact .inr ⟨k, by omega, h2, h3⟩

theorem some_empty {T : List Nat} (h : cnt T < T.length) : ∃ e, e < T.length ∧ tt T e = 0 := by
  rcases first_or (fun q => tt T q = 0) (fun _ => Decidable.em _) T.length with h0 | ⟨k, h1, h2, _⟩
  · have := cnt_full T h0; omega
  · exact ⟨k, h1, h2⟩

/-- From whatever place on, an empty one comes. -/
theorem first_empty {T : List Nat} {n hh : Nat} (hl : T.length = n) (hc : cnt T < n) (hh' : hh < n) :
    ∃ m, m < n ∧ tt T (pos n hh m) = 0 ∧ ∀ i, i < m → tt T (pos n hh i) ≠ 0 := by
  obtain ⟨e, he, hz⟩ := some_empty (T := T) (by omega)
  rcases first_or (fun i => tt T (pos n hh i) = 0) (fun _ => Decidable.em _) n with h0 | h1
  · exact absurd (by rw [pos_bk hh' (by omega)]; exact hz) (h0 (bk n hh e) (bk_lt hh' (by omega)))
  · exact h1

structure Tab (n : Nat) (h : Nat → Nat) (S : Nat → Prop) (T : List Nat) : Prop where
  len : T.length = n
  val : ∀ q, q < n → tt T q ≠ 0 → S (tt T q - 1)
  reach : ∀ v, S v → ∃ m, m < n ∧ tt T (pos n (h v) m) = v + 1 ∧ ∀ i, i < m → tt T (pos n (h v) i) ≠ 0
  inj : ∀ q q', q < n → q' < n → tt T q = tt T q' → tt T q ≠ 0 → q = q'

theorem Tab.empty (n : Nat) (h : Nat → Nat) : Tab n h (fun v => v < 0) (List.replicate n 0) :=
  ⟨by simp, fun q _ hq => absurd (tt_zero n q) hq, fun _ hv => absurd hv (Nat.not_lt_zero _), fun q _ _ _ _ hq => absurd (tt_zero n q) hq⟩

theorem Tab.place {n k m : Nat} {h : Nat → Nat} {T : List Nat} (t : Tab n h (fun v => v < k) T) (hm : m < n) (hz : tt T (pos n (h k) m) = 0) (hp : ∀ i, i < m → tt T (pos n (h k) i) ≠ 0) :
    Tab n h (fun v => v < k + 1) (T.set (pos n (h k) m) (k + 1)) := by
  have hpn : pos n (h k) m < T.length := by rw [t.len]; exact pos_lt (by omega)
  have hs := tt_set hpn (k + 1)
  refine ⟨by rw [List.length_set]; exact t.len, ?_, ?_, ?_⟩
  · intro q hq hne
    rw [hs] at hne ⊢
    split
    · show k + 1 - 1 < k + 1; omega
    · rename_i e; rw [if_neg e] at hne; have := t.val q hq hne; show _ < k + 1; omega
  · intro v hv
    by_cases e : v = k
    · subst e
      refine ⟨m, hm, by rw [hs, if_pos rfl], fun i hi => ?_⟩
      rw [hs]
      split
      · omega
      · exact hp i hi
    · obtain ⟨m', h1, h2, h3⟩ := t.reach v (show v < k by have : v < k + 1 := hv; omega)
      refine ⟨m', h1, ?_, fun i hi => ?_⟩
      · rw [hs, if_neg (fun e => by rw [← e, hz] at h2; omega)]; exact h2
      · rw [hs]
        split
        · omega
        · exact h3 i hi
  · intro q q' hq hq' he hne
    have small : ∀ p, p < n → tt T p < k + 1 := fun p hp => by
      by_cases e : tt T p = 0
      · omega
      · have := t.val p hp e; show _ < _; omega
    rw [hs, hs] at he
    rw [hs] at hne
    by_cases e1 : pos n (h k) m = q
    · by_cases e2 : pos n (h k) m = q'
      · rw [← e1, ← e2]
      · rw [if_pos e1, if_neg e2] at he; have := small q' hq'; omega
    · by_cases e2 : pos n (h k) m = q'
      · rw [if_neg e1, if_pos e2] at he; have := small q hq; omega
      · rw [if_neg e1, if_neg e2] at he; rw [if_neg e1] at hne; exact t.inj q q' hq hq' he hne

/-- ALONG THE WAY TO ITS PLACE A VALUE IS NOT MET. -/
theorem Tab.way {n : Nat} {h : Nat → Nat} {S : Nat → Prop} {T : List Nat} (t : Tab n h S T) {v m : Nat} (hh : h v < n) (hm : m < n) (hv : tt T (pos n (h v) m) = v + 1) {i : Nat} (hi : i < m) : tt T (pos n (h v) i) ≠ v + 1 := by
  intro e
  have := t.inj _ _ (pos_lt (by omega)) (pos_lt (by omega)) (e.trans hv.symm) (by omega)
  have := pos_inj hh (by omega) hm this
  omega

/-! ### Taking a value out. e: an empty place; places are told by how far behind e they lie. -/
def L (n e : Nat) (T : List Nat) (x : Nat) : Nat := tt T (pos n e x)

theorem L_set {n e : Nat} {T : List Nat} (hl : T.length = n) (he : e < n) {a x : Nat} (ha : a < n) (hx : x < n) (v : Nat) : L n e (T.set (pos n e a) v) x = if a = x then v else L n e T x := by
  unfold L
  rw [tt_set (by rw [hl]; exact pos_lt (by omega))]
  by_cases h : a = x
  · subst h; simp
  · rw [if_neg h, if_neg (fun e' => h (pos_inj he ha hx e'))]

structure Un (n e : Nat) (h : Nat → Nat) (S : Nat → Prop) (c : Nat) (T : List Nat) (xp xq : Nat) : Prop where
  len : T.length = n
  elt : e < n
  one : 1 ≤ xp
  lt : xp < xq
  le : xq ≤ n
  z : tt T e = 0
  hlt : ∀ v, S v → h v < n
  reach : ∀ v, S v → ∃ x, x < n ∧ x ≠ xp ∧ L n e T x = v + 1 ∧ bk n e (h v) ≤ x ∧ (∀ y, bk n e (h v) ≤ y → y < x → y ≠ xp → L n e T y ≠ 0) ∧ (xp < x → x < xq → xp < bk n e (h v))
  val : ∀ x, x < n → x ≠ xp → L n e T x ≠ 0 → S (L n e T x - 1)
  inj : ∀ x x', x < n → x' < n → x ≠ xp → x' ≠ xp → L n e T x = L n e T x' → L n e T x ≠ 0 → x = x'
  count : cnt (T.set (pos n e xp) 0) = c

/-- At the start: value j lies at place p. -/
theorem Un.start {n k j p : Nat} {h : Nat → Nat} {T : List Nat} (t : Tab n h (fun v => v < k) T) (hh : ∀ v, v < k → h v < n) (hc : cnt T < n) (hp : p < n) (hj : tt T p = j + 1) :
    ∃ e xp, p = pos n e xp ∧ Un n e h (fun v => v < k ∧ v ≠ j) (cnt T - 1) T xp (xp + 1) := by
  obtain ⟨e, he', hz⟩ := some_empty (T := T) (by rw [t.len]; exact hc)
  have he : e < n := by rw [← t.len]; exact he'
  have hpb := pos_bk he hp
  have hbn := bk_lt he hp
  refine ⟨e, bk n e p, hpb.symm, t.len, he, ?_, Nat.lt_succ_self _, hbn, hz, fun v hv => hh v hv.1, ?_, ?_, ?_, ?_⟩
  · by_cases h0 : bk n e p = 0
    · rw [h0, pos_zero he] at hpb; rw [hpb] at hz; omega
    · omega
  · rintro v ⟨hv, hvj⟩
    obtain ⟨m, hm, h1, h2⟩ := t.reach v hv
    have hb := bk_lt he (hh v hv)
    have hpp : ∀ i, pos n (h v) i = pos n e (bk n e (h v) + i) := fun i => by
      have := pos_pos (n := n) (e := e) (x := bk n e (h v)) (i := i)
      rw [pos_bk he (hh v hv)] at this
      exact this
    have hx : bk n e (h v) + m < n := by
      by_cases hx : bk n e (h v) + m < n
      · exact hx
      · have e1 : pos n (h v) (n - bk n e (h v)) = e := by
          rw [hpp, show bk n e (h v) + (n - bk n e (h v)) = n by omega]; exact pos_full he
        by_cases em : n - bk n e (h v) = m
        · rw [← em, e1, hz] at h1; omega
        · exact absurd (by rw [e1]; exact hz) (h2 (n - bk n e (h v)) (by omega))
    refine ⟨bk n e (h v) + m, hx, ?_, ?_, by omega, ?_, by omega⟩
    · intro e1
      rw [hpp, e1, hpb, hj] at h1
      omega
    · unfold L; rw [← hpp]; exact h1
    · intro y hy hyx _
      have := h2 (y - bk n e (h v)) (by omega)
      rw [hpp, show bk n e (h v) + (y - bk n e (h v)) = y by omega] at this
      exact this
  · intro x hx hxp hne
    refine ⟨t.val _ (pos_lt (by omega)) hne, fun e1 => hxp ?_⟩
    have hne' : tt T (pos n e x) ≠ 0 := hne
    have e2 : tt T (pos n e x) = tt T p := by
      have : tt T (pos n e x) - 1 = j := e1
      omega
    have := t.inj _ _ (pos_lt (by omega)) hp e2 hne'
    rw [← hpb] at this
    exact pos_inj he hx hbn this
  · intro x x' hx hx' _ _ heq hne
    exact pos_inj he hx hx' (t.inj _ _ (pos_lt (by omega)) (pos_lt (by omega)) heq hne)
  · rw [hpb]
    have := cnt_set T p 0 (by rw [t.len]; exact hp)
    rw [hj] at this
    simp only [nz, Nat.add_one_ne_zero, if_false, if_true] at this
    omega

/-- The value at q stays. -/
theorem Un.stay {n e c xp xq u : Nat} {h : Nat → Nat} {S : Nat → Prop} {T : List Nat} (t : Un n e h S c T xp xq) (hq : L n e T xq = u + 1) (hx : xq < n) (hh : xp < bk n e (h u)) : Un n e h S c T xp (xq + 1) := by
  refine ⟨t.len, t.elt, t.one, by have := t.lt; omega, hx, t.z, t.hlt, ?_, t.val, t.inj, t.count⟩
  intro v hv
  obtain ⟨x, h1, h2, h3, h4, h5, h6⟩ := t.reach v hv
  refine ⟨x, h1, h2, h3, h4, h5, fun a b => ?_⟩
  by_cases ex : x = xq
  · rw [ex, hq] at h3
    have : u = v := by omega
    rw [← this]; exact hh
  · exact h6 a (by omega)

/-- The value at q moves back to p. -/
theorem Un.move {n e c xp xq u : Nat} {h : Nat → Nat} {S : Nat → Prop} {T : List Nat} (t : Un n e h S c T xp xq) (hq : L n e T xq = u + 1) (hx : xq < n) (hh : ¬ xp < bk n e (h u)) :
    Un n e h S c (T.set (pos n e xp) (u + 1)) xq (xq + 1) := by
  have hlt := t.lt
  have hxp : xp < n := by omega
  have hs : ∀ x, x < n → L n e (T.set (pos n e xp) (u + 1)) x = if xp = x then u + 1 else L n e T x := fun x hx => L_set t.len t.elt hxp hx (u + 1)
  refine ⟨by rw [List.length_set]; exact t.len, t.elt, by omega, Nat.lt_succ_self _, hx, ?_, t.hlt, ?_, ?_, ?_, ?_⟩
  · rw [tt_set (by rw [t.len]; exact pos_lt (by omega)), if_neg]
    · exact t.z
    · intro e1
      have h1 : pos n e xp = pos n e 0 := by rw [e1, pos_zero t.elt]
      have := pos_inj t.elt hxp (by omega) h1
      have := t.one
      omega
  · intro v hv
    obtain ⟨x, h1, h2, h3, h4, h5, h6⟩ := t.reach v hv
    by_cases ev : v = u
    · have ex : x = xq := t.inj x xq h1 hx h2 (by omega) (by rw [h3, hq, ev]) (by omega)
      refine ⟨xp, hxp, by omega, by rw [hs xp hxp, if_pos rfl, ev], by rw [ev]; omega, ?_, by omega⟩
      intro y hy hyx _
      rw [hs y (by omega), if_neg (by omega)]
      exact h5 y hy (by omega) (by omega)
    · have ex : x ≠ xq := fun ex => by rw [ex, hq] at h3; omega
      refine ⟨x, h1, ex, by rw [hs x h1, if_neg (Ne.symm h2)]; exact h3, h4, ?_, by omega⟩
      intro y hy hyx _
      rw [hs y (by omega)]
      split
      · omega
      · rename_i e1; exact h5 y hy hyx (Ne.symm e1)
  · intro x hx' hxq hne
    rw [hs x hx'] at hne ⊢
    split
    · have := t.val xq hx (by omega) (by omega)
      rw [hq] at this
      exact this
    · rename_i e1; rw [if_neg e1] at hne; exact t.val x hx' (Ne.symm e1) hne
  · intro x x' hx1 hx2 n1 n2 heq hne
    rw [hs x hx1, hs x' hx2] at heq
    rw [hs x hx1] at hne
    by_cases e1 : xp = x
    · by_cases e2 : xp = x'
      · omega
      · rw [if_pos e1, if_neg e2] at heq
        exact absurd (t.inj x' xq hx2 hx (Ne.symm e2) (by omega) (by omega) (by omega)) n2
    · rw [if_neg e1] at heq hne
      by_cases e2 : xp = x'
      · rw [if_pos e2] at heq
        exact absurd (t.inj x xq hx1 hx (Ne.symm e1) (by omega) (by omega) hne) n1
      · rw [if_neg e2] at heq
        exact t.inj x x' hx1 hx2 (Ne.symm e1) (Ne.symm e2) heq hne
  · have hln : pos n e xp < T.length := by rw [t.len]; exact pos_lt (by omega)
    have hlq : pos n e xq < T.length := by rw [t.len]; exact pos_lt (by omega)
    have c0 := t.count
    have c1 := cnt_set T (pos n e xp) 0 hln
    have c2 := cnt_set T (pos n e xp) (u + 1) hln
    have c3 := cnt_set (T.set (pos n e xp) (u + 1)) (pos n e xq) 0 (by rw [List.length_set]; exact hlq)
    have e3 : tt (T.set (pos n e xp) (u + 1)) (pos n e xq) = u + 1 := by
      have := hs xq hx
      rw [if_neg (by omega), hq] at this
      exact this
    rw [e3] at c3
    simp only [nz, Nat.add_one_ne_zero, if_false, if_true] at c1 c2 c3
    omega

/-- At the end the hole is emptied: the table is whole without the value. -/
theorem Un.done {n e c xp xq : Nat} {h : Nat → Nat} {S : Nat → Prop} {T : List Nat} (t : Un n e h S c T xp xq) (hq : L n e T xq = 0) :
    Tab n h S (T.set (pos n e xp) 0) ∧ cnt (T.set (pos n e xp) 0) = c := by
  have hlt := t.lt
  have hle := t.le
  have hxp : xp < n := by omega
  have he := t.elt
  have hs : ∀ x, x < n → L n e (T.set (pos n e xp) 0) x = if xp = x then 0 else L n e T x := fun x hx => L_set t.len t.elt hxp hx 0
  have back : ∀ q, q < n → tt (T.set (pos n e xp) 0) q = L n e (T.set (pos n e xp) 0) (bk n e q) := fun q hq => by unfold L; rw [pos_bk he hq]
  refine ⟨⟨by rw [List.length_set]; exact t.len, ?_, ?_, ?_⟩, t.count⟩
  · intro q hq' hne
    rw [back q hq'] at hne ⊢
    rw [hs _ (bk_lt he hq')] at hne ⊢
    split
    · rename_i e1; rw [if_pos e1] at hne; exact absurd rfl hne
    · rename_i e1; rw [if_neg e1] at hne; exact t.val _ (bk_lt he hq') (Ne.symm e1) hne
  · intro v hv
    obtain ⟨x, h1, h2, h3, h4, h5, h6⟩ := t.reach v hv
    have hpp : ∀ i, pos n (h v) i = pos n e (bk n e (h v) + i) := fun i => by
      have := pos_pos (n := n) (e := e) (x := bk n e (h v)) (i := i)
      rw [pos_bk he (t.hlt v hv)] at this
      exact this
    refine ⟨x - bk n e (h v), by omega, ?_, ?_⟩
    · rw [hpp, show bk n e (h v) + (x - bk n e (h v)) = x by omega]
      have := hs x h1
      rw [if_neg (Ne.symm h2), h3] at this
      exact this
    · intro i hi
      rw [hpp]
      have := hs (bk n e (h v) + i) (by omega)
      unfold L at this
      rw [this]
      have hnp : xp ≠ bk n e (h v) + i := by
        intro e1
        by_cases hxq : x < xq
        · have := h6 (by omega) hxq; omega
        · by_cases ex : x = xq
          · rw [ex, hq] at h3; omega
          · exact h5 xq (by omega) (by omega) (by omega) hq
      rw [if_neg hnp]
      exact h5 _ (by omega) (by omega) (Ne.symm hnp)
  · intro q q' hq1 hq2 heq hne
    rw [back q hq1, back q' hq2, hs _ (bk_lt he hq1), hs _ (bk_lt he hq2)] at heq
    rw [back q hq1, hs _ (bk_lt he hq1)] at hne
    by_cases e1 : xp = bk n e q
    · rw [if_pos e1] at hne; exact absurd rfl hne
    · rw [if_neg e1] at heq hne
      by_cases e2 : xp = bk n e q'
      · rw [if_pos e2] at heq; exact absurd heq hne
      · rw [if_neg e2] at heq
        have := t.inj _ _ (bk_lt he hq1) (bk_lt he hq2) (Ne.symm e1) (Ne.symm e2) heq hne
        rw [← pos_bk he hq1, ← pos_bk he hq2, this]

/-- THE TEST OF unplace IN PLACES: how far behind p a place lies. -/
theorem dist {n e a b : Nat} (he : e < n) (ha : a < n) (hb : b < n) : (pos n e b + n - pos n e a) % n = if a ≤ b then b - a else b + n - a := by
  have h1 := pos_eq he ha
  have h2 := pos_eq he hb
  have ha' := pos_lt (n := n) (h := e) (s := a) (by omega)
  have hb' := pos_lt (n := n) (h := e) (s := b) (by omega)
  by_cases hle : pos n e a ≤ pos n e b
  · rw [show pos n e b + n - pos n e a = (pos n e b - pos n e a) + n by omega, Nat.add_mod_right, Nat.mod_eq_of_lt (by omega)]
    split at h1 <;> split at h2 <;> split <;> omega
  · rw [Nat.mod_eq_of_lt (by omega)]
    split at h1 <;> split at h2 <;> split <;> omega

end Go.Proofs.Ybulkkoo.Probe
