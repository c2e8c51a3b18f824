/-
  THE WALK OF memo's unplace (17).
-/
import Derived.Test.YbulkkooProbeWalks
namespace Go.Proofs.Ybulkkoo.Probe
open Go.RowKit

/-- The test in the walk's own numbers. -/
theorem int_dist {n a b : Nat} (ha : a < n) : (((b : Int) - (a : Int)) % (n : Int)) = ((b + n - a) % n : Nat) := by
  have e : (b : Int) - (a : Int) + (n : Int) = ((b + n - a : Nat) : Int) := by omega
  rw [← Int.add_emod_right, e]
  rfl

/-- WHAT A ROUND NEEDS: the value at q, its home, and how the test comes out. -/
theorem Un.round {n e c xp xq k j : Nat} {H : Nat → Nat} {T : List Nat} (t : Un n e (fun v => H v % n) (fun v => v < k ∧ v ≠ j) c T xp xq) (hne : tt T (pos n e xq) ≠ 0) :
    ∃ u, xq < n ∧ tt T (pos n e xq) = u + 1 ∧ u < k ∧ (H u % n < n) ∧
      ((H u % n = pos n e xp ∧ Un n e (fun v => H v % n) (fun v => v < k ∧ v ≠ j) c (T.set (pos n e xp) (u + 1)) xq (xq + 1)) ∨
       (H u % n ≠ pos n e xp ∧ (H u % n + n - pos n e xp) % n ≤ (pos n e xq + n - pos n e xp) % n ∧ Un n e (fun v => H v % n) (fun v => v < k ∧ v ≠ j) c T xp (xq + 1)) ∨
       (H u % n ≠ pos n e xp ∧ ¬ (H u % n + n - pos n e xp) % n ≤ (pos n e xq + n - pos n e xp) % n ∧ Un n e (fun v => H v % n) (fun v => v < k ∧ v ≠ j) c (T.set (pos n e xp) (u + 1)) xq (xq + 1))) := by
  have he := t.elt
  have hlt := t.lt
  have hle := t.le
  have hxq : xq < n := by
    by_cases h : xq = n
    · rw [h, pos_full he, t.z] at hne; exact absurd rfl hne
    · omega
  have hv := t.val xq hxq (by omega) hne
  have hu : tt T (pos n e xq) = (tt T (pos n e xq) - 1) + 1 := by omega
  refine ⟨tt T (pos n e xq) - 1, hxq, hu, hv.1, Nat.mod_lt _ (by omega), ?_⟩
  obtain ⟨u, hu'⟩ : ∃ u, u = tt T (pos n e xq) - 1 := ⟨_, rfl⟩
  rw [← hu'] at hu ⊢
  have hL : L n e T xq = u + 1 := hu
  have hS : u < k ∧ u ≠ j := by rw [hu']; exact hv
  obtain ⟨x, h1, h2, h3, h4, _, _⟩ := t.reach u hS
  have ex : x = xq := t.inj x xq h1 hxq h2 (by omega) (by rw [h3, hL]) (by omega)
  rw [ex] at h4
  have hhn : H u % n < n := Nat.mod_lt _ (by omega)
  have hpb : pos n e (bk n e (H u % n)) = H u % n := pos_bk he hhn
  have hbn := bk_lt he hhn
  have d1 := dist he (show xp < n by omega) hbn
  have d2 := dist he (show xp < n by omega) hxq
  rw [hpb] at d1
  have h4' : bk n e (H u % n) ≤ xq := h4
  by_cases hx : xp < bk n e (H u % n)
  · refine .inr (.inl ⟨?_, ?_, t.stay hL hxq hx⟩)
    · intro e1
      rw [← hpb] at e1
      have := pos_inj he hbn (by omega) e1
      omega
    · rw [d1, d2, if_pos (by omega), if_pos (by omega)]
      omega
  · by_cases e1 : H u % n = pos n e xp
    · exact .inl ⟨e1, t.move hL hxq hx⟩
    · refine .inr (.inr ⟨e1, ?_, t.move hL hxq hx⟩)
      have : bk n e (H u % n) ≠ xp := fun e2 => e1 (by rw [← hpb, e2])
      rw [d1, d2, if_neg (by omega), if_pos (by omega)]
      omega

theorem MS.of_heap {w w' : World} {bm bp g k kc n : Nat} {H : Nat → Nat} {T : List Nat} (h : MS w bm bp g k kc n H T) (e : w'.heap = w.heap) : MS w' bm bp g k kc n H T := by
  have hc : ∀ a, w'.cell? a = w.cell? a := fun a => World.cell?_of_block (by rw [e])
  refine ⟨by rw [hc]; exact h.ck, by rw [hc]; exact h.cp, fun i hi => by rw [hc]; exact h.key i hi, fun i hi => by rw [hc]; exact h.hash i hi, ?_, h.nmp, h.ngp⟩
  have := h.pl
  unfold World.ownsRow at this ⊢
  rw [e]
  exact this
theorem Still1.of_heap {w w' w'' : World} {b : Nat} (h : Still1 w w' b) (e : w''.heap = w'.heap) (e1 : w''.os = w'.os) (e2 : w''.tape = w'.tape) (e3 : w''.output = w'.output) : Still1 w w'' b :=
  ⟨e1.trans h.os, e2.trans h.tape, e3.trans h.output, by rw [e]; exact h.size, fun k hk => by rw [e]; exact h.block k hk⟩
theorem HQ_next {n e xq q : Nat} (h : q = pos n e xq) : ((q : Int) + 1) % (n : Int) = (pos n e (xq + 1) : Nat) := by rw [h]; exact int_pos n e xq

theorem home_r (bm bp n hh r : Nat) (hr : r = hh % n) (w : World) (hn : 0 < n) (hn' : n ≤ 16) (hb : hh ≤ 18446744073709551615) (cp : w.cell? ⟨bm, 2, none⟩ = some (.slice (some ⟨bp, 0, none⟩) n n)) :
    Calls Yba.prog 19 #[.pointer (some ⟨bm, 0, none⟩), .int .u64 hh] w fun e w' => e = .returned (.int .i64 r) ∧ w' = w := by
  subst hr
  exact home_any bm bp n hh w hn hn' hb cp

set_option maxHeartbeats 1000000 in
theorem unplace_any (bm bp g k kc n : Nat) (H : Nat → Nat) (T : List Nat) (w : World) (hs : MS w bm bp g k kc n H T) (j p : Nat) (hn : 0 < n) (hn' : n ≤ 16) (hk' : k ≤ 16) (hb : ∀ i, i < k → H i ≤ 18446744073709551615)
    (ht : Tab n (fun v => H v % n) (fun v => v < k) T) (hc : cnt T < n) (hp : p < n) (hj : tt T p = j + 1) :
    Calls Yba.prog 17 #[.pointer (some ⟨bm, 0, none⟩), .int .i64 p] w fun e w' => e = .returned (.tuple #[]) ∧
      ∃ T', MS w' bm bp g k kc n H T' ∧ Tab n (fun v => H v % n) (fun v => v < k ∧ v ≠ j) T' ∧ cnt T' = cnt T - 1 ∧ Still1 w w' bp := by
  obtain ⟨e, xp, hpx, hun⟩ := Un.start ht (fun v _ => Nat.mod_lt _ hn) hc hp hj
  have cp := hs.cp
  have hx0 : xp + 1 ≤ n := hun.le
  have HS : Hid (MS w bm bp g k kc n H T ∧ Un n e (fun v => H v % n) (fun v => v < k ∧ v ≠ j) (cnt T - 1) T xp (xp + 1)) := ⟨hs, hun⟩
  have HB : Hid (∀ i, i < k → H i ≤ 18446744073709551615) := hb
  have HE : Hid (e < n) := hun.elt
  subst hpx
  have hpn : pos n e xp < n := hp
  clear hs hun hb ht hc hj hp
  go_enter Yba.func17, Yba.ntmps17
  go_wp2
  go_loopg [1, 5, 6] (n - (xp + 1)) (fun gk p q _ wr => ∃ (T' : List Nat) (xp xq : Nat), xq + gk = n ∧ p = .int .i64 (pos n e xp : Nat) ∧ q = .int .i64 (pos n e xq : Nat) ∧
    Hid (MS wr bm bp g k kc n H T' ∧ Un n e (fun v => H v % n) (fun v => v < k ∧ v ≠ j) (cnt T - 1) T' xp xq ∧ Still1 w wr bp))
  case atStart => exact ⟨T, xp, xp + 1, by omega, rfl, by rw [int_pos], HS.out.1, HS.out.2, Still1.refl _ _⟩
  case round =>
    clear HS cp hx0 hpn
    obtain ⟨T', xp, xq, hg, rfl, rfl, HR⟩ := hrel
    obtain ⟨q, hq⟩ : ∃ q, q = pos n e xq := ⟨_, rfl⟩
    obtain ⟨pp, hpp⟩ : ∃ pp, pp = pos n e xp := ⟨_, rfl⟩
    have hqn : q < n := by rw [hq]; exact pos_lt hn
    have hppn : pp < n := by rw [hpp]; exact pos_lt hn
    have HQ : Hid (q = pos n e xq ∧ pp = pos n e xp) := ⟨hq, hpp⟩
    have cp := HR.out.1.cp
    have ck := HR.out.1.ck
    have c1 := HR.out.1.place hqn
    have c0 := HR.out.1.place hppn
    have f0 := HR.out.1.pl.frozenAt pp
    rw [← hq, ← hpp]
    by_cases hz : tt T' q = 0
    · rw [hz] at c1
      simp only [Int.cast_ofNat_Int] at c1
      have HZ : Hid (tt T' q = 0) := hz
      clear hq hpp hz
      go_wp2
      go_end0
      refine ⟨rfl, T'.set pp 0, HR.out.1.setPlace pp 0, ?_, ?_, HR.out.2.2.setCell _ _⟩
      · rw [HQ.out.2]; exact (HR.out.2.1.done (by rw [← HZ.out, HQ.out.1]; rfl)).1
      · rw [HQ.out.2]; exact (HR.out.2.1.done (by rw [← HZ.out, HQ.out.1]; rfl)).2
    · obtain ⟨u, hxq, hu, huk, hhn, hcase⟩ := HR.out.2.1.round (by rw [← hq]; exact hz)
      rw [← hq] at hu
      rw [hu] at c1
      simp only [Int.natCast_add, Int.cast_ofNat_Int] at c1
      have c2 := HR.out.1.hash u huk
      rw [← hpp, ← hq] at hcase
      obtain ⟨r, hr⟩ : ∃ r, r = H u % n := ⟨_, rfl⟩
      rw [← hr] at hcase hhn
      have HRR : Hid (r = H u % n) := hr
      have hbu := HB.out u huk
      clear hq hpp hz hu hr
      rcases hcase with ⟨e1, hn1⟩ | ⟨e1, ht, hn1⟩ | ⟨e1, ht, hn1⟩
      · have HN : Hid (Un n e (fun v => H v % n) (fun v => v < k ∧ v ≠ j) (cnt T - 1) (T'.set pp (u + 1)) xq (xq + 1)) := hn1
        subst e1
        clear hn1
        go_wp2
        go_quiet ((go_at_call 19; exact Calls.quiet_of_same (home_r bm bp n (H u) r HRR.out _ hn hn' hbu (by exact cp))))
        go_wp2
        go_quiet (fail)
        go_wp2
        go_region
        all_goals go_wp2
        all_goals go_roundg (gk - 1)
        all_goals first | omega | exact ⟨T'.set r (u + 1), xq, xq + 1, by omega, by rw [← HQ.out.1], by rw [HQ_next HQ.out.1], MS.of_heap (HR.out.1.setPlace r (u + 1)) rfl, HN.out, Still1.of_heap (HR.out.2.2.setCell r (.int .i64 ((u : Int) + 1))) rfl rfl rfl rfl⟩
      · have HN : Hid (Un n e (fun v => H v % n) (fun v => v < k ∧ v ≠ j) (cnt T - 1) T' xp (xq + 1)) := hn1
        have d1 : ((r : Int) - (pp : Int)) % (n : Int) ≤ ((q : Int) - (pp : Int)) % (n : Int) := by
          rw [int_dist hppn, int_dist hppn]; exact Int.ofNat_le.2 ht
        have e2 : ((r : Int) != (pp : Int)) = true := by simp; omega
        clear hn1 ht e1
        go_wp2
        go_quiet ((go_at_call 19; exact Calls.quiet_of_same (home_r bm bp n (H u) r HRR.out _ hn hn' hbu (by exact cp))))
        go_wp2
        go_quiet (fail)
        go_wp2
        go_roundg (gk - 1)
        all_goals first | omega | exact ⟨T', xp, xq + 1, by omega, by rw [← HQ.out.2], by rw [HQ_next HQ.out.1], MS.of_heap HR.out.1 rfl, HN.out, Still1.of_heap HR.out.2.2 rfl rfl rfl rfl⟩
      · have HN : Hid (Un n e (fun v => H v % n) (fun v => v < k ∧ v ≠ j) (cnt T - 1) (T'.set pp (u + 1)) xq (xq + 1)) := hn1
        have d1 : ¬ ((r : Int) - (pp : Int)) % (n : Int) ≤ ((q : Int) - (pp : Int)) % (n : Int) := by
          rw [int_dist hppn, int_dist hppn]; exact fun h => ht (Int.ofNat_le.1 h)
        have e2 : ((r : Int) != (pp : Int)) = true := by simp; omega
        clear hn1 ht e1
        go_wp2
        go_quiet ((go_at_call 19; exact Calls.quiet_of_same (home_r bm bp n (H u) r HRR.out _ hn hn' hbu (by exact cp))))
        go_wp2
        go_quiet (fail)
        go_wp2
        go_region
        all_goals go_wp2
        all_goals go_roundg (gk - 1)
        all_goals first | omega | exact ⟨T'.set pp (u + 1), xq, xq + 1, by omega, by rw [← HQ.out.1], by rw [HQ_next HQ.out.1], MS.of_heap (HR.out.1.setPlace pp (u + 1)) rfl, HN.out, Still1.of_heap (HR.out.2.2.setCell pp (.int .i64 ((u : Int) + 1))) rfl rfl rfl rfl⟩
end Go.Proofs.Ybulkkoo.Probe
