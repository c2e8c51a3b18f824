/-
  THE WALK OF memo's place (15).
-/
import Derived.Test.YbulkkooProbeWalks
namespace Go.Proofs.Ybulkkoo.Probe
open Go.RowKit

set_option maxHeartbeats 400000 in
theorem place_any (bm bp g k kc n : Nat) (H : Nat → Nat) (T : List Nat) (w : World) (hs : MS w bm bp g k kc n H T) (i m : Nat) (hi : i < k) (hn : 0 < n) (hn' : n ≤ 16) (hk' : k ≤ 16) (hb : H i ≤ 18446744073709551615) (hle : ∀ q, q < n → tt T q ≤ k) (hm : MissAt T n (H i % n) i m) :
    Calls Yba.prog 15 #[.pointer (some ⟨bm, 0, none⟩), .int .i64 i] w fun e w' => e = .returned (.tuple #[]) ∧ MS w' bm bp g k kc n H (T.set (pos n (H i % n) m) (i + 1)) ∧ Still1 w w' bp := by
  have cp := hs.cp
  have ck := hs.ck
  have c1 := hs.key i hi
  have c2 := hs.hash i hi
  have hpn : pos n (H i % n) m < n := pos_lt hn
  have c3 := hs.place hpn
  have f3 := hs.pl.frozenAt (pos n (H i % n) m)
  have HS : Hid (MS w bm bp g k kc n H T) := hs
  have HM : Hid (MissAt T n (H i % n) i m) := hm
  have HL : Hid (∀ q, q < n → tt T q ≤ k) := hle
  have hi1 : (i : Int) < (k : Int) := by omega
  clear hs hm hle
  go_enter Yba.func15, Yba.ntmps15
  go_wp2
  go_quiet ((go_at_call 16; exact Calls.quiet_of_same (find_miss bm bp g k kc n H T _ (HS.out.drewN _) i (H i) m hn hn' hk' hb HL.out HM.out)))
  go_wp2
  go_end0
  exact ⟨rfl, (HS.out.drewN _).setPlace _ (i + 1), ((Still1.refl w bp).drewN _).setCell _ _⟩
end Go.Proofs.Ybulkkoo.Probe
