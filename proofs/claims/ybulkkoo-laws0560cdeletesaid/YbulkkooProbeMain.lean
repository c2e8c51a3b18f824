/-
  THE WALK OF LawS0560CDelete (8).
-/
import Derived.Test.YbulkkooProbeLaw
import Derived.Deep.RegionLaw
import Derived.Deep.CutRange
import Derived.Deep.DeepCutAuto
namespace Go.Proofs.Ybulkkoo.Probe
open Go.RowKit

theorem undrew {w w' : World} {r : Option Nat} (h : w.drew.grownBy w' r) : w.grownBy w' r := ⟨h.os, h.tape, h.output, h.size, h.block⟩

set_option maxRecDepth 100000 in
set_option maxHeartbeats 1000000 in
theorem lawDel_long (a : Option Addr) (len cap sel del : Nat) (w : World) (h : 1024 < len) :
    Calls Yba.prog 8 #[.slice a len cap, .int .u8 sel, .int .u64 del] w fun e w' => e = .returned (.bool true) ∧ Below w.heap.size w w' := by
  have hl : (1024 : Int) < (len : Int) := by omega
  go_enter Yba.func8, Yba.ntmps8
  go_wp2
  go_ret
  exact ⟨rfl, Below.refl _ _⟩

set_option maxRecDepth 100000 in
set_option maxHeartbeats 1000000 in
theorem lawDel_empty (a : Option Addr) (cap sel del n : Nat) (w : World) (hsel : sel ≤ 255) (hn : 2 + (sel : Int) % 15 = (n : Int)) :
    Calls Yba.prog 8 #[.slice a 0 cap, .int .u8 sel, .int .u64 del] w fun e w' => e = .returned (.bool true) ∧ Below w.heap.size w w' := by
  have ht : ¬ (n : Int) - 1 < 0 := by omega
  have hn2 : 2 ≤ n := by omega
  have hn16 : n ≤ 16 := by omega
  go_enter Yba.func8, Yba.ntmps8
  go_wp2
  go_ret
  exact ⟨rfl, Below.refl _ _⟩

set_option maxRecDepth 100000 in
set_option maxHeartbeats 1000000 in
theorem lawDel_any (H : Nat → Nat) (b off len cap sel del n c : Nat) (w : World) (hlen0 : 0 < len) (hlen : len ≤ 1024) (hb : b < w.heap.size) (hsel : sel ≤ 255) (hdel : del ≤ 18446744073709551615)
    (hn : 2 + (sel : Int) % 15 = (n : Int)) (hc1 : c ≤ len) (hc2 : c + 1 ≤ n) (hc3 : c = len ∨ c + 1 = n) (hc0 : 0 < c)
    (hH : ∀ j, j < len → H j ≤ 18446744073709551615) (hc : ∀ j, j < len → w.cell? ⟨b, off + j, none⟩ = some (.int .u64 (H j : Int))) :
    Calls Yba.prog 8 #[.slice (some ⟨b, off, none⟩) len cap, .int .u8 sel, .int .u64 del] w fun e w' => e = .returned (.bool true) ∧ Below w.heap.size w w' := by
  have hl : ¬ (1024 : Int) < (len : Int) := by omega
  have hn2 : 2 ≤ n := by omega
  have hn16 : n ≤ 16 := by omega
  have HC : Hid (∀ j, j < len → w.cell? ⟨b, off + j, none⟩ = some (.int .u64 (H j : Int))) := hc
  have HH : Hid (∀ j, j < len → H j ≤ 18446744073709551615) := hH
  have HC3 : Hid (c = len ∨ c + 1 = n) := hc3
  obtain ⟨i0, hi, hz0, hz1, hz2⟩ := info_parts info3'
  clear hc hH hc3
  go_enter Yba.func8, Yba.ntmps8
  go_upto_if 33 with fail
  go_cut [8] (fun v wx => v = .int .i64 (c : Int) ∧ wx = w)
  case first =>
    by_cases ht : (n : Int) - 1 < (len : Int)
    · go_wp2
      go_meet
      case rel => exact ⟨by have h3 := HC3.out; have e : (n : Int) - 1 = (c : Int) := by omega
                            rw [e], rfl⟩
    · go_wp2
      go_meet
      case rel => exact ⟨by have h3 := HC3.out; have e : (len : Int) = (c : Int) := by omega
                            rw [e], rfl⟩
  case rest =>
    obtain ⟨rfl, hw⟩ := hcut
    obtain rfl := hw.symm
    clear hw
    have hcz : ((c : Int) == 0) = false := by simp; omega
    go_wp2_with (at_make; refine wpList_make_full _ rfl _ _ 22 rfl 0 3 i0 (.int .i64 0) 1 Yba.underlying22 hi hz0 hz1 .i64 .i64 _ _ n rfl rfl rfl rfl ?c1 ?c2 ?c3 ?_)
    case c1 => omega
    case c2 => unfold maxLen; omega
    intro w1 hA hgrow
    have HS : Hid (∀ (cs : Array Value) (e : TypeId), cs[0]? = some (.slice none 0 0) → cs[2]? = some (.slice (some ⟨w.heap.size, 0, none⟩) n n) → LS w (w1.alloc (.cells cs e)) w.heap.size w1.heap.size n 0 H (.slice none 0 0) (List.replicate n 0)) :=
      fun cs e h0 h2 => LS.start H cs e hA hgrow h0 h2
    clear hA hgrow hi hz0 hz1 hz2 i0
    go_wp2
    go_loopw [10] (fun x wr => ∃ (i : Nat) (kv : Value) (T : List Nat), x = .int .i64 (i : Int) ∧ i ≤ c ∧ Hid (LS w wr w.heap.size w1.heap.size n i H kv T)) (fun x _ => c - (intOf x).toNat)
    case atStart => exact ⟨0, _, _, rfl, Nat.zero_le _, HS.out _ _ rfl rfl⟩
    case round =>
      obtain ⟨i, kv, T, rfl, hi, HR⟩ := hrel
      by_cases hlt : i < c
      · have cH : wr.cell? ⟨b, off + i, none⟩ = some (.int .u64 (H i : Int)) := (HR.out.below.cell (p := ⟨b, off + i, none⟩) hb).trans (HC.out i (by omega))
        have ck := HR.out.ck
        have hlr := HR.out.kept.lt
        have hsz := HR.out.size
        have hw1 := HR.out.lt
        have ag : kv.ownBlock ≠ some w1.heap.size := fun e => by have := hlr _ e; omega
        have ab : kv.ownBlock ≠ some b := fun e => by have := hlr _ e; omega
        have hown := HR.out.kept
        have hi0' : (0 : Int) ≤ (i : Int) := Int.natCast_nonneg _
        have hi1 : (i : Int) < (len : Int) := by omega
        obtain ⟨i5, hj0, hy0, hy1, hy2⟩ := info_parts info49
        have hwr : IntKind.i64.wrap ((i : Int) + 1) = (i : Int) + 1 := by rw [IntKind.wrap_i64]; omega
        have cka : ∀ o, (wr.alloc o).cell? ⟨w1.heap.size, 0, none⟩ = some kv := fun o => (World.cell?_of_block (Below.heap_alloc wr o w1.heap.size (by omega))).trans ck
        clear hlr
        go_wp2
        go_region_law
          ((refine step_append_lies _ (by rfl) _ _ _ (by rfl) (w1.heap.size + 1) 49 i5 _ 5 40 Yba.underlying42 hj0 hy0 hy1 hy2 rfl (by omega) kv i (keptCells H i) (by rfl) ((hown.alloc _).drew)
              ⟨wr.heap.size, 0, none⟩ 1 1 (kept1 H i) (by rfl) (by rfl) (World.news_of_block (cs := #[.int .i64 (i : Int), .int .u64 (H i : Int), .int .i64 0, .int .i64 0, .int .i64 ((i : Int) + 1)]) (t := 49) (fr := (0, 0)) (heap_alloc_new wr _)) (by simp [Value.oneCell', kept1])
              (by omega) (by unfold maxLen; omega) (by omega) (by simp; omega) (wr.heap.size + 1) (by simp) ?_; intro gg kc w2 hown1 hgrow hat hlt2; obtain ⟨d1, d2, d3, d4, d5, d6⟩ := HR.out.appended (undrew hgrow); have d7 : w2.cell? ⟨b, off + i, none⟩ = some (.int .u64 (H i : Int)) := (d5.cell (p := ⟨b, off + i, none⟩) hb).trans (HC.out i (by omega))))
        all_goals
          obtain ⟨m, hm, hmiss⟩ := HR.out.miss (by omega)
          have HM : Hid (m < n ∧ MissAt T n (H i % n) i m) := ⟨hm, hmiss⟩
          have HK : Hid (w2.ownsRow (w1.heap.size + 1) 49 5 (.slice (some ⟨gg, 0, none⟩) (i + 1) kc) (i + 1) (keptCells H (i + 1))) := hown1
          have HMS : Hid (MS (w2.setCell ⟨w1.heap.size, 0, none⟩ (.slice (some ⟨gg, 0, none⟩) (i + 1) kc)) w1.heap.size w.heap.size gg (i + 1) kc n H T) := LS.stored HR.out.lt d1 d3 HK.out d4
          have HD : Hid (w2.frozen? ⟨w1.heap.size, 0, none⟩ = false ∧ Below w.heap.size w w2 ∧ w1.heap.size + 1 ≤ w2.heap.size) := ⟨d2, d5, d6⟩
          have HL : Hid (∀ q, q < n → tt T q ≤ i + 1) := fun q hq => HR.out.tab.le (fun v hv => by omega) q hq
          clear hm hmiss hown1 hgrow hat hlt2 d1 d2 d3 d4 d5 d6 d7 cka ag ab hown ck cH hwr hj0 hy0 hy1 hy2 i5
          go_wp2_with (go_at_call 15; go_must (refine (place_any w1.heap.size w.heap.size gg (i + 1) kc n H T _ HMS.out i m (by omega) (by omega) hn16 (by omega) (HH.out i (by omega)) HL.out HM.out.2).mono ?_); rintro e w3 ⟨rfl, h3, st⟩)
          have HR3 : Hid (LS w w3 w.heap.size w1.heap.size n (i + 1) H (.slice (some ⟨gg, 0, none⟩) (i + 1) kc) (T.set (pos n (H i % n) m) (i + 1))) :=
            LS.placed HR.out.lt HD.out.1 HK.out HD.out.2.1 HD.out.2.2 HR.out.tab HR.out.count HM.out.1 HM.out.2 h3 st
          clear h3 st
          try go_wp2
          go_roundw
          case rel => exact ⟨i + 1, _, _, by go_num, by omega, HR3⟩
          case measure => simp [intOf]; omega
      · obtain rfl : i = c := by omega
        obtain ⟨g, kc, hkv, hms⟩ := HR.out.memo hc0
        obtain ⟨j, hj⟩ : ∃ j, j = del % i := ⟨_, rfl⟩
        have hji : j < i := by rw [hj]; exact Nat.mod_lt _ hc0
        have hjz : (del : Int) % (i : Int) = (j : Int) := by rw [hj]; rfl
        obtain ⟨m, hm, hhit⟩ := HR.out.tab.hit (v := j) (by omega) hji
        have ck := hms.ck
        have cp := hms.cp
        have ch := hms.hash j hji
        obtain ⟨p, hp⟩ : ∃ p, p = pos n (H j % n) m := ⟨_, rfl⟩
        have hpn : p < n := by rw [hp]; exact pos_lt (by omega)
        have HF : Hid (∀ wx, MS wx w1.heap.size w.heap.size g i kc n H T → Calls Yba.prog 16 #[.pointer (some ⟨w1.heap.size, 0, none⟩), .int .i64 j, .int .u64 (H j)] wx fun e w' => e = .returned (.tuple #[.int .i64 j, .int .i64 p]) ∧ w' = wx) := by
          intro wx hx
          rw [hp]
          exact find_hit w1.heap.size w.heap.size g i kc n H T wx hx j (H j) m (by omega) hn16 (by omega) (HH.out j (by omega)) (fun q hq => HR.out.tab.le (fun v hv => hv) q hq) hhit
        have HU : Hid (∀ wx, MS wx w1.heap.size w.heap.size g i kc n H T → Calls Yba.prog 17 #[.pointer (some ⟨w1.heap.size, 0, none⟩), .int .i64 p] wx fun e w' => e = .returned (.tuple #[]) ∧
            ∃ T', MS w' w1.heap.size w.heap.size g i kc n H T' ∧ Tab n (fun v => H v % n) (fun v => v < i ∧ v ≠ j) T' ∧ cnt T' = cnt T - 1 ∧ Still1 wx w' w.heap.size) := by
          intro wx hx
          exact unplace_any w1.heap.size w.heap.size g i kc n H T wx hx j p (by omega) hn16 (by omega) (fun v hv => HH.out v (by omega)) HR.out.tab (by rw [HR.out.count]; omega) hpn (by rw [hp]; exact hhit.1)
        have HMS : Hid (MS wr w1.heap.size w.heap.size g i kc n H T) := hms
        have HB : Hid (Below w.heap.size w wr ∧ cnt T = i) := ⟨HR.out.below, HR.out.count⟩
        clear hkv hms hj hp hhit hm HR HS HC
        go_wp2_with (go_at_call 16; go_must (refine (HF.out _ HMS.out).mono ?_); rintro e w' ⟨rfl, hw⟩; obtain rfl := hw.symm)
        refine (HU.out _ HMS.out).mono ?_
        rintro e w4 ⟨rfl, T', hms', htab', hcnt', hst'⟩
        have HM4 : Hid (MS w4 w1.heap.size w.heap.size g i kc n H T') := hms'
        have HT4 : Hid (Tab n (fun v => H v % n) (fun v => v < i ∧ v ≠ j) T' ∧ cnt T' = i - 1) := ⟨htab', by rw [hcnt', HB.out.2]⟩
        have HB4 : Hid (Below w.heap.size w w4) := HB.out.1.trans ⟨hst'.os, hst'.tape, hst'.output, Nat.le_of_eq hst'.size.symm, fun k hk => hst'.block k (by omega)⟩
        have ck4 := hms'.ck
        have cp4 := hms'.cp
        clear hms' htab' hcnt' hst' HMS HF HU HB ck cp ch
        go_wp2
        go_loop [14, 15] (fun o x => ∃ q : Nat, x = .int .i64 (q : Int) ∧ q ≤ n ∧ o = .int .i64 (cnt (T'.take q) : Nat)) (fun _ x => n - (intOf x).toNat)
        case atStart => exact ⟨0, rfl, Nat.zero_le _, rfl⟩
        case round =>
          obtain ⟨q, rfl, hq, rfl⟩ := hrel
          by_cases hqn : q < n
          · have cq := HM4.out.place hqn
            have hct := cnt_take T' q (by rw [HT4.out.1.len]; exact hqn)
            have hle := cnt_le (T'.take q)
            have hlt2 : (T'.take q).length ≤ q := List.length_take_le _ _
            by_cases hz : tt T' q = 0
            · rw [hz] at cq hct
              simp only [Int.cast_ofNat_Int] at cq
              have HC1 : Hid (cnt (T'.take (q + 1)) = cnt (T'.take q)) := hct
              clear hz hct
              go_wp2
              go_round
              case rel => exact ⟨q + 1, by go_num, by omega, by rw [HC1.out]⟩
              case measure => simp [intOf]; omega
            · obtain ⟨u, hu⟩ : ∃ u, tt T' q = u + 1 := ⟨tt T' q - 1, by omega⟩
              have hv := HT4.out.1.val q hqn hz
              rw [hu] at cq hct hv
              simp only [Int.natCast_add, Int.cast_ofNat_Int] at cq
              have hui : u < i := hv.1
              have huj : u ≠ j := hv.2
              have hb1 : ((u : Int) + 1 == (j : Int) + 1) = false := by simp; omega
              have HC1 : Hid (cnt (T'.take (q + 1)) = cnt (T'.take q) + 1) := hct
              clear hz hct hu hv
              go_wp2
              go_round
              case rel => exact ⟨q + 1, by go_num, by omega, by rw [HC1.out]; go_num⟩
              case measure => simp [intOf]; omega
          · obtain rfl : n = q := by omega
            have hfull : cnt (T'.take n) = i - 1 := by rw [List.take_of_length_le (by rw [HT4.out.1.len]; exact Nat.le_refl _)]; exact HT4.out.2
            rw [hfull]
            have hi1 : ((i - 1 : Nat) : Int) = (i : Int) - 1 := by omega
            rw [hi1]
            clear hfull hi1
            have HF4 : Hid (∀ r, r < i → r ≠ j → ∃ p, p < n ∧ tt T' p = r + 1 ∧ Calls Yba.prog 16 #[.pointer (some ⟨w1.heap.size, 0, none⟩), .int .i64 r, .int .u64 (H r)] w4 fun e w' => e = .returned (.tuple #[.int .i64 r, .int .i64 p]) ∧ w' = w4) := by
              intro r hr hrj
              obtain ⟨m, _, hhit⟩ := HT4.out.1.hit (v := r) (by omega) ⟨hr, hrj⟩
              exact ⟨pos n (H r % n) m, pos_lt (by omega), hhit.1, find_hit w1.heap.size w.heap.size g i kc n H T' w4 HM4.out r (H r) m (by omega) hn16 (by omega) (HH.out r (by omega)) (fun q hq => HT4.out.1.le (fun v hv => hv.1) q hq) hhit⟩
            have HJ4 : Hid (∃ p : Nat, Calls Yba.prog 16 #[.pointer (some ⟨w1.heap.size, 0, none⟩), .int .i64 j, .int .u64 (H j)] w4 fun e w' => e = .returned (.tuple #[.int .i64 (-1), .int .i64 p]) ∧ w' = w4) := by
              obtain ⟨m, _, hmiss⟩ := HT4.out.1.missed (v := j) (by omega) (by rw [HT4.out.2]; omega) (fun h => h.2 rfl)
              exact ⟨pos n (H j % n) m, find_miss w1.heap.size w.heap.size g i kc n H T' w4 HM4.out j (H j) m (by omega) hn16 (by omega) (HH.out j (by omega)) (fun q hq => HT4.out.1.le (fun v hv => hv.1) q hq) hmiss⟩
            go_wp2
            go_loop [16, 17, 18] (fun x _ _ => ∃ r : Nat, x = .int .i64 (r : Int) ∧ r ≤ i) (fun x _ _ => i - (intOf x).toNat)
            case atStart => exact ⟨0, rfl, Nat.zero_le _⟩
            case round =>
              obtain ⟨r, rfl, hr⟩ := hrel
              by_cases hri : r < i
              · by_cases hrj : r = j
                · subst hrj
                  go_wp2
                  go_round
                  case rel => exact ⟨r + 1, by go_num, by omega⟩
                  case measure => simp [intOf]; omega
                · obtain ⟨pr, hprn, hpv, hfind⟩ := HF4.out r hri hrj
                  have cr := HM4.out.hash r hri
                  have cv := HM4.out.place hprn
                  rw [hpv] at cv
                  simp only [Int.natCast_add, Int.cast_ofNat_Int] at cv
                  have hbr : ((r : Int) == (j : Int)) = false := by simp; omega
                  have HFR : Hid (Calls Yba.prog 16 #[.pointer (some ⟨w1.heap.size, 0, none⟩), .int .i64 r, .int .u64 (H r)] w4 fun e w' => e = .returned (.tuple #[.int .i64 r, .int .i64 pr]) ∧ w' = w4) := hfind
                  clear hfind hpv hrj
                  go_wp2_with (go_at_call 16; go_must (refine HFR.out.mono ?_); rintro e w' ⟨rfl, hw⟩; obtain rfl := hw.symm)
                  go_round
                  case rel => exact ⟨r + 1, by go_num, by omega⟩
                  case measure => simp [intOf]; omega
              · obtain ⟨pj, hfind⟩ := HJ4.out
                have HFJ : Hid (Calls Yba.prog 16 #[.pointer (some ⟨w1.heap.size, 0, none⟩), .int .i64 j, .int .u64 (H j)] w4 fun e w' => e = .returned (.tuple #[.int .i64 (-1), .int .i64 pj]) ∧ w' = w4) := hfind
                have cj := HM4.out.hash j hji
                clear hfind
                go_wp2_with (go_at_call 16; go_must (refine HFJ.out.mono ?_); rintro e w' ⟨rfl, hw⟩; obtain rfl := hw.symm)
                go_ret
                exact ⟨rfl, HB4.out⟩
end Go.Proofs.Ybulkkoo.Probe
