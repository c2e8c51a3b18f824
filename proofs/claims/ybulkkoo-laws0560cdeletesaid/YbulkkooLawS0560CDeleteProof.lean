import Derived.Test.YbulkkooRows
import Derived.Test.YbulkkooProbeMain
import Derived.WalkKit
import Derived.ProofKit
import Derived.OpenShut
import Derived.ShutString
import Derived.ChangeOld
import Derived.Below
namespace Go.Proofs.Ybulkkoo.lawS0560CDelete
open Go.ChangeShapes Go.WideShapes Go.ChangeAt Go.RowKit
open Go.ChangeMaps (open_string shut_string)
set_option linter.unusedVariables false

theorem own : ownKnob Yba.prog.godebug = none := by kernel_rfl
theorem laidOut : laidOutB Yba.prog = true := by kernel_rfl

/-- WHAT THE WALK IS TOLD OF A SLICE OF INTEGERS THAT CAME IN: it is nil; or it leads to a row of 'cap' cells, the numbers 'zs' (the first 'len' are its elements, the rest its spare room), each fitting its kind. -/
def IsRow (k : IntKind) (w : World) (a : Option Addr) (len cap : Nat) (zs : List Int) : Prop :=
  (a = none ∧ len = 0 ∧ cap = 0 ∧ zs = []) ∨
  ∃ x, a = some x ∧ len ≤ cap ∧ cap ≤ maxLen ∧ zs.length = cap ∧ (∀ i, i < zs.length → w.cell? (x.add i) = some (.int k (zs.getD i 0))) ∧ ∀ n ∈ zs, (Lit.int k n).wf = true

theorem u64_nat {x : Int} (h : (Lit.int .u64 x).wf = true) : ∃ m : Nat, x = (m : Int) ∧ m ≤ 18446744073709551615 := by
  have hb := bounds_u64 h
  exact ⟨x.toNat, by omega, by omega⟩
theorem u8_nat {x : Int} (h : (Lit.int .u8 x).wf = true) : ∃ m : Nat, x = (m : Int) ∧ m ≤ 255 := by
  have hb := bounds_u8 h
  exact ⟨x.toNat, by omega, by omega⟩

theorem walk (a0 : Option Addr) (len0 cap0 : Nat) (z0 : List Int) (a1 : Int) (a2 : Int) (w : World) (w0 : IsRow .u64 w a0 len0 cap0 z0) (w1 : (Lit.int .u8 a1).wf = true) (w2 : (Lit.int .u64 a2).wf = true) :
    Calls Yba.prog 8 #[.slice a0 len0 cap0, .int .u8 a1, .int .u64 a2] w fun e w' => e = .returned (.bool true) ∧ Below w.heap.size w w' := by
  obtain ⟨sel, rfl, hsel⟩ := u8_nat w1
  obtain ⟨del, rfl, hdel⟩ := u64_nat w2
  by_cases h : 1024 < len0
  · exact Probe.lawDel_long a0 len0 cap0 sel del w h
  · have hn : 2 + (sel : Int) % 15 = ((2 + sel % 15 : Nat) : Int) := by omega
    by_cases h0 : len0 = 0
    · subst h0
      exact Probe.lawDel_empty a0 cap0 sel del _ w hsel hn
    · rcases w0 with ⟨_, e0, _, _⟩ | ⟨x, rfl, hl, hm, hz, hc, hwf⟩
      · exact absurd e0 h0
      · obtain ⟨b, off, spot⟩ := x
        have hspot : spot = none := by simpa [Addr.add] using World.cell?_spot (hc 0 (by omega))
        subst hspot
        have hnat : ∀ j, j < len0 → z0.getD j 0 = (((z0.getD j 0).toNat : Nat) : Int) ∧ (z0.getD j 0).toNat ≤ 18446744073709551615 := by
          intro j hj
          have hmem : z0.getD j 0 ∈ z0 := by
            rw [List.getD_eq_getElem?_getD, List.getElem?_eq_getElem (by omega)]
            exact List.getElem_mem _
          obtain ⟨m, e, hm'⟩ := u64_nat (hwf _ hmem)
          rw [e]
          exact ⟨by simp, by simpa using hm'⟩
        have hc' : ∀ j, j < len0 → w.cell? ⟨b, off + j, none⟩ = some (.int .u64 (((z0.getD j 0).toNat : Nat) : Int)) := fun j hj => by
          rw [← (hnat j hj).1, ← add_plain]; exact hc j (by omega)
        have hb : b < w.heap.size := World.block_lt_of_cell? w ⟨b, off + 0, none⟩ (hc' 0 (by omega))
        by_cases ht : len0 ≤ 1 + sel % 15
        · exact Probe.lawDel_any (fun j => (z0.getD j 0).toNat) b off len0 cap0 sel del (2 + sel % 15) len0 w (by omega) (by omega) hb hsel hdel hn (Nat.le_refl _) (by omega) (.inl rfl) (by omega) (fun j hj => (hnat j hj).2) hc'
        · exact Probe.lawDel_any (fun j => (z0.getD j 0).toNat) b off len0 cap0 sel del (2 + sel % 15) (1 + sel % 15) w (by omega) (by omega) hb hsel hdel hn (by omega) (by omega) (.inr (by omega)) (by omega) (fun j hj => (hnat j hj).2) hc'

/-! ### THE ROW's STEP: WRITTEN OUT: LEAVE IT -/
set_option maxRecDepth 100000 in
theorem lifted (os : Os) (started : os.Started) (H : Type) (enc : TypeId × Value → H) :
    ReturnsInHanded {} Yba.checked os 8 .any (Rows.lawS0560CDeleteSpec.pre6 enc Yba.prog Yba.f8 Rows.lawS0560CDeleteRow.domain false) (Rows.lawS0560CDeleteSpec.post enc Yba.prog Yba.f8 false true false false) := by
  refine returnsInHanded_of_change (C := Yba.checked) own started (by kernel_rfl) Yba.func8
    (ChangeSpec.witness6 (enc := enc) (C := Yba.checked) false ⟨#[], #[.slice none 0 0, .int .u8 0, .int .u64 0], []⟩ 8 (by kernel_rfl) (by kernel_rfl) (by kernel_rfl) (by kernel_rfl)) ?_
  intro W base args ds gs before hval0 hW hcnd _
  have hval : ∀ (j : Nat) t v, Yba.f8.params[j]? = some t → args[j]? = some v → Value.okWide Yba.prog W .any base t v := hval0
  have hW' := hW
  obtain ⟨p, q, hA0, hV, rfl, hfz, hnd⟩ := hW
  have hA : DataW.TrodAll enc Yba.prog W 0 (fun _ => true) true Yba.f8.params.toList args.toList ds p := hA0
  rw [Yba.params8] at hA hval
  obtain ⟨v0, vs0, d0, ds0, p0, q0, hargs, rfl, rfl, h0, r0⟩ := trodAll_cons hA
  obtain ⟨v1, vs1, d1, ds1, p1, q1, rfl, rfl, rfl, h1, r1⟩ := trodAll_cons r0
  obtain ⟨v2, vs2, d2, ds2, p2, q2, rfl, rfl, rfl, h2, r2⟩ := trodAll_cons r1
  obtain ⟨rfl, rfl, rfl⟩ := trodAll_nil r2
  obtain rfl : args = #[v0, v1, v2] := by cases args; simp_all
  obtain ⟨rfl, rfl⟩ := trodVars_none hV
  obtain ⟨a0, len0, cap0, rfl⟩ := okWide_slice Yba.underlying40 (hval 0 40 v0 rfl rfl)
  have k0 := h0
  have lt0 : ∀ x ∈ p0, x.block < W.heap.size := by obtain ⟨m, hm⟩ := k0; exact DataW.trod_lt m _ _ _ hm
  obtain ⟨z0, w0⟩ : ∃ zs, IsRow .u64 W a0 len0 cap0 zs := by
    obtain ⟨fuel, hf⟩ := h0
    rcases open_ints Yba.underlying40 Yba.underlying43 (by kernel_rfl) hf with ⟨hcs, _⟩ | ⟨x, l, c, zs, hcs, _, hl, hm, hz, _, hcell, hwz⟩
    · simp [Value.cells] at hcs
      obtain ⟨rfl, rfl, rfl⟩ := hcs
      exact ⟨[], .inl ⟨rfl, rfl, rfl, rfl⟩⟩
    · simp [Value.cells] at hcs
      obtain ⟨rfl, rfl, rfl⟩ := hcs
      exact ⟨zs, .inr ⟨_, rfl, hl, hm, by simpa using hz, hcell, hwz⟩⟩
  obtain ⟨a1, rfl, rfl, rfl, w1⟩ := open_int Yba.underlying5 (hval 1 5 v1 rfl rfl) h1
  obtain ⟨a2, rfl, rfl, rfl, w2⟩ := open_int Yba.underlying41 (hval 2 41 v2 rfl rfl) h2
  clear hA0 hval0
  refine (walk a0 len0 cap0 z0 a1 a2 W w0 w1 w2).mono fun e W' ⟨he, bel⟩ => ?_
  subst he
  exact ⟨_, rfl, _, _, _, [], _, [], hW', trodAll_mk1 (shut_bool Yba.underlying4 _), (trodAll_cons_mk (Below.trod laidOut (by kernel_rfl) (of_decide_eq_true (by kernel_rfl)) k0 bel lt0) (trodAll_cons_mk (shut_int Yba.underlying5 w1) (trodAll_cons_mk (shut_int Yba.underlying41 w2) trodAll_mk0))), rfl, bel.frame _, fun h => by cases h⟩

theorem over : Rows.lawS0560CDeleteRow.holds Yba.pinned (OpenSpec.ofChange Rows.lawS0560CDeleteSpec) :=
  OpenClaim.holds_of_wide 8 Yba.f8 rfl rfl rfl rfl rfl rfl rfl ⟨rfl, rfl, rfl, rfl, rfl⟩ rfl rfl rfl rfl rfl (by kernel_rfl) Yba.func8 (by kernel_rfl)
    (of_decide_eq_true (by kernel_rfl)) (by unfold Func.isWrapper; first | (rw [if_pos (by decide +kernel)]; kernel_rfl) | (rw [if_neg (by decide +kernel)]; exact ⟨rfl, rfl⟩))
    (fun os started H enc _ => lifted os started H enc)

/-- ████ THE STATEMENT ████ -/
theorem proved : Rows.LawS0560CDeleteSaid := over
#print axioms proved
end Go.Proofs.Ybulkkoo.lawS0560CDelete
