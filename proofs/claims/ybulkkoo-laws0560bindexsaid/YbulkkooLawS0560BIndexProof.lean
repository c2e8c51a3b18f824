/-
  THE PROOF OF 'Rows.LawS0560BIndexSaid': typed after the shell of LawS0560BScan; the map by the library's laws on maps that came in.
-/
import Derived.Test.YbulkkooRows
import Derived.Test.YbulkkooIndexWalks
import Derived.WalkKit
import Derived.ProofKit
import Derived.OpenShut
import Derived.ShutString
import Derived.ChangeOld
import Derived.Below
import Derived.SliceStrings
import Derived.Maps.OwnSet
namespace Go.Proofs.Ybulkkoo.lawS0560BIndex
open Go.ChangeShapes Go.WideShapes Go.ChangeAt Go.RowKit Go.WideElems Go.Maps
open Go.ChangeMaps (open_string shut_string shut_map_nil)
set_option linter.unusedVariables false

theorem own : ownKnob Yba.prog.godebug = none := by kernel_rfl
theorem laidOut : laidOutB Yba.prog = true := by kernel_rfl
theorem keyed9 : Keyed Yba.prog 9 := string_keyed Yba.underlying9
theorem zero3 (w : World) : (zeroValue 3).run Yba.prog w = .ok (.int .i64 0) w := by kernel_rfl
theorem cells9 : Yba.prog.cellsOf 9 = 1 := by kernel_rfl

/-- A slice of strings: empty, or its elements' cells. -/
def HasStrs (w : World) (a : Option Addr) (n : Nat) (f : Nat → ByteArray) : Prop :=
  n = 0 ∨ ∃ b off, a = some ⟨b, off, none⟩ ∧ ∀ j, j < n → w.cell? ⟨b, off + j, none⟩ = some (.string (f j))

/-- A map: nil, or a look-up at x answers some number and some bool, and leaves the world as it is. -/
def HasLook (w : World) (r : Option Nat) (x : ByteArray) : Prop :=
  r = none ∨ ∃ bm v hs, r = some bm ∧ (Instr.lookup 35 (.map (some bm)) (.string x) true).run Yba.prog w = .ok (.tuple #[.int .i64 v, .bool hs]) w

theorem walk (a : Option Addr) (n c : Nat) (f : Nat → ByteArray) (r : Option Nat) (x : ByteArray) (w : World) (h0 : HasStrs w a n f) (h1 : HasLook w r x) :
    Calls Yba.prog 6 #[.slice a n c, .map r, .string x] w fun e w' => e = .returned (.bool true) ∧ w' = w := by
  by_cases h : 1024 < n
  · exact lawIndex_long a n c r x w h
  · rcases h1 with rfl | ⟨bm, v, hs, rfl, hrun⟩
    · rcases h0 with rfl | ⟨b, off, rfl, hc⟩
      · exact lawIndex_empty a c x w
      · rcases firstB_or (isAt f x) n with hf | ⟨m, hf⟩
        · exact lawIndex_miss b off n c f x w h hf hc
        · exact lawIndex_hit b off n c f x m w h hf hc
    · exact lawIndex_map a n c bm x v hs w h hrun

set_option maxRecDepth 100000 in
theorem lifted (os : Os) (started : os.Started) (H : Type) (enc : TypeId × Value → H) :
    ReturnsInHanded {} Yba.checked os 6 .any (Rows.lawS0560BIndexSpec.pre6 enc Yba.prog Yba.f6 Rows.lawS0560BIndexRow.domain false) (Rows.lawS0560BIndexSpec.post enc Yba.prog Yba.f6 false true false false) := by
  refine returnsInHanded_of_change (C := Yba.checked) own started (by kernel_rfl) Yba.func6
    (ChangeSpec.witness6 (enc := enc) (C := Yba.checked) false ⟨#[], #[.slice none 0 0, .map none, .string ByteArray.empty], []⟩ 8 (by kernel_rfl) (by kernel_rfl) (by kernel_rfl) (by kernel_rfl)) ?_
  intro W base args ds gs before hval0 hW hcnd _
  have hval : ∀ (j : Nat) t v, Yba.f6.params[j]? = some t → args[j]? = some v → Value.okWide Yba.prog W .any base t v := hval0
  have hW' := hW
  obtain ⟨p, q, hA0, hV, rfl, hfz, hnd⟩ := hW
  have hA : DataW.TrodAll enc Yba.prog W 0 (fun _ => true) true Yba.f6.params.toList args.toList ds p := hA0
  rw [Yba.params6] at hA hval
  obtain ⟨v0, vs0, d0, ds0, p0, q0, hargs, rfl, rfl, h0, r0⟩ := trodAll_cons hA
  obtain ⟨v1, vs1, d1, ds1, p1, q1, rfl, rfl, rfl, h1, r1⟩ := trodAll_cons r0
  obtain ⟨v2, vs2, d2, ds2, p2, q2, rfl, rfl, rfl, h2, r2⟩ := trodAll_cons r1
  obtain ⟨rfl, rfl, rfl⟩ := trodAll_nil r2
  obtain rfl : args = #[v0, v1, v2] := by cases args; simp_all
  obtain ⟨rfl, rfl⟩ := trodVars_none hV
  obtain ⟨a0, len0, cap0, rfl⟩ := okWide_slice Yba.underlying34 (hval 0 34 v0 rfl rfl)
  have k0 := h0
  have lt0 : ∀ x ∈ p0, x.block < W.heap.size := by obtain ⟨m, hm⟩ := k0; exact DataW.trod_lt m _ _ _ hm
  obtain ⟨f0, w0⟩ : ∃ f, HasStrs W a0 len0 f := by
    obtain ⟨fuel, hf⟩ := h0
    rcases open_strings Yba.underlying34 Yba.underlying9 cells9 hf with ⟨hcs, _⟩ | ⟨x, l, c, zs, hcs, _, hl, hm, hz, _, hcell, hwz⟩
    · simp [Value.cells] at hcs
      obtain ⟨rfl, rfl, rfl⟩ := hcs
      exact ⟨fun _ => ByteArray.empty, .inl rfl⟩
    · simp [Value.cells] at hcs
      obtain ⟨rfl, rfl, rfl⟩ := hcs
      simp only [if_true] at hz
      by_cases hl0 : len0 = 0
      · exact ⟨fun _ => ByteArray.empty, .inl hl0⟩
      · obtain ⟨b, off, spot⟩ := x
        have hspot : spot = none := by simpa [Addr.add] using World.cell?_spot (hcell 0 (by omega))
        subst hspot
        exact ⟨fun j => zs.getD j ByteArray.empty, .inr ⟨b, off, rfl, fun j hj => by rw [← add_plain]; exact hcell j (by omega)⟩⟩
  obtain ⟨r, rfl⟩ := okWide_map Yba.underlying35 (hval 1 35 v1 rfl rfl)
  have k1 := h1
  have lt1 : ∀ x ∈ p1, x.block < W.heap.size := by obtain ⟨m, hm⟩ := k1; exact DataW.trod_lt m _ _ _ hm
  obtain ⟨s, rfl, rfl, rfl, hs⟩ := open_string Yba.underlying9 (hval 2 9 v2 rfl rfl) h2
  have w1 : HasLook W r s := by
    obtain ⟨fuel, hf⟩ := h1
    rcases open_map Yba.underlying35 hf with ⟨hcs, hx⟩ | ⟨bm, es, clock, m, rfl, hcs, hb, _, F, hx⟩
    · simp [Value.cells] at hcs
      exact .inl hcs
    · simp [Value.cells] at hcs
      subst hcs
      have hown := World.ownsMap_of_fit (R := plainElem Yba.prog 3) hb F (fun x _ z hz => elemAt_plainElem_int Yba.underlying3 hz)
      obtain ⟨v, ps, hrun, hv⟩ := hown.look_ok keyed9 Yba.underlying35 (zero3 _) (plainElem_int Yba.underlying3 (by decide)) (WideMaps.keyOf_string_mk Yba.underlying9 hs)
      obtain ⟨c, rfl, _, _⟩ := plainElem_int_inv Yba.underlying3 hv
      exact .inr ⟨bm, c, _, rfl, hrun⟩
  clear hA0 hval0
  refine (walk a0 len0 cap0 f0 r s W w0 w1).mono fun e W' ⟨he, hw⟩ => ?_
  subst he
  have bel : Below W.heap.size W W' := by rw [hw]; exact Below.refl _ _
  exact ⟨_, rfl, _, _, _, [], _, [], hW', trodAll_mk1 (shut_bool Yba.underlying4 _), (trodAll_cons_mk (Below.trod laidOut (by kernel_rfl) (of_decide_eq_true (by kernel_rfl)) k0 bel lt0) (trodAll_cons_mk (Below.trod laidOut (by kernel_rfl) (of_decide_eq_true (by kernel_rfl)) k1 bel lt1) (trodAll_cons_mk (shut_string Yba.underlying9 hs) trodAll_mk0))), rfl, bel.frame _, fun h => by cases h⟩

theorem over : Rows.lawS0560BIndexRow.holds Yba.pinned (OpenSpec.ofChange Rows.lawS0560BIndexSpec) :=
  OpenClaim.holds_of_wide 6 Yba.f6 rfl rfl rfl rfl rfl rfl rfl ⟨rfl, rfl, rfl, rfl, rfl⟩ rfl rfl rfl rfl rfl (by kernel_rfl) Yba.func6 (by kernel_rfl)
    (of_decide_eq_true (by kernel_rfl)) (by unfold Func.isWrapper; first | (rw [if_pos (by decide +kernel)]; kernel_rfl) | (rw [if_neg (by decide +kernel)]; exact ⟨rfl, rfl⟩))
    (fun os started H enc _ => lifted os started H enc)

theorem proved : Rows.LawS0560BIndexSaid := over
#print axioms proved
end Go.Proofs.Ybulkkoo.lawS0560BIndex
