/-
  THE PROOF OF 'Rows.FnPairSetAnswersIgnoreBuildingOrderSaid'. The walk: 'law' (Qxb6601407aLaw.lean). Here: from a slice of pairs as it is read to what the walk is told of it, and the row's step, after the guide's frame for slices.
-/
import Derived.Test.Qxb6601407aRows
import Derived.WalkKit
import Derived.ProofKit
import Derived.OpenShut
import Derived.ShutString
import Derived.ChangeOld
import Derived.Below
import Derived.Deep.Slices
import Derived.Test.Qxb6601407aLaw
namespace Go.Proofs.Qxb6601407a.fnPairSetAnswersIgnoreBuildingOrder
open Go.ChangeShapes Go.WideShapes Go.ChangeAt Go.RowKit
open Go.Deep (open_slice add_add)
set_option linter.unusedVariables false

theorem own : ownKnob Try.prog.godebug = none := by kernel_rfl
theorem laidOut : laidOutB Try.prog = true := by kernel_rfl
theorem cells3 : Try.prog.cellsOf 3 = 1 := by kernel_rfl

section
variable {H : Type} {enc : TypeId × Value → H} {W : World} {base : Nat} {sp : Nat → Bool} {held : Bool}

/-- two cells that read as a pair of ints are two ints -/
theorem pair_at {fuel : Nat} {cs : List Value} {x : DataW H × List MemPlace} (h : DataW.trod enc Try.prog W base sp held fuel 30 cs = some x) :
    ∃ a b, cs = [.int .i64 a, .int .i64 b] ∧ I64 a ∧ I64 b := by
  obtain ⟨xs, m, rfl, _, hcl, hxl, hx⟩ := DataW.trod_array Try.underlying30 h
  rw [Try.cells30] at hcl
  have h0 := hx 0 (by omega)
  have h1 := hx 1 (by omega)
  rw [cells3] at h0 h1
  match xs, hxl, cs, hcl with
  | [y0, y1], _, [v0, v1], _ =>
    simp at h0 h1
    obtain ⟨a, ea, _, wa⟩ := DataW.trod_int Try.underlying3 h0
    obtain ⟨b, eb, _, wb⟩ := DataW.trod_int Try.underlying3 h1
    simp at ea eb
    subst ea eb
    exact ⟨a, b, rfl, bounds_i64 wa, bounds_i64 wb⟩

theorem spot_none {w : World} {a : Addr} {v : Value} (h : w.cell? a = some v) : a.spot = none := by
  unfold World.cell? at h
  split at h
  · cases hs : a.spot
    · rfl
    · simp [hs] at h
  · cases h

/-- A SLICE OF PAIRS, OPENED. -/
theorem open_pairs {fuel : Nat} {ao : Option Addr} {len cap : Nat} {x : DataW H × List MemPlace} (h : DataW.trod enc Try.prog W base (fun _ => true) held fuel 22 [.slice ao len cap] = some x) : ∃ l, IsPairs W ao len cap l := by
  rcases open_slice Try.underlying22 h with ⟨hcs, _⟩ | ⟨a, len', cap', m, n, D, Pl, hcs, _, hl, hm, hmm, _, hx⟩
  · simp at hcs
    obtain ⟨rfl, rfl, rfl⟩ := hcs
    exact ⟨[], rfl, Nat.le_refl _, Nat.zero_le _, fun _ => ⟨rfl, rfl⟩, fun i p h => by simp at h, fun p h => by simp at h⟩
  · simp at hcs
    obtain ⟨rfl, rfl, rfl⟩ := hcs
    simp only [if_true] at hmm
    subst hmm
    have each : ∀ i, i < len → ∃ p : Int × Int, W.cell? (a.add (i * 2)) = some (.int .i64 p.1) ∧ W.cell? (a.add (i * 2 + 1)) = some (.int .i64 p.2) ∧ I64 p.1 ∧ I64 p.2 := by
      intro i hi
      obtain ⟨cs', h1, h2⟩ := hx i (by omega)
      rw [Try.cells30] at h1
      obtain ⟨_, _, hcell⟩ := World.cells?_some h1
      obtain ⟨p, q, rfl, hp, hq⟩ := pair_at h2
      have e0 := hcell 0 (by omega)
      have e1 := hcell 1 (by omega)
      rw [add_add] at e0 e1
      exact ⟨(p, q), by simpa using e0, by simpa using e1, hp, hq⟩
    obtain ⟨f, hf⟩ := Go.Deep.choose_lt each
    refine ⟨(List.range len).map f, by simp, hl, hm, fun h => (by cases h), fun i p hp => ?_, fun p hp => ?_⟩
    · obtain ⟨hi, rfl⟩ : i < len ∧ f i = p := by
        have hi : i < len := by
          have := (List.getElem?_eq_some_iff.1 hp).1
          simpa using this
        refine ⟨hi, ?_⟩
        simpa [hi] using hp
      obtain ⟨c0, c1, _, _⟩ := hf i hi
      obtain ⟨d0, _⟩ := hf 0 (by omega)
      rw [Nat.zero_mul] at d0
      have e : a.add 0 = a := by simp [Addr.add]
      rw [e] at d0
      have hs := spot_none d0
      obtain ⟨b, off, s⟩ := a
      simp at hs
      subst hs
      rw [Addr.add_lit] at c0 c1
      exact ⟨b, off, rfl, World.block_lt_of_cell? W _ d0, c0, by rw [Nat.add_assoc]; exact c1⟩
    · obtain ⟨i, hi, rfl⟩ := List.mem_map.1 hp
      exact (hf i (List.mem_range.1 hi)).2.2
end

set_option maxRecDepth 100000 in
theorem lifted (os : Os) (started : os.Started) (H : Type) (enc : TypeId × Value → H) :
    ReturnsInHanded {} Try.checked os 4 .any (Rows.fnPairSetAnswersIgnoreBuildingOrderSpec.pre6 enc Try.prog Try.f4 Rows.fnPairSetAnswersIgnoreBuildingOrderRow.domain false) (Rows.fnPairSetAnswersIgnoreBuildingOrderSpec.post enc Try.prog Try.f4 false true false false) := by
  refine returnsInHanded_of_change (C := Try.checked) own started (by kernel_rfl) Try.func4
    (ChangeSpec.witness6 (enc := enc) (C := Try.checked) false ⟨#[], #[.slice none 0 0, .slice none 0 0], []⟩ 8 (by kernel_rfl) (by kernel_rfl) (by kernel_rfl) (by kernel_rfl)) ?_
  intro W base args ds gs before hval0 hW hcnd _
  have hval : ∀ (j : Nat) t v, Try.f4.params[j]? = some t → args[j]? = some v → Value.okWide Try.prog W .any base t v := hval0
  have hW' := hW
  obtain ⟨p, q, hA0, hV, rfl, hfz, hnd⟩ := hW
  have hA : DataW.TrodAll enc Try.prog W 0 (fun _ => true) true Try.f4.params.toList args.toList ds p := hA0
  rw [Try.params4] at hA hval
  obtain ⟨v0, vs0, d0, ds0, p0, q0, hargs, rfl, rfl, h0, r0⟩ := trodAll_cons hA
  obtain ⟨v1, vs1, d1, ds1, p1, q1, rfl, rfl, rfl, h1, r1⟩ := trodAll_cons r0
  obtain ⟨rfl, rfl, rfl⟩ := trodAll_nil r1
  obtain rfl : args = #[v0, v1] := by cases args; simp_all
  obtain ⟨rfl, rfl⟩ := trodVars_none hV
  obtain ⟨a0, len0, cap0, rfl⟩ := okWide_slice Try.underlying22 (hval 0 22 v0 rfl rfl)
  have k0 := h0
  have lt0 : ∀ x ∈ p0, x.block < W.heap.size := by obtain ⟨m, hm⟩ := k0; exact DataW.trod_lt m _ _ _ hm
  obtain ⟨z0, w0⟩ : ∃ l, IsPairs W a0 len0 cap0 l := by
    obtain ⟨fuel, hf⟩ := h0
    exact open_pairs hf
  obtain ⟨a1, len1, cap1, rfl⟩ := okWide_slice Try.underlying22 (hval 1 22 v1 rfl rfl)
  have k1 := h1
  have lt1 : ∀ x ∈ p1, x.block < W.heap.size := by obtain ⟨m, hm⟩ := k1; exact DataW.trod_lt m _ _ _ hm
  obtain ⟨z1, w1⟩ : ∃ l, IsPairs W a1 len1 cap1 l := by
    obtain ⟨fuel, hf⟩ := h1
    exact open_pairs hf
  clear hA0 hval0
  refine (law a0 a1 len0 cap0 len1 cap1 z0 z1 W w0 w1).mono fun e W' ⟨he, bel⟩ => ?_
  subst he
  exact ⟨_, rfl, _, _, _, [], _, [], hW', trodAll_mk1 (shut_bool Try.underlying4 _), (trodAll_cons_mk (Below.trod laidOut (by kernel_rfl) (of_decide_eq_true (by kernel_rfl)) k0 bel lt0) (trodAll_cons_mk (Below.trod laidOut (by kernel_rfl) (of_decide_eq_true (by kernel_rfl)) k1 bel lt1) trodAll_mk0)), rfl, bel.frame _, fun h => by cases h⟩

theorem over : Rows.fnPairSetAnswersIgnoreBuildingOrderRow.holds Try.pinned (OpenSpec.ofChange Rows.fnPairSetAnswersIgnoreBuildingOrderSpec) :=
  OpenClaim.holds_of_wide 4 Try.f4 rfl rfl rfl rfl rfl rfl rfl ⟨rfl, rfl, rfl, rfl, rfl⟩ rfl rfl rfl rfl rfl (by kernel_rfl) Try.func4 (by kernel_rfl)
    (of_decide_eq_true (by kernel_rfl)) (by unfold Func.isWrapper; first | (rw [if_pos (by decide +kernel)]; kernel_rfl) | (rw [if_neg (by decide +kernel)]; exact ⟨rfl, rfl⟩))
    (fun os started H enc _ => lifted os started H enc)

/-- ████ THE STATEMENT ████ -/
theorem proved : Rows.FnPairSetAnswersIgnoreBuildingOrderSaid := over
#print axioms proved
end Go.Proofs.Qxb6601407a.fnPairSetAnswersIgnoreBuildingOrder
