/-
  'slices.Grow' of a full row of words: the library's text walked at this program's own types.
-/
import Derived.Test.Qxb6601407aRep
import Derived.Lib.Walk
import Derived.Lib.SliceRun
import Derived.Lib.AppendZerosOnto
namespace Go.Proofs.Qxb6601407a
open Go.RowKit Go.Lib
set_option linter.unusedVariables false

theorem Try.info58 : (Try.prog.info? 58).map (fun i => (i.zero, i.size, i.bytes)) = some (some (.int .u64 0), 1, 8) := by kernel_rfl

theorem grown_words (ws : List Nat) (k m : Nat) : wordCells ws ++ Builtin.zeroCells #[.int .u64 0] k ++ Builtin.zeroCells #[.int .u64 0] m = wordCells (ws ++ List.replicate (k + m) 0) := by
  have hz : ∀ k, Builtin.zeroCells #[Value.int .u64 0] k = (List.replicate k (Value.int .u64 0)).toArray := by
    intro k
    apply Array.ext
    · simp [Builtin.zeroCells]
    · intro i h1 h2
      simp [Builtin.zeroCells, Nat.mod_one]
  rw [hz, hz]
  apply Array.toList_inj.1
  simp [wordCells]

set_option maxHeartbeats 2000000 in
set_option maxRecDepth 100000 in
theorem grow_any (base : Option Addr) (ws : List Nat) (k : Nat) (w : World) (hk : 0 < k) (hbig : ws.length + k ≤ 65536)
    (hnil : base = none → ws.length = 0) (hcs : ∀ a, base = some a → ∀ j v, (wordCells ws).toList[j]? = some v → w.cell? (a.add j) = some v) :
    Calls Try.prog 39 #[.slice base ws.length ws.length, .int .i64 k] w fun e w' => ∃ G, ws.length + k ≤ G ∧ G ≤ 9223372036854775807 ∧ e = .returned (.slice (some ⟨w.heap.size, 0, none⟩) ws.length G) ∧
      w' = w.drew.alloc (.cells (wordCells (ws ++ List.replicate (G - ws.length) 0)) 58) := by
  obtain ⟨i0, hi, hz0, hz1, hz2⟩ := info_parts Try.info58
  have hl : (wordCells ws).toList.length = ws.length := by simp [wordCells]
  obtain ⟨l, hll⟩ : ∃ l, l = ws.length := ⟨_, rfl⟩
  rw [← hll] at hbig hnil hl ⊢
  have h1 : ¬ ((k : Int) < 0) := by omega
  have h4 : (k : Int) > 0 := by omega
  have hold : (Builtin.firstCells i0.size l (.slice base l l)).run Try.prog w.drew = .ok (wordCells ws).toList.toArray w.drew := by
    cases base with
    | none =>
      have h0 := hnil rfl
      have hc0 : (wordCells ws).toList = [] := List.length_eq_zero_iff.1 (by omega)
      rw [hc0, h0]
      exact run_firstCells_none w.drew i0.size 0 0 0
    | some a => exact run_firstCells_some w.drew i0.size l a l l _ (by rw [hl, hz1, Nat.mul_one]) (fun j v hj => hcs a rfl j v hj)
  have hrz : ∀ ty, (Builtin.append_ #[55, 3] ty #[.slice base l l, .int .i64 (k : Int)]).run Try.prog w =
      .ok (.slice (some ⟨w.heap.size, 0, none⟩) (l + k) (grownCap w (l + k) l 58)) (w.drew.alloc (.cells ((wordCells ws).toList.toArray ++ Builtin.zeroCells (Value.int .u64 0).cells k ++ Builtin.zeroCells (Value.int .u64 0).cells (grownCap w (l + k) l 58 - (l + k))) 58)) := fun ty =>
    Lib.run_append_grow_zeros w 55 3 ty 58 i0 (.int .u64 0) .i64 .i64 Try.underlying55 Try.underlying3 hi hz0 base l l _ hold k hk (by omega) (by omega) (by omega)
      (by rw [hz2]; omega) (growslice_fits (by omega) (by rw [hz2]; omega))
  have hGn : l + k ≤ grownCap w (l + k) l 58 := grownCap_ge w _ _ _
  have hG63 : grownCap w (l + k) l 58 ≤ 9223372036854775807 := by
    have := grownCap_le_maxLen w (l + k) l 58 (by unfold maxLen; omega)
    unfold maxLen at this
    omega
  have hcells : (wordCells ws).toList.toArray ++ Builtin.zeroCells (Value.int .u64 0).cells k ++ Builtin.zeroCells (Value.int .u64 0).cells (grownCap w (l + k) l 58 - (l + k)) = wordCells (ws ++ List.replicate (grownCap w (l + k) l 58 - l) 0) := by
    have := grown_words ws k (grownCap w (l + k) l 58 - (l + k))
    rw [show k + (grownCap w (l + k) l 58 - (l + k)) = grownCap w (l + k) l 58 - l by omega] at this
    rw [← this]
    rfl
  rw [hcells] at hrz
  obtain ⟨G, hG⟩ : ∃ G, G = grownCap w (l + k) l 58 := ⟨_, rfl⟩
  rw [← hG] at hrz hGn hG63
  obtain ⟨N, hN⟩ : ∃ N, N = w.drew.alloc (.cells (wordCells (ws ++ List.replicate (G - l) 0)) 58) := ⟨_, rfl⟩
  rw [← hN] at hrz
  have HN : Hid (N = w.drew.alloc (.cells (wordCells (ws ++ List.replicate (G - l) 0)) 58)) := hN
  clear hold hcells hcs hl hi hz0 hz1 hz2 hN hG hll
  go_enter Try.func39, Try.ntmps39
  cases base with
  | none =>
    have h0 := hnil rfl
    subst h0
    go_wp2_with (at_builtin; refine Lib.wpList_append_run _ rfl _ _ _ _ rfl _ _ rfl rfl _ _ (hrz _) ?_)
    all_goals
      go_ret
      exact ⟨G, by omega, hG63, rfl, HN.out⟩
  | some a =>
    obtain ⟨ab, ao, asp⟩ := a
    go_wp2_with (at_builtin; refine Lib.wpList_append_run _ rfl _ _ _ _ rfl _ _ rfl rfl _ _ (hrz _) ?_)
    all_goals
      go_ret
      exact ⟨G, by omega, hG63, rfl, HN.out⟩

end Go.Proofs.Qxb6601407a
