/-
  The walk of 'zzZeros'.
-/
import Derived.Test.Qxb6601363aWalkB
import Derived.Laws.IdiomStrings
namespace Go.Proofs.Qxb6601363a
open Go.RowKit Plain
set_option linter.unusedVariables false

theorem Try.info5 : (Try.prog.info? 5).map (fun i => (i.zero, i.size, i.bytes)) = some (some (.int .u8 0), 1, 1) := by kernel_rfl

def zerosOf (n : Nat) : ByteArray := ⟨(List.replicate n (48 : UInt8)).toArray⟩

/-- the loop's cells: the first k hold '0', the rest hold something, none is frozen -/
def Cells (w : World) (b k n : Nat) : Prop :=
  (∀ j, j < k → w.cell? ⟨b, j, none⟩ = some (.int .u8 48)) ∧ (∀ j, j < n → ∃ v, w.cell? ⟨b, j, none⟩ = some v) ∧ (∀ j, w.frozen? ⟨b, j, none⟩ = false)

theorem cells_start (w : World) (n : Nat) : Cells (w.alloc (.cells (madeCells #[.int .u8 0] n) 5)) w.heap.size 0 n := by
  refine ⟨fun j hj => by omega, fun j hj => ?_, fun j => ?_⟩
  · rw [World.cell?_alloc_new]
    have : j < (madeCells #[Value.int .u8 0] n).size := by rw [size_madeCells]; exact hj
    exact ⟨_, Array.getElem?_eq_getElem this⟩
  · simp
theorem cells_step {w : World} {b k n : Nat} (h : Cells w b k n) (hk : k < n) : Cells (w.setCell ⟨b, k, none⟩ (.int .u8 48)) b (k + 1) n := by
  obtain ⟨v, hv⟩ := h.2.1 k hk
  refine ⟨fun j hj => ?_, fun j hj => ?_, fun j => ?_⟩
  · by_cases e : j = k
    · subst e; exact World.cell?_setCell_same _ _ _ hv
    · rw [World.cell?_setCell_other]
      · exact h.1 j (by omega)
      · intro e'; injection e' with _ e2; exact e e2.symm
  · by_cases e : j = k
    · subst e; exact ⟨_, World.cell?_setCell_same _ _ _ hv⟩
    · rw [World.cell?_setCell_other]
      · exact h.2.1 j hj
      · intro e'; injection e' with _ e2; exact e e2.symm
  · rw [World.frozen?_setCell]; exact h.2.2 j

set_option maxHeartbeats 1000000 in
theorem zeros_any (n : Nat) (w : World) (hn : n ≤ 255) :
    Calls Try.prog 19 #[.int .i64 n] w fun e w' => Grown w w' ∧ e = .returned (.string (zerosOf n)) := by
  obtain ⟨i0, hi, hz0, hz1, hz2⟩ := info_parts Try.info5
  have hmk : (Instr.makeSlice 36 (.int .i64 (n : Int)) (.int .i64 (n : Int))).run Try.prog w = .ok (.slice (some ⟨w.heap.size, 0, none⟩) n n) (w.alloc (.cells (madeCells #[.int .u8 0] n) 5)) := by
    have h := run_make (P := Try.prog) w 36 5 i0 (.int .u8 0) Try.underlying36 hi hz0 .i64 .i64 n n (by omega) (Int.le_refl _) (by rw [hz2]; omega) (by omega)
    rw [hz1, Nat.mul_one] at h
    exact h
  clear hi hz0 hz1 hz2
  go_enter Try.func19, Try.ntmps19
  go_wp2
  go_loopw [4] (fun i wr => ∃ k : Nat, k ≤ n ∧ i = .int .i64 k ∧ Grown w wr ∧ w.heap.size < wr.heap.size ∧ Cells wr w.heap.size k n) (fun i _ => n - (intOf i).toNat)
  case atStart => exact ⟨0, Nat.zero_le _, rfl, (Grown.refl _).alloc _ _, by simp, cells_start w n⟩
  case round =>
    obtain ⟨k, hk, rfl, hg, hlt0, hc⟩ := hrel
    have HC : Hid (Cells wr w.heap.size k n) := hc
    by_cases hlt : k < n
    · obtain ⟨v, hv⟩ := hc.2.1 k hlt
      have hfz := hc.2.2 k
      clear hc
      go_wp2
      go_roundw
      case rel => exact ⟨k + 1, by omega, by go_num, hg.setCell (Nat.le_refl _) _, by simpa using hlt0, cells_step HC.out hlt⟩
      case measure => simp [intOf]; omega
    · obtain rfl : k = n := by omega
      have hcv : (convert 36 9 (.slice (some ⟨w.heap.size, 0, none⟩) k k)).run Try.prog wr = .ok (.string (zerosOf k)) wr := by
        have h := run_convert_bytes_back (P := Try.prog) wr 36 9 5 ⟨w.heap.size, 0, none⟩ k (List.replicate k (48 : UInt8)) Try.underlying36 Try.underlying5 Try.underlying9 (fun j hj => by
          simp at hj
          rw [Addr.add_lit, Nat.zero_add, hc.1 j hj]
          simp)
        simpa [zerosOf] using h
      clear hc
      go_wp2
      go_ret
      exact ⟨hg, rfl⟩

end Go.Proofs.Qxb6601363a
