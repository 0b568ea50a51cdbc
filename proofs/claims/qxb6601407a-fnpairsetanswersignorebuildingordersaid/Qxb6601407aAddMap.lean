/-
  '(*pairSet).add' of a pair past the bit rows: the map.
-/
import Derived.Test.Qxb6601407aRep
import Derived.BigQuiet
namespace Go.Proofs.Qxb6601407a
open Go.RowKit Go.Maps Go.WideMaps
set_option linter.unusedVariables false

set_option maxHeartbeats 1000000 in
theorem addMap_some (w : World) (bp m n : Nat) (bits : Value) (a b : Int) (ha : I64 a) (hb : I64 b) (h64 : 64 ≤ b) (D : DataW Unit)
    (hbox : w.heap[bp]? = some (.cells #[bits, .map (some m)] 28 (0, 0))) (hown : w.ownsMap Try.prog 30 unitElem m n D) (hn : n < 1000000) :
    Calls Try.prog 36 #[.pointer (some ⟨bp, 0, none⟩), .int .i64 a, .int .i64 b] w fun e w' => e = .returned (.bool (Maps.has D (key a b))) ∧
      ∃ w1, w1 = w.alloc (.cells #[] 57) ∧ w'.ownsMap Try.prog 30 unitElem m (n + 1) (D.put (key a b) (.agg [])) ∧ w1.grownBy w' (some m) := by
  have c1 : w.cell? ⟨bp, 1, none⟩ = some (.map (some m)) := by rw [cell_of hbox]; rfl
  have hlt := lt_of_block hbox
  have hk := key_of ha hb
  have hm : n < maxLen := by unfold maxLen; omega
  have hne : ∀ (w : World) (r : Option Nat), (binOp .eql 26 (.map r) (.map none)).run Try.prog w = .ok (.bool r.isNone) w := fun w r => run_eql_map_nil w _ _ _ r Try.underlying26
  clear hbox ha hb
  go_enter Try.func36, Try.ntmps36
  go_wp2_with (first
    | (at_lookup; refine wpList_lookup_own_unit _ rfl _ _ 26 rfl 30 57 Try.law Try.underlying26 (Try.zero57 _) m n D rfl hown _ _ rfl hk ?_)
    | (at_mapUpdate; refine wpList_mapUpdate_own _ rfl _ _ _ 26 rfl 30 57 Try.law Try.underlying26 _ m n D rfl (hown.alloc _) hm _ _ _ rfl rfl hk _ [] unitElem_mk ?_; intro w1 hown1 hgrow1))
  go_ret
  exact ⟨rfl, _, rfl, hown1, hgrow1⟩

set_option maxHeartbeats 1000000 in
theorem addMap_nil (w : World) (bp : Nat) (bits : Value) (a b : Int) (ha : I64 a) (hb : I64 b) (h64 : 64 ≤ b)
    (hbox : w.heap[bp]? = some (.cells #[bits, .map none] 28 (0, 0))) :
    Calls Try.prog 36 #[.pointer (some ⟨bp, 0, none⟩), .int .i64 a, .int .i64 b] w fun e w' => e = .returned (.bool false) ∧
      ∃ w1, w1 = ((w.setCell ⟨bp, 1, none⟩ (.map (some w.heap.size))).alloc (.map #[] 0)).alloc (.cells #[] 57) ∧
        w'.ownsMap Try.prog 30 (unitElem (H := Unit)) w.heap.size 1 ((DataW.map []).put (key a b) (.agg [])) ∧ w1.grownBy w' (some w.heap.size) := by
  have c1 : w.cell? ⟨bp, 1, none⟩ = some (.map none) := by rw [cell_of hbox]; rfl
  have f1 : w.frozen? ⟨bp, 1, none⟩ = false := free_of hbox
  have hlt := lt_of_block hbox
  have hk := key_of ha hb
  have hne : ∀ (w : World) (r : Option Nat), (binOp .eql 26 (.map r) (.map none)).run Try.prog w = .ok (.bool r.isNone) w := fun w r => run_eql_map_nil w _ _ _ r Try.underlying26
  have hown : ((w.setCell ⟨bp, 1, none⟩ (.map (some w.heap.size))).alloc (.map #[] 0)).ownsMap Try.prog 30 (unitElem (H := Unit)) w.heap.size 0 (.map []) := by
    have h := World.ownsMap_made (w.setCell ⟨bp, 1, none⟩ (.map (some w.heap.size))) Try.prog 30 (unitElem (H := Unit))
    rw [World.size_setCell] at h
    exact h
  have hmm := @run_makeMap Try.prog
  have c2 : (w.setCell ⟨bp, 1, none⟩ (.map (some w.heap.size))).cell? ⟨bp, 1, none⟩ = some (.map (some w.heap.size)) :=
    World.cell?_setCell_same _ _ _ c1
  clear hbox ha hb
  go_enter Try.func36, Try.ntmps36
  go_wp2_with (first
    | (at_lookup; refine wpList_lookup_own_unit _ rfl _ _ 26 rfl 30 57 Try.law Try.underlying26 (Try.zero57 _) w.heap.size 0 _ rfl hown _ _ rfl hk ?_)
    | (at_mapUpdate; refine wpList_mapUpdate_own _ rfl _ _ _ 26 rfl 30 57 Try.law Try.underlying26 _ w.heap.size 0 _ rfl (hown.alloc _) (by unfold maxLen; omega) _ _ _ rfl rfl hk _ [] unitElem_mk ?_; intro w1 hown1 hgrow1))
  go_ret
  exact ⟨rfl, _, rfl, hown1, hgrow1⟩

theorem map_no_cells {w : World} {m n : Nat} {D : DataW Unit} (h : w.ownsMap Try.prog 30 unitElem m n D) : ∀ c t fr, w.heap[m]? ≠ some (.cells c t fr) := by
  obtain ⟨es, clock, hb, _⟩ := h
  intro c t fr e
  rw [hb] at e
  simp at e

theorem add_map (w : World) (F : Nat → Prop) (bp n : Nat) (L : List (Int × Int)) (a b : Int) (ha : I64 a) (hb : I64 b) (h64 : 64 ≤ b) (hR : Rep w F bp L n) (hF : ∀ k, F k → k < w.heap.size) (hn : n < 1000000) :
    Calls Try.prog 36 #[.pointer (some ⟨bp, 0, none⟩), .int .i64 a, .int .i64 b] w fun e w' => e = .returned (.bool (decide ((a, b) ∈ L))) ∧ Rep w' (Wide F w w') bp ((a, b) :: L) (n + 1) ∧ Chg F w w' := by
  obtain ⟨bits, mv, rs, hB, hM, hL⟩ := hR
  rcases hM with ⟨rfl, hno⟩ | ⟨m, D, rfl, hm, hown, hD⟩
  · refine (addMap_nil w bp bits a b ha hb h64 hB.box).mono ?_
    rintro e w' ⟨rfl, w1, rfl, hown1, hg⟩
    have hbp := hF bp hB.fbox
    have hnew : ∀ k, k < w.heap.size → w'.heap[k]? = (w.setCell ⟨bp, 1, none⟩ (.map (some w.heap.size))).heap[k]? := fun k hk => by
      rw [hg.block k (by simp; omega) (by simp; omega)]
      rw [Below.heap_alloc _ _ _ (by simp; omega), Below.heap_alloc _ _ _ (by simpa using hk)]
    have hsz : w.heap.size < w'.heap.size := by have := hg.size; simp at this; omega
    refine ⟨by simp [hno a b h64], ?_, ?_⟩
    · have hB1 : Bt w' (Wide F w w') bp bits (.map (some w.heap.size)) rs :=
        (hB.setMap (.map (some w.heap.size))).kept (fun k c t hf hc => hnew k (hF k hf)) (fun k hf => Or.inl hf)
      refine ⟨bits, _, rs, hB1, Or.inr ⟨w.heap.size, _, rfl, Or.inr ⟨Nat.le_refl _, hsz⟩, hown1.mono (by omega), ?_⟩, bits_cons_map hL a b h64⟩
      exact has_cons (isMap_empty) (fun x y _ _ hy => by simp [hno x y hy, Maps.has]) ha hb _
    · refine ⟨hg.os, hg.tape, hg.output, by omega, fun k hk hf => ?_⟩
      rw [hnew k hk, Below.heap_setCell]
      exact fun e => hf (e ▸ hB.fbox)
  · refine (addMap_some w bp m n bits a b ha hb h64 D hB.box hown hn).mono ?_
    rintro e w' ⟨rfl, w1, rfl, hown1, hg⟩
    have hnew : ∀ k, k < w.heap.size → k ≠ m → w'.heap[k]? = w.heap[k]? := fun k hk hne => by
      rw [hg.block k (by simp; omega) (by simpa using hne)]
      rw [Below.heap_alloc _ _ _ hk]
    have hsz : w.heap.size < w'.heap.size := by have := hg.size; simp at this; omega
    refine ⟨by rw [hD a b ha hb h64], ?_, ?_⟩
    · have h := Rep.of_map hB hm (map_no_cells hown) hnew hF hown1 (has_cons hown.isMap hD ha hb _) (bits_cons_map hL a b h64)
      exact h.kept (fun _ _ => rfl) (fun k hf => Or.inl hf)
    · refine ⟨hg.os, hg.tape, hg.output, by omega, fun k hk hf => hnew k hk ?_⟩
      rintro rfl
      exact hf hm

end Go.Proofs.Qxb6601407a
