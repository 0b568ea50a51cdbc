/-
  Slices of pairs: the bound on lengths, the domain's tests, the copy.
-/
import Derived.Test.Qxb6601407aAdd
namespace Go.Proofs.Qxb6601407a
open Go.RowKit Go.Maps Go.WideMaps
set_option linter.unusedVariables false

/-- what the walk is told of a slice of pairs -/
structure IsPairs (w : World) (ao : Option Addr) (len cap : Nat) (l : List (Int × Int)) : Prop where
  length : l.length = len
  le : len ≤ cap
  max : cap ≤ maxLen
  nil : ao = none → len = 0 ∧ cap = 0
  cells : ∀ (i : Nat) (p : Int × Int), l[i]? = some p → ∃ b off, ao = some ⟨b, off, none⟩ ∧ b < w.heap.size ∧ w.cell? ⟨b, off + i * 2, none⟩ = some (.int .i64 p.1) ∧ w.cell? ⟨b, off + i * 2 + 1, none⟩ = some (.int .i64 p.2)
  fits : ∀ p ∈ l, I64 p.1 ∧ I64 p.2

theorem IsPairs.kept {w w' : World} {ao : Option Addr} {len cap : Nat} {l : List (Int × Int)} (h : IsPairs w ao len cap l) (hb : Below w.heap.size w w') : IsPairs w' ao len cap l := by
  refine ⟨h.length, h.le, h.max, h.nil, fun i p hp => ?_, h.fits⟩
  obtain ⟨b, off, hao, hlt, c0, c1⟩ := h.cells i p hp
  exact ⟨b, off, hao, Nat.lt_of_lt_of_le hlt hb.size, (hb.cell hlt).trans c0, (hb.cell hlt).trans c1⟩

set_option maxHeartbeats 400000 in
theorem bytes_ok (a0 a1 : Option Addr) (n0 c0 n1 c1 : Nat) (w : World) (h0 : n0 ≤ 1048576) (h1 : n0 + n1 ≤ 1048576) :
    Calls Try.prog 14 #[.slice a0 n0 c0, .slice a1 n1 c1] w fun e w' => e = .returned (.bool true) ∧ w' = w := by
  go_enter Try.func14, Try.ntmps14
  go_wp2
  go_ret
  exact ⟨rfl, rfl⟩
set_option maxHeartbeats 400000 in
theorem bytes_no (a0 a1 : Option Addr) (n0 c0 n1 c1 : Nat) (w : World) (h0 : n0 ≤ maxLen) (h1 : n1 ≤ maxLen) (h2 : 1048576 < n0 + n1) :
    Calls Try.prog 14 #[.slice a0 n0 c0, .slice a1 n1 c1] w fun e w' => e = .returned (.bool false) ∧ w' = w := by
  unfold maxLen at h0 h1
  by_cases h3 : n0 ≤ 1048576
  · by_cases h4 : n1 ≤ 1048576
    · go_enter Try.func14, Try.ntmps14
      go_wp2
      go_ret
      exact ⟨rfl, rfl⟩
    · go_enter Try.func14, Try.ntmps14
      go_wp2
      go_ret
      exact ⟨rfl, rfl⟩
  · go_enter Try.func14, Try.ntmps14
    go_wp2
    go_ret
    exact ⟨rfl, rfl⟩

set_option maxHeartbeats 400000 in
theorem pair_yes (x y : Int) (w : World) (h0 : 0 ≤ y) (h1 : 64 ≤ y ∨ (0 ≤ x ∧ x < 4194304)) :
    Calls Try.prog 35 #[.agg #[.int .i64 x, .int .i64 y]] w fun e w' => e = .returned (.bool true) ∧ Below w.heap.size w w' := by
  by_cases h64 : 64 ≤ y
  · have h64' : decide (y < 64) = false := by simpa using h64
    go_enter Try.func35, Try.ntmps35
    go_wp2
    go_ret
    exact ⟨rfl, (Below.refl _ _).alloc (Nat.le_refl _) _⟩
  · obtain ⟨h2, h3⟩ : 0 ≤ x ∧ x < 4194304 := by omega
    clear h1
    go_enter Try.func35, Try.ntmps35
    go_wp2
    go_ret
    exact ⟨rfl, (Below.refl _ _).alloc (Nat.le_refl _) _⟩

set_option maxHeartbeats 400000 in
theorem pair_no (x y : Int) (w : World) (h : y < 0 ∨ (y < 64 ∧ (x < 0 ∨ 4194304 ≤ x))) :
    Calls Try.prog 35 #[.agg #[.int .i64 x, .int .i64 y]] w fun e w' => e = .returned (.bool false) ∧ Below w.heap.size w w' := by
  by_cases h0 : y < 0
  · clear h
    go_enter Try.func35, Try.ntmps35
    go_wp2
    go_ret
    exact ⟨rfl, (Below.refl _ _).alloc (Nat.le_refl _) _⟩
  · obtain ⟨h2, h3⟩ : y < 64 ∧ (x < 0 ∨ 4194304 ≤ x) := by omega
    clear h
    rcases h3 with h3 | h3
    · go_enter Try.func35, Try.ntmps35
      go_wp2
      go_ret
      exact ⟨rfl, (Below.refl _ _).alloc (Nat.le_refl _) _⟩
    · have h4 : ¬ x < 0 := by omega
      go_enter Try.func35, Try.ntmps35
      go_wp2
      go_ret
      exact ⟨rfl, (Below.refl _ _).alloc (Nat.le_refl _) _⟩

theorem dom_iff (x y : Int) : Dom (x, y) ↔ 0 ≤ y ∧ (64 ≤ y ∨ (0 ≤ x ∧ x < 4194304)) := by
  unfold Dom
  simp only
  constructor
  · rintro ⟨h1, h2⟩
    refine ⟨h1, ?_⟩
    by_cases h : y < 64
    · exact Or.inr (h2 h)
    · exact Or.inl (by omega)
  · rintro ⟨h1, h2⟩
    exact ⟨h1, fun h => by omega⟩

theorem take_dom {l : List (Int × Int)} {k : Nat} {p : Int × Int} (h : ∀ p ∈ l.take k, Dom p) (hk : l[k]? = some p) (hp : Dom p) : ∀ p ∈ l.take (k + 1), Dom p := by
  obtain ⟨hlt, rfl⟩ := List.getElem?_eq_some_iff.1 hk
  rw [List.take_succ_eq_append_getElem hlt]
  intro q hq
  rcases List.mem_append.1 hq with hq | hq
  · exact h q hq
  · simp at hq; subst hq; exact hp
theorem not_dom {p : Int × Int} (h : ¬ Dom p) : p.2 < 0 ∨ (p.2 < 64 ∧ (p.1 < 0 ∨ 4194304 ≤ p.1)) := by
  have h' : ¬ Dom (p.1, p.2) := h
  rw [dom_iff] at h'
  omega

set_option maxHeartbeats 400000 in
theorem pairs_any (ao : Option Addr) (len cap : Nat) (l : List (Int × Int)) (w : World) (hl : len ≤ 1048576) (hp : IsPairs w ao len cap l) :
    Calls Try.prog 11 #[.slice ao len cap] w fun e w' => Below w.heap.size w w' ∧ ((e = .returned (.bool true) ∧ ∀ p ∈ l, Dom p) ∨ e = .returned (.bool false)) := by
  have HP : Hid (IsPairs w ao len cap l) := hp
  clear hp
  go_enter Try.func11, Try.ntmps11
  go_wp2
  go_loopw [3] (fun i wr => ∃ k : Nat, k ≤ len ∧ i = .int .i64 k ∧ Below w.heap.size w wr ∧ ∀ p ∈ l.take k, Dom p) (fun i _ => len - (intOf i).toNat)
  case atStart => exact ⟨0, Nat.zero_le _, rfl, Below.refl _ _, by simp⟩
  case round =>
    obtain ⟨k, hk, rfl, hb, hd⟩ := hrel
    have HD : Hid (∀ p ∈ l.take k, Dom p) := hd
    clear hd
    by_cases hlt : k < len
    · obtain ⟨p, hpk⟩ : ∃ p, l[k]? = some p := ⟨_, List.getElem?_eq_getElem (by rw [HP.out.length]; exact hlt)⟩
      obtain ⟨b, off, hao, hbl, c0, c1⟩ := HP.out.cells k p hpk
      have c0' : wr.cell? ⟨b, off + k * 2, none⟩ = some (.int .i64 p.1) := (hb.cell hbl).trans c0
      have c1' : wr.cell? ⟨b, off + k * 2 + 1, none⟩ = some (.int .i64 p.2) := (hb.cell hbl).trans c1
      subst hao
      clear c0 c1
      by_cases hdom : Dom p
      · have hdp := (dom_iff p.1 p.2).1 hdom
        have HE : Hid (Dom p) := hdom
        clear hdom
        go_wp2_with fail
        refine (pair_yes p.1 p.2 _ hdp.1 hdp.2).mono ?_
        rintro e w1 ⟨rfl, hb1⟩
        clear hdp c0' c1'
        go_wp2
        go_roundw
        case rel => exact ⟨k + 1, by omega, by go_num, hb.trans (hb1.mono hb.size), take_dom HD.out hpk HE.out⟩
        case measure => simp [intOf]; omega
      · have hdp : p.2 < 0 ∨ (p.2 < 64 ∧ (p.1 < 0 ∨ 4194304 ≤ p.1)) := not_dom hdom
        clear hdom
        go_wp2_with fail
        refine (pair_no p.1 p.2 _ hdp).mono ?_
        rintro e w1 ⟨rfl, hb1⟩
        clear hdp c0' c1'
        go_wp2
        go_ret
        exact ⟨hb.trans (hb1.mono hb.size), Or.inr rfl⟩
    · go_wp2
      go_ret
      refine ⟨hb, Or.inl ⟨rfl, ?_⟩⟩
      have h := HD.out
      rw [List.take_of_length_le (by rw [HP.out.length]; omega)] at h
      exact h

/-! ### the copy -/
def flat (l : List (Int × Int)) : List Value := l.flatMap fun p => [.int .i64 p.1, .int .i64 p.2]
theorem flat_length (l : List (Int × Int)) : (flat l).length = l.length * 2 := by
  unfold flat
  induction l with
  | nil => rfl
  | cons p l ih => simp only [List.flatMap_cons, List.length_append, ih, List.length_cons, List.length_nil]; omega
theorem flat_at : ∀ (l : List (Int × Int)) (i : Nat) (p : Int × Int), l[i]? = some p → (flat l)[i * 2]? = some (.int .i64 p.1) ∧ (flat l)[i * 2 + 1]? = some (.int .i64 p.2)
  | [], i, p, h => by simp at h
  | q :: l, 0, p, h => by
    simp at h
    subst h
    simp [flat]
  | q :: l, i + 1, p, h => by
    simp only [List.getElem?_cons_succ] at h
    obtain ⟨h1, h2⟩ := flat_at l i p h
    have e : flat (q :: l) = .int .i64 q.1 :: .int .i64 q.2 :: flat l := rfl
    rw [e, show (i + 1) * 2 = i * 2 + 1 + 1 by omega, show i * 2 + 1 + 1 + 1 = (i * 2 + 1) + 1 + 1 by omega]
    simp only [List.getElem?_cons_succ]
    exact ⟨h1, h2⟩
theorem flat_snoc (l : List (Int × Int)) (p : Int × Int) : flat (l ++ [p]) = flat l ++ [.int .i64 p.1, .int .i64 p.2] := by
  simp [flat]

/-- v is a slice of the call's own that holds l, in block g where it is not nil -/
def Copied (w : World) (v : Value) (l : List (Int × Int)) (B : Nat) : Prop :=
  ∃ ao cap, v = .slice ao l.length cap ∧ ((ao = none ∧ l = []) ∨ ∃ g, ao = some ⟨g, 0, none⟩ ∧ B ≤ g ∧ g < w.heap.size ∧ w.heap[g]? = some (.cells (flat l).toArray 30 (0, 0)))

theorem Try.info30 : (Try.prog.info? 30).map (fun i => (i.zero, i.size, i.bytes)) = some (some (.agg #[.int .i64 0, .int .i64 0]), 2, 16) := by kernel_rfl

/-- the copy's block behind k rounds -/
def Part (w : World) (g : Nat) (l : List (Int × Int)) (len k : Nat) : Prop :=
  ∃ cur, w.heap[g]? = some (.cells cur 30 (0, 0)) ∧ cur.size = len * 2 ∧ cur.toList.take (k * 2) = flat (l.take k)
theorem part_start (w : World) (l : List (Int × Int)) (len : Nat) : Part (w.alloc (.cells (madeCells #[.int .i64 0, .int .i64 0] (len * 2)) 30)) w.heap.size l len 0 :=
  ⟨_, heap_alloc_new w _, size_madeCells _ _, by simp [flat]⟩
theorem part_cells {w : World} {g : Nat} {l : List (Int × Int)} {len k : Nat} (h : Part w g l len k) (hk : k < len) :
    ∃ v0 v1, w.cell? ⟨g, k * 2, none⟩ = some v0 ∧ w.cell? ⟨g, k * 2 + 1, none⟩ = some v1 ∧ w.frozen? ⟨g, k * 2, none⟩ = false ∧ w.frozen? ⟨g, k * 2 + 1, none⟩ = false := by
  obtain ⟨cur, hg, hs, _⟩ := h
  refine ⟨cur[k * 2]'(by omega), cur[k * 2 + 1]'(by omega), ?_, ?_, free_of hg, free_of hg⟩
  · rw [cell_of hg]; exact Array.getElem?_eq_getElem _
  · rw [cell_of hg]; exact Array.getElem?_eq_getElem _
theorem part_step {w : World} {g : Nat} {l : List (Int × Int)} {len k : Nat} (h : Part w g l len k) {p : Int × Int} (hp : l[k]? = some p) (hk : k < len) :
    Part ((w.setCell ⟨g, k * 2, none⟩ (.int .i64 p.1)).setCell ⟨g, k * 2 + 1, none⟩ (.int .i64 p.2)) g l len (k + 1) := by
  obtain ⟨cur, hg, hs, ht⟩ := h
  obtain ⟨hlt, rfl⟩ := List.getElem?_eq_some_iff.1 hp
  refine ⟨_, block_setCell _ (block_setCell _ hg), by simp [hs], ?_⟩
  rw [List.take_succ_eq_append_getElem hlt, flat_snoc, ← ht]
  have hsl : cur.toList.length = len * 2 := by simp [hs]
  apply List.ext_getElem?
  intro i
  simp only [Array.toList_setIfInBounds]
  rw [List.getElem?_take, List.getElem?_set, List.getElem?_set, List.getElem?_append, List.getElem?_take]
  simp only [List.length_set, List.length_take, hsl]
  rw [Nat.min_eq_left (by omega)]
  by_cases h1 : i < k * 2
  · rw [if_pos (by omega), if_neg (by omega), if_neg (by omega), if_pos h1, if_pos h1]
  · rw [if_neg h1]
    by_cases h2 : i = k * 2
    · subst h2
      rw [if_pos (by omega), if_neg (by omega), if_pos rfl, if_pos (by omega), Nat.sub_self]
      rfl
    · by_cases h3 : i = k * 2 + 1
      · subst h3
        rw [if_pos (by omega), if_pos rfl, if_pos (by omega), show k * 2 + 1 - k * 2 = 1 by omega]
        rfl
      · rw [if_neg (by omega), List.getElem?_eq_none (by simp; omega)]
theorem part_end {w : World} {g : Nat} {l : List (Int × Int)} {len k : Nat} (h : Part w g l len k) (hl : l.length = len) (hk : len ≤ k) : Copied w (.slice (some ⟨g, 0, none⟩) len len) l g := by
  obtain ⟨cur, hg, hs, ht⟩ := h
  refine ⟨_, _, by rw [hl], Or.inr ⟨g, rfl, Nat.le_refl _, lt_of_block hg, ?_⟩⟩
  rw [List.take_of_length_le (by simp; omega), List.take_of_length_le (by omega)] at ht
  rw [hg, ← ht]

set_option maxHeartbeats 1000000 in
theorem copy_some (ad : Addr) (len cap : Nat) (l : List (Int × Int)) (w : World) (hl : len ≤ 1048576) (hp : IsPairs w (some ad) len cap l) :
    Calls Try.prog 12 #[.slice (some ad) len cap] w fun e w' => Below w.heap.size w w' ∧ ∃ v, e = .returned v ∧ Copied w' v l w.heap.size := by
  have HP : Hid (IsPairs w (some ad) len cap l) := hp
  clear hp
  obtain ⟨i0, hi, hz0, hz1, hz2⟩ := info_parts Try.info30
  have hmk : (Instr.makeSlice 22 (.int .i64 (len : Int)) (.int .i64 (len : Int))).run Try.prog w = .ok (.slice (some ⟨w.heap.size, 0, none⟩) len len) (w.alloc (.cells (madeCells #[.int .i64 0, .int .i64 0] (len * 2)) 30)) := by
    have h := run_make (P := Try.prog) w 22 30 i0 (.agg #[.int .i64 0, .int .i64 0]) Try.underlying22 hi hz0 .i64 .i64 len len (by omega) (Int.le_refl _) (by rw [hz2]; omega) (by omega)
    rw [hz1] at h
    exact h
  have hne := fun (w : World) (a : Option Addr) (n c : Nat) => Lib.run_eql_slice_nil (P := Try.prog) w 22 30 a n c 0 0 Try.underlying22
  clear hi hz0 hz1 hz2
  go_enter Try.func12, Try.ntmps12
  go_wp2
  go_loopw [4] (fun i wr => ∃ k : Nat, k ≤ len ∧ i = .int .i64 k ∧ Below w.heap.size w wr ∧ Part wr w.heap.size l len k) (fun i _ => len - (intOf i).toNat)
  case atStart => exact ⟨0, Nat.zero_le _, rfl, (Below.refl _ _).alloc (Nat.le_refl _) _, part_start w l len⟩
  case round =>
    obtain ⟨k, hk, rfl, hb, hpt⟩ := hrel
    have HT : Hid (Part wr w.heap.size l len k) := hpt
    clear hpt
    by_cases hlt : k < len
    · obtain ⟨p, hpk⟩ : ∃ p, l[k]? = some p := ⟨_, List.getElem?_eq_getElem (by rw [HP.out.length]; exact hlt)⟩
      obtain ⟨b, off, hao, hbl, c0, c1⟩ := HP.out.cells k p hpk
      have c0' : wr.cell? ⟨b, off + k * 2, none⟩ = some (.int .i64 p.1) := (hb.cell hbl).trans c0
      have c1' : wr.cell? ⟨b, off + k * 2 + 1, none⟩ = some (.int .i64 p.2) := (hb.cell hbl).trans c1
      obtain ⟨v0, v1, d0, d1, f0, f1⟩ := part_cells HT.out hlt
      simp only [Option.some.injEq] at hao
      subst hao
      clear c0 c1
      go_wp2
      go_roundw
      case rel => exact ⟨k + 1, by omega, by go_num, (hb.setCell (Nat.le_refl _) _).setCell (Nat.le_refl _) _, part_step HT.out hpk hlt⟩
      case measure => simp [intOf]; omega
    · go_wp2
      go_ret
      refine ⟨hb, _, rfl, ?_⟩
      exact part_end HT.out HP.out.length (by omega)

set_option maxHeartbeats 400000 in
theorem copy_nil (w : World) :
    Calls Try.prog 12 #[.slice none 0 0] w fun e w' => Below w.heap.size w w' ∧ ∃ v, e = .returned v ∧ Copied w' v [] w.heap.size := by
  have hne := fun (w : World) (a : Option Addr) (n c : Nat) => Lib.run_eql_slice_nil (P := Try.prog) w 22 30 a n c 0 0 Try.underlying22
  go_enter Try.func12, Try.ntmps12
  go_wp2
  go_ret
  exact ⟨Below.refl _ _, _, rfl, none, 0, rfl, Or.inl ⟨rfl, rfl⟩⟩

theorem copy_any (ao : Option Addr) (len cap : Nat) (l : List (Int × Int)) (w : World) (hl : len ≤ 1048576) (hp : IsPairs w ao len cap l) :
    Calls Try.prog 12 #[.slice ao len cap] w fun e w' => Below w.heap.size w w' ∧ ∃ v, e = .returned v ∧ Copied w' v l w.heap.size := by
  cases ao with
  | none =>
    obtain ⟨h1, h2⟩ := hp.nil rfl
    subst h1 h2
    have : l = [] := List.eq_nil_of_length_eq_zero hp.length
    subst this
    exact copy_nil w
  | some ad => exact copy_some ad len cap l w hl hp

end Go.Proofs.Qxb6601407a
