/-
  What a 'pairSet' is in memory: blocks, rows of words, a map; and what each write does to it. No walk here.
-/
import Derived.Test.Qxb6601407aProg
import Derived.WalkKit
import Derived.WalkSpells
import Derived.Maps.OwnSet
import Derived.Maps.AppendAt
import Derived.WideKeyPair
import Derived.DeepKeys4
import Derived.Deep.QuietTactic
namespace Go.Proofs.Qxb6601407a
open Go.RowKit Go.Maps Go.WideMaps

/-! ### worlds -/
/-- w' is w with new blocks, and with writes inside F alone -/
structure Chg (F : Nat → Prop) (w w' : World) : Prop where
  os : w'.os = w.os
  tape : w'.tape = w.tape
  output : w'.output = w.output
  size : w.heap.size ≤ w'.heap.size
  block : ∀ k, k < w.heap.size → ¬ F k → w'.heap[k]? = w.heap[k]?

theorem Chg.refl (F : Nat → Prop) (w : World) : Chg F w w := ⟨rfl, rfl, rfl, Nat.le_refl _, fun _ _ _ => rfl⟩
theorem Chg.trans {F F1 : Nat → Prop} {a b c : World} (h : Chg F a b) (k : Chg F1 b c) (hF : ∀ i, i < a.heap.size → F1 i → F i) : Chg F a c :=
  ⟨k.os.trans h.os, k.tape.trans h.tape, k.output.trans h.output, Nat.le_trans h.size k.size,
   fun i hi hn => (k.block i (Nat.lt_of_lt_of_le hi h.size) (fun hf => hn (hF i hi hf))).trans (h.block i hi hn)⟩
theorem Chg.mono {F F1 : Nat → Prop} {a b : World} (h : Chg F a b) (hF : ∀ i, i < a.heap.size → F i → F1 i) : Chg F1 a b :=
  ⟨h.os, h.tape, h.output, h.size, fun i hi hn => h.block i hi (fun hf => hn (hF i hi hf))⟩
theorem Chg.grown {F : Nat → Prop} {a b : World} {row : Option Nat} (h : a.grownBy b row) (hF : ∀ k, row = some k → F k) : Chg F a b :=
  ⟨h.os, h.tape, h.output, h.size, fun i hi hn => h.block i hi (fun e => hn (hF i e.symm))⟩
theorem Chg.alloc (F : Nat → Prop) (w : World) (o : Obj) : Chg F w (w.alloc o) := Chg.grown (World.grownBy_alloc w o none) (fun _ h => by cases h)
theorem Chg.drew (F : Nat → Prop) (w : World) : Chg F w w.drew := ⟨rfl, rfl, rfl, Nat.le_refl _, fun _ _ _ => rfl⟩
theorem Chg.drewN (F : Nat → Prop) (w : World) (n : Nat) : Chg F w (w.drewN n) := ⟨rfl, rfl, rfl, Nat.le_refl _, fun _ _ _ => rfl⟩
theorem Chg.setCell {F : Nat → Prop} (w : World) (a : Addr) (v : Value) (hF : F a.block) : Chg F w (w.setCell a v) :=
  ⟨rfl, rfl, rfl, by simp, fun i _ hn => Below.heap_setCell _ _ _ _ (fun e => hn (e ▸ hF))⟩

theorem block_setCell {w : World} {b o : Nat} {c : Array Value} {t : TypeId} {fr : Nat × Nat} (v : Value) (h : w.heap[b]? = some (.cells c t fr)) :
    (w.setCell ⟨b, o, none⟩ v).heap[b]? = some (.cells (c.setIfInBounds o v) t fr) := by
  have hlt := lt_of_block h
  have h' : w.heap[b] = .cells c t fr := by simpa [Array.getElem?_eq_getElem hlt] using h
  show (w.heap.modify b _)[b]? = _
  rw [Array.getElem?_eq_getElem (by simpa using hlt), Array.getElem_modify_self, h']
  rfl
theorem cell_of {w : World} {b o : Nat} {c : Array Value} {t : TypeId} {fr : Nat × Nat} (h : w.heap[b]? = some (.cells c t fr)) : w.cell? ⟨b, o, none⟩ = c[o]? := by
  simp [World.cell?, h]
theorem free_of {w : World} {b o : Nat} {c : Array Value} {t : TypeId} (h : w.heap[b]? = some (.cells c t (0, 0))) : w.frozen? ⟨b, o, none⟩ = false := by
  simp [World.frozen?, h]

/-! ### rows of words -/
def wordCells (ws : List Nat) : Array Value := (ws.map fun (x : Nat) => Value.int .u64 (x : Int)).toArray
def rowVal : Option (Nat × List Nat) → Value
  | none => .slice none 0 0
  | some (h, ws) => .slice (some ⟨h, 0, none⟩) ws.length ws.length
def bitAt (rs : List (Option (Nat × List Nat))) (a b : Nat) : Bool :=
  match rs[b]? with
  | some (some (_, ws)) => (ws.getD (a / 64) 0).testBit (a % 64)
  | _ => false
/-- 2 to the 63 -/
def maxWords : Nat := 9223372036854775807

structure Bt (w : World) (F : Nat → Prop) (bp : Nat) (bits mv : Value) (rs : List (Option (Nat × List Nat))) : Prop where
  box : w.heap[bp]? = some (.cells #[bits, mv] 28 (0, 0))
  fbox : F bp
  own : w.ownsRow 0 55 1 bits rs.length (rs.map rowVal)
  fown : ∀ g, bits.ownBlock = some g → F g
  len : rs.length ≤ 64
  row : ∀ (i h : Nat) (ws : List Nat), rs[i]? = some (some (h, ws)) → F h ∧ w.heap[h]? = some (.cells (wordCells ws) 58 (0, 0)) ∧ (∀ x ∈ ws, x < 2 ^ 64) ∧ ws.length ≤ maxWords
  apart : ∀ (i j h : Nat) (ws ws' : List Nat), rs[i]? = some (some (h, ws)) → rs[j]? = some (some (h, ws')) → i = j

theorem Bt.kept {w w' : World} {F F' : Nat → Prop} {bp : Nat} {bits mv : Value} {rs : List (Option (Nat × List Nat))} (h : Bt w F bp bits mv rs)
    (hk : ∀ k c t, F k → w.heap[k]? = some (.cells c t (0, 0)) → w'.heap[k]? = w.heap[k]?) (hF : ∀ k, F k → F' k) : Bt w' F' bp bits mv rs := by
  refine ⟨(hk _ _ _ h.fbox h.box).trans h.box, hF _ h.fbox, ?_, fun g hg => hF _ (h.fown g hg), h.len, ?_, h.apart⟩
  · obtain ⟨h1, h2⟩ := h.own
    refine ⟨h1, ?_⟩
    rcases h2 with h2 | ⟨g, cap, cur, hv, hb, hg, r⟩
    · exact Or.inl h2
    · exact Or.inr ⟨g, cap, cur, hv, hb, (hk g _ _ (h.fown g (by rw [hv]; rfl)) hg).trans hg, r⟩
  · intro i hh ws hi
    obtain ⟨r1, r2, r3⟩ := h.row i hh ws hi
    exact ⟨hF _ r1, (hk _ _ _ r1 r2).trans r2, r3⟩
/-- another value in the map's cell of the box -/
theorem Bt.setMap {w : World} {F : Nat → Prop} {bp : Nat} {bits mv : Value} {rs : List (Option (Nat × List Nat))} (h : Bt w F bp bits mv rs) (mv' : Value) : Bt (w.setCell ⟨bp, 1, none⟩ mv') F bp bits mv' rs := by
  refine ⟨?_, h.fbox, ?_, h.fown, h.len, ?_, h.apart⟩
  · rw [block_setCell mv' h.box]; rfl
  · refine ownsRow_setCell_other h.own ?_ _
    intro e
    obtain ⟨_, h2⟩ := h.own
    rcases h2 with ⟨hv, _⟩ | ⟨g, cap, cur, hv, _, hg, _⟩
    · rw [hv] at e; simp [Value.ownBlock] at e
    · rw [hv] at e
      simp [Value.ownBlock] at e
      subst e
      rw [h.box] at hg
      simp at hg
  · intro i hh ws hi
    obtain ⟨r1, r2, r3⟩ := h.row i hh ws hi
    refine ⟨r1, ?_, r3⟩
    rw [Below.heap_setCell]
    · exact r2
    · rintro rfl; rw [h.box] at r2; simp at r2

/-- the slice of rows, where there is a row b -/
theorem Bt.at {w : World} {F : Nat → Prop} {bp : Nat} {bits mv : Value} {rs : List (Option (Nat × List Nat))} (h : Bt w F bp bits mv rs) {b : Nat} {r : Option (Nat × List Nat)} (hb : rs[b]? = some r) :
    ∃ g cap cur, bits = .slice (some ⟨g, 0, none⟩) rs.length cap ∧ w.heap[g]? = some (.cells cur 55 (0, 0)) ∧ rs.length ≤ cap ∧ cap ≤ maxLen ∧ cur.size = cap ∧ cur.toList.take rs.length = rs.map rowVal ∧ cur[b]? = some (rowVal r) ∧ F g := by
  obtain ⟨h1, h2⟩ := h.own
  have hlt : b < rs.length := (List.getElem?_eq_some_iff.1 hb).1
  rcases h2 with ⟨_, h2⟩ | ⟨g, cap, cur, hv, hb', hg, hn, hm, hs, ht⟩
  · omega
  · rw [Nat.mul_one] at hs ht
    refine ⟨g, cap, cur, hv, hg, hn, hm, hs, ht, ?_, h.fown g (by rw [hv]; rfl)⟩
    have e : (cur.toList.take rs.length)[b]? = some (rowVal r) := by rw [ht, List.getElem?_map, hb]; rfl
    rw [List.getElem?_take_of_lt hlt] at e
    simpa using e

/-- the box's first cell written: another slice of rows -/
theorem Bt.setBits {w : World} {F : Nat → Prop} {bp : Nat} {bits mv : Value} {rs : List (Option (Nat × List Nat))} (h : Bt w F bp bits mv rs) {w1 : World} {bits' : Value} {rs' : List (Option (Nat × List Nat))}
    {F' : Nat → Prop} (hF : ∀ k, F k → F' k) (hbox : w1.heap[bp]? = w.heap[bp]?) (hrow : ∀ (i hh : Nat) (ws : List Nat), rs[i]? = some (some (hh, ws)) → w1.heap[hh]? = w.heap[hh]?)
    (hown : w1.ownsRow 0 55 1 bits' rs'.length (rs'.map rowVal)) (hf : ∀ g, bits'.ownBlock = some g → F' g) (hl : rs'.length ≤ 64)
    (hsame : ∀ (i hh : Nat) (ws : List Nat), rs'[i]? = some (some (hh, ws)) → rs[i]? = some (some (hh, ws))) : Bt (w1.setCell ⟨bp, 0, none⟩ bits') F' bp bits' mv rs' := by
  have hb1 : w1.heap[bp]? = some (.cells #[bits, mv] 28 (0, 0)) := hbox.trans h.box
  refine ⟨?_, hF _ h.fbox, ?_, hf, hl, ?_, ?_⟩
  · rw [block_setCell bits' hb1]; rfl
  · refine ownsRow_setCell_other hown ?_ _
    intro e
    obtain ⟨_, h2⟩ := hown
    rcases h2 with ⟨hv, _⟩ | ⟨g, cap, cur, hv, _, hg, _⟩
    · rw [hv] at e; simp [Value.ownBlock] at e
    · rw [hv] at e
      simp [Value.ownBlock] at e
      subst e
      rw [hb1] at hg
      simp at hg
  · intro i hh ws hi
    have hi' := hsame i hh ws hi
    obtain ⟨r1, r2, r3⟩ := h.row i hh ws hi'
    refine ⟨hF _ r1, ?_, r3⟩
    rw [Below.heap_setCell]
    · exact (hrow i hh ws hi').trans r2
    · rintro rfl
      have := (hrow i _ ws hi').trans r2
      rw [hb1] at this
      simp at this
  · intro i j hh ws ws' hi hj
    exact h.apart i j hh ws ws' (hsame _ _ _ hi) (hsame _ _ _ hj)

theorem take_set {α : Type} (l : List α) (n b : Nat) (x : α) : (l.set b x).take n = (l.take n).set b x := by
  apply List.ext_getElem?
  intro i
  rw [List.getElem?_take, List.getElem?_set, List.getElem?_set]
  simp only [List.length_take, List.getElem?_take]
  by_cases hi : i < n
  · by_cases hb : b = i
    · subst hb; simp [hi]; split <;> split <;> first | rfl | omega
    · simp [hi, hb]
  · by_cases hb : b = i
    · subst hb; simp [hi]; omega
    · simp [hi, hb]

/-- row b replaced by a new row -/
theorem Bt.setRow {w : World} {F : Nat → Prop} {bp : Nat} {bits mv : Value} {rs : List (Option (Nat × List Nat))} (h : Bt w F bp bits mv rs) {b g cap : Nat} {r : Option (Nat × List Nat)} (hb : rs[b]? = some r)
    (hbits : bits = .slice (some ⟨g, 0, none⟩) rs.length cap) {hh : Nat} {ws : List Nat} (hF : F hh) (hn : w.heap[hh]? = some (.cells (wordCells ws) 58 (0, 0))) (hx : ∀ x ∈ ws, x < 2 ^ 64) (hl : ws.length ≤ maxWords)
    (hnew : ∀ (i : Nat) (ws' : List Nat), rs[i]? = some (some (hh, ws')) → i = b) : Bt (w.setCell ⟨g, b, none⟩ (rowVal (some (hh, ws)))) F bp bits mv (rs.set b (some (hh, ws))) := by
  obtain ⟨g', cap', cur, hv, hg, hn1, hm, hs, ht, hc, hfg⟩ := h.at hb
  have hlt : b < rs.length := (List.getElem?_eq_some_iff.1 hb).1
  rw [hbits] at hv
  simp at hv
  obtain ⟨rfl, rfl⟩ := hv
  have hgbp : g ≠ bp := by rintro rfl; rw [h.box] at hg; simp at hg
  refine ⟨?_, h.fbox, ?_, h.fown, by simpa using h.len, ?_, ?_⟩
  · rw [Below.heap_setCell]
    · exact h.box
    · exact fun e => hgbp e.symm
  · refine ⟨by simp, Or.inr ⟨g, cap, cur.setIfInBounds b (rowVal (some (hh, ws))), by simpa using hbits, Nat.zero_le _, block_setCell _ hg, by simpa using hn1, hm, by simpa using hs, ?_⟩⟩
    simp only [List.length_set, Nat.mul_one, Array.toList_setIfInBounds, List.map_set]
    rw [take_set, ht]
  · intro i k vs hi
    rw [List.getElem?_set] at hi
    by_cases e : b = i
    · simp [e] at hi
      obtain ⟨_, hi⟩ := hi
      obtain ⟨rfl, rfl⟩ := hi
      refine ⟨hF, ?_, hx, hl⟩
      rw [Below.heap_setCell]
      · exact hn
      · rintro rfl; rw [hn] at hg; simp at hg
    · simp [e] at hi
      obtain ⟨r1, r2, r3⟩ := h.row i k vs hi
      refine ⟨r1, ?_, r3⟩
      rw [Below.heap_setCell]
      · exact r2
      · rintro rfl; rw [r2] at hg; simp at hg
  · intro i j k vs vs' hi hj
    rw [List.getElem?_set] at hi hj
    by_cases ei : b = i
    · by_cases ej : b = j
      · omega
      · simp [ei] at hi
        simp [ej] at hj
        obtain ⟨_, rfl, rfl⟩ := hi
        exact ei.symm.trans (hnew j vs' hj).symm
    · by_cases ej : b = j
      · simp [ei] at hi
        simp [ej] at hj
        obtain ⟨_, rfl, rfl⟩ := hj
        exact (hnew i vs hi).trans ej
      · simp [ei] at hi
        simp [ej] at hj
        exact h.apart i j k vs vs' hi hj

theorem wordCells_set (ws : List Nat) (j x : Nat) : (wordCells ws).setIfInBounds j (.int .u64 (x : Int)) = wordCells (ws.set j x) := by
  unfold wordCells
  apply Array.toList_inj.1
  simp [List.map_set]
theorem wordCells_at (ws : List Nat) (j : Nat) (hj : j < ws.length) : (wordCells ws)[j]? = some (.int .u64 (ws[j] : Int)) := by
  unfold wordCells
  simp [hj]

/-- one word of row b written -/
theorem Bt.setWord {w : World} {F : Nat → Prop} {bp : Nat} {bits mv : Value} {rs : List (Option (Nat × List Nat))} (h : Bt w F bp bits mv rs) {b hh : Nat} {ws : List Nat} (hb : rs[b]? = some (some (hh, ws))) {j x : Nat} (hx : x < 2 ^ 64) :
    Bt (w.setCell ⟨hh, j, none⟩ (.int .u64 (x : Int))) F bp bits mv (rs.set b (some (hh, ws.set j x))) := by
  obtain ⟨g, cap, cur, hv, hg, hn1, hm, hs, ht, hc, hfg⟩ := h.at hb
  obtain ⟨r1, r2, r3, r4⟩ := h.row b hh ws hb
  have hlt : b < rs.length := (List.getElem?_eq_some_iff.1 hb).1
  refine ⟨?_, h.fbox, ?_, h.fown, by simpa using h.len, ?_, ?_⟩
  · rw [Below.heap_setCell]
    · exact h.box
    · rintro rfl; rw [h.box] at r2; simp at r2
  · have e1 : (rs.set b (some (hh, ws.set j x))).map rowVal = rs.map rowVal := by
      rw [List.map_set]
      apply List.ext_getElem?
      intro i
      rw [List.getElem?_set]
      by_cases e : b = i
      · subst e
        rw [List.getElem?_map, hb]
        simp [hlt, rowVal]
      · simp [e]
    rw [e1, List.length_set]
    refine ownsRow_setCell_other h.own ?_ _
    rw [hv]
    simp [Value.ownBlock]
    rintro rfl; rw [hg] at r2; simp at r2
  · intro i k vs hi
    rw [List.getElem?_set] at hi
    by_cases e : b = i
    · simp [e] at hi
      obtain ⟨_, hi⟩ := hi
      obtain ⟨rfl, rfl⟩ := hi
      refine ⟨r1, ?_, ?_, by simpa using r4⟩
      · rw [block_setCell _ r2, wordCells_set]
      · intro y hy
        rcases List.mem_or_eq_of_mem_set hy with hy | rfl
        · exact r3 y hy
        · exact hx
    · simp [e] at hi
      obtain ⟨s1, s2, s3⟩ := h.row i k vs hi
      refine ⟨s1, ?_, s3⟩
      rw [Below.heap_setCell]
      · exact s2
      · rintro rfl; exact e (h.apart b i _ _ _ hb hi)
  · intro i j' k vs vs' hi hj
    rw [List.getElem?_set] at hi hj
    have key : ∀ i' (vs : List Nat), (if b = i' then if b < rs.length then some (some (hh, ws.set j x)) else none else rs[i']?) = some (some (k, vs)) → ∃ us, rs[i']? = some (some (k, us)) := by
      intro i' vs hi
      by_cases e : b = i'
      · simp [e] at hi
        obtain ⟨_, rfl, rfl⟩ := hi
        exact ⟨ws, e ▸ hb⟩
      · simp [e] at hi
        exact ⟨vs, hi⟩
    obtain ⟨us, hu⟩ := key i vs hi
    obtain ⟨us', hu'⟩ := key j' vs' hj
    exact h.apart i j' k us us' hu hu'

/-! ### what the bits say -/
def wordsOf : Option (Nat × List Nat) → List Nat
  | none => []
  | some (_, ws) => ws
theorem bitAt_row {rs : List (Option (Nat × List Nat))} {b : Nat} {r : Option (Nat × List Nat)} (h : rs[b]? = some r) (a : Nat) : bitAt rs a b = ((wordsOf r).getD (a / 64) 0).testBit (a % 64) := by
  unfold bitAt
  rw [h]
  cases r with
  | none => simp [wordsOf]
  | some p => rfl
theorem bitAt_other {rs : List (Option (Nat × List Nat))} {b b' : Nat} (h : b ≠ b') (r : Option (Nat × List Nat)) (a : Nat) : bitAt (rs.set b r) a b' = bitAt rs a b' := by
  unfold bitAt
  rw [List.getElem?_set, if_neg h]
theorem bitAt_nil {rs : List (Option (Nat × List Nat))} {b : Nat} (h : rs.length ≤ b) (a : Nat) : bitAt rs a b = false := by
  unfold bitAt
  rw [List.getElem?_eq_none h]
theorem bitAt_more (rs : List (Option (Nat × List Nat))) (a b : Nat) : bitAt (rs ++ [none]) a b = bitAt rs a b := by
  unfold bitAt
  rw [List.getElem?_append]
  by_cases h : b < rs.length
  · rw [if_pos h]
  · rw [if_neg h, List.getElem?_eq_none (show rs.length ≤ b by omega)]
    by_cases h' : b - rs.length = 0
    · simp [h']
    · rw [List.getElem?_eq_none (by simp; omega)]
theorem getD_zeros (ws : List Nat) (k j : Nat) : (ws ++ List.replicate k 0).getD j 0 = ws.getD j 0 := by
  rw [List.getD_eq_getElem?_getD, List.getD_eq_getElem?_getD, List.getElem?_append]
  by_cases h : j < ws.length
  · rw [if_pos h]
  · rw [if_neg h, List.getElem?_eq_none (show ws.length ≤ j by omega), List.getElem?_replicate]
    split <;> rfl
theorem bitAt_grow {rs : List (Option (Nat × List Nat))} {b : Nat} {r : Option (Nat × List Nat)} (h : rs[b]? = some r) (hh k a b' : Nat) :
    bitAt (rs.set b (some (hh, wordsOf r ++ List.replicate k 0))) a b' = bitAt rs a b' := by
  by_cases e : b = b'
  · subst e
    have hlt : b < rs.length := (List.getElem?_eq_some_iff.1 h).1
    rw [bitAt_row (by rw [List.getElem?_set]; simp [hlt]; rfl), bitAt_row h]
    show ((wordsOf r ++ List.replicate k 0).getD (a / 64) 0).testBit (a % 64) = _
    rw [getD_zeros]
  · exact bitAt_other e _ _
theorem bitAt_mark {rs : List (Option (Nat × List Nat))} {b hh : Nat} {ws : List Nat} (h : rs[b]? = some (some (hh, ws))) {a : Nat} (ha : a / 64 < ws.length) (a' b' : Nat) :
    bitAt (rs.set b (some (hh, ws.set (a / 64) (ws[a / 64] ||| 2 ^ (a % 64))))) a' b' = (bitAt rs a' b' || (decide (a' = a) && decide (b' = b))) := by
  by_cases e : b = b'
  · subst e
    have hlt : b < rs.length := (List.getElem?_eq_some_iff.1 h).1
    rw [bitAt_row (by rw [List.getElem?_set]; simp [hlt]; rfl), bitAt_row h]
    show ((ws.set (a / 64) (ws[a / 64] ||| 2 ^ (a % 64))).getD (a' / 64) 0).testBit (a' % 64) = ((ws.getD (a' / 64) 0).testBit (a' % 64) || _)
    rw [List.getD_eq_getElem?_getD, List.getElem?_set, List.getD_eq_getElem?_getD]
    by_cases e1 : a / 64 = a' / 64
    · rw [if_pos e1, if_pos ha, ← e1, List.getElem?_eq_getElem ha]
      simp only [Option.getD_some, Nat.testBit_or, Nat.testBit_two_pow, decide_true, Bool.and_true]
      congr 1
      rw [Bool.eq_iff_iff]
      simp only [decide_eq_true_eq]
      omega
    · rw [if_neg e1]
      have : ¬ a' = a := fun e => e1 (by rw [e])
      simp [this]
  · rw [bitAt_other e]
    have : ¬ b' = b := fun e' => e e'.symm
    simp [this]

/-! ### the map -/
theorem Try.laidOut : laidOutB Try.prog = true := by kernel_rfl
theorem Try.row30 : (30 : TypeId) < Try.prog.types.size := of_decide_eq_true (by kernel_rfl)
theorem Try.cells30 : Try.prog.cellsOf 30 = 2 := by kernel_rfl
theorem Try.arr : ArrKey Try.prog 30 3 2 := ⟨Try.underlying30, by kernel_rfl, by kernel_rfl, Try.cells30⟩
theorem Try.wide : (match Try.prog.underlying 30 with | some (.array _ _) | some (.struct _) => true | _ => false) = true := by rw [Try.underlying30]
theorem Try.law : Keyed Try.prog 30 := Keyed.of_law (deep_law_laid Try.laidOut (m := 2) (by omega) Try.row30 (by kernel_rfl) Try.wide)
theorem Try.zero57 (w : World) : (zeroValue 57).run Try.prog w = .ok (.agg #[]) w := by kernel_rfl
theorem Try.some_types : ∃ m, Try.prog.types.size = m + 1 := ⟨86, by kernel_rfl⟩

def I64 (x : Int) : Prop := -9223372036854775808 ≤ x ∧ x ≤ 9223372036854775807
theorem I64.wf {x : Int} (h : I64 x) : (Lit.int .i64 x).wf = true := WalkArith.wf_i64 h
def key (a b : Int) : Lit := .string (keyBytes [.int .i64 a, .int .i64 b])
theorem key_of {a b : Int} (ha : I64 a) (hb : I64 b) : keyOf Try.prog 30 (.agg #[.int .i64 a, .int .i64 b]) = some (key a b) :=
  keyOf_pair Try.arr Try.underlying3 Try.some_types ha.wf hb.wf
theorem key_inj {a b c d : Int} (ha : I64 a) (hb : I64 b) (hc : I64 c) (hd : I64 d) (h : key a b = key c d) : a = c ∧ b = d := by
  have e := Try.law.inj (key_of ha hb) (by rw [h]; exact key_of hc hd)
  simpa using e

/-- the map's part: nil and nothing held, or a map that holds just the pairs of L past the bit rows -/
def Mp (w : World) (F : Nat → Prop) (mv : Value) (L : List (Int × Int)) (n : Nat) : Prop :=
  (mv = .map none ∧ ∀ a b, 64 ≤ b → (a, b) ∉ L) ∨
  ∃ m, ∃ D : DataW Unit, mv = .map (some m) ∧ F m ∧ w.ownsMap Try.prog 30 unitElem m n D ∧ ∀ a b, I64 a → I64 b → 64 ≤ b → Maps.has D (key a b) = decide ((a, b) ∈ L)

theorem Mp.kept {w w' : World} {F F' : Nat → Prop} {mv : Value} {L : List (Int × Int)} {n : Nat} (h : Mp w F mv L n) (hk : ∀ m, mv = .map (some m) → F m → w'.heap[m]? = w.heap[m]?) (hF : ∀ k, F k → F' k) : Mp w' F' mv L n := by
  rcases h with h | ⟨m, D, hm, hf, hown, hD⟩
  · exact Or.inl h
  · refine Or.inr ⟨m, D, hm, hF _ hf, ?_, hD⟩
    obtain ⟨es, clock, hb, r⟩ := hown
    exact ⟨es, clock, (hk m hm hf).trans hb, r⟩

theorem Mp.isMap {w : World} {F : Nat → Prop} {mv : Value} {L : List (Int × Int)} {n : Nat} (h : Mp w F mv L n) {m : Nat} (hm : mv = .map (some m)) : ∃ es clock, w.heap[m]? = some (.map es clock) := by
  rcases h with ⟨h, _⟩ | ⟨m', D, h, _, ⟨es, clock, hb, _⟩, _⟩
  · rw [hm] at h; cases h
  · rw [hm] at h
    simp at h
    subst h
    exact ⟨es, clock, hb⟩

theorem Mp.mono {w : World} {F : Nat → Prop} {mv : Value} {L : List (Int × Int)} {n n' : Nat} (h : Mp w F mv L n) (hn : n ≤ n') : Mp w F mv L n' := by
  rcases h with h | ⟨m, D, hm, hf, hown, hD⟩
  · exact Or.inl h
  · exact Or.inr ⟨m, D, hm, hf, hown.mono hn, hD⟩

/-- a pair held as a bit says nothing of the map -/
theorem Mp.cons_bit {w : World} {F : Nat → Prop} {mv : Value} {L : List (Int × Int)} {n : Nat} (h : Mp w F mv L n) (a b : Int) (hb : b < 64) : Mp w F mv ((a, b) :: L) n := by
  rcases h with ⟨h1, h2⟩ | ⟨m, D, hm, hf, hown, hD⟩
  · refine Or.inl ⟨h1, fun x y hy hm => ?_⟩
    rcases List.mem_cons.1 hm with e | hm
    · simp at e; omega
    · exact h2 x y hy hm
  · refine Or.inr ⟨m, D, hm, hf, hown, fun x y hx hy hy64 => ?_⟩
    rw [hD x y hx hy hy64]
    rw [Bool.eq_iff_iff]
    simp only [decide_eq_true_eq, List.mem_cons, Prod.mk.injEq]
    constructor
    · exact Or.inr
    · rintro (⟨_, h⟩ | h)
      · omega
      · exact h

/-! ### the whole -/
def Rep (w : World) (F : Nat → Prop) (bp : Nat) (L : List (Int × Int)) (n : Nat) : Prop :=
  ∃ bits mv rs, Bt w F bp bits mv rs ∧ Mp w F mv L n ∧ ∀ a b : Nat, a < 4194304 → b < 64 → bitAt rs a b = decide (((a : Int), (b : Int)) ∈ L)

theorem Rep.kept {w w' : World} {F F' : Nat → Prop} {bp : Nat} {L : List (Int × Int)} {n : Nat} (h : Rep w F bp L n) (hk : ∀ k, F k → w'.heap[k]? = w.heap[k]?) (hF : ∀ k, F k → F' k) : Rep w' F' bp L n := by
  obtain ⟨bits, mv, rs, hB, hM, hL⟩ := h
  exact ⟨bits, mv, rs, hB.kept (fun k _ _ hf _ => hk k hf) hF, hM.kept (fun m _ hf => hk m hf) hF, hL⟩

/-- an empty set -/
theorem Rep.new (w : World) (F : Nat → Prop) (hF : F w.heap.size) : Rep (w.alloc (.cells #[.slice none 0 0, .map none] 28)) F w.heap.size [] 0 := by
  refine ⟨.slice none 0 0, .map none, [], ⟨?_, hF, World.ownsRow_nil _ _ _ _, ?_, by simp, ?_, ?_⟩, Or.inl ⟨rfl, by simp⟩, ?_⟩
  · exact heap_alloc_new w _
  · intro g hg; simp [Value.ownBlock] at hg
  · intro i h ws hi; simp at hi
  · intro i j h ws ws' hi; simp at hi
  · intro a b _ _; simp [bitAt]

/-- F, and the blocks that are new in w' -/
def Wide (F : Nat → Prop) (w w' : World) (k : Nat) : Prop := F k ∨ (w.heap.size ≤ k ∧ k < w'.heap.size)

/-- a pair past the bit rows says nothing of the bits -/
theorem bits_cons_map {rs : List (Option (Nat × List Nat))} {L : List (Int × Int)} (h : ∀ a b : Nat, a < 4194304 → b < 64 → bitAt rs a b = decide (((a : Int), (b : Int)) ∈ L)) (x y : Int) (hy : 64 ≤ y) :
    ∀ a b : Nat, a < 4194304 → b < 64 → bitAt rs a b = decide (((a : Int), (b : Int)) ∈ (x, y) :: L) := by
  intro a b ha hb
  rw [h a b ha hb, Bool.eq_iff_iff]
  simp only [decide_eq_true_eq, List.mem_cons, Prod.mk.injEq]
  constructor
  · exact Or.inr
  · rintro (⟨_, e⟩ | e)
    · omega
    · exact e
theorem has_cons {D : DataW Unit} {L : List (Int × Int)} (hD : IsMap D) (h : ∀ a b, I64 a → I64 b → 64 ≤ b → Maps.has D (key a b) = decide ((a, b) ∈ L)) {x y : Int} (hx : I64 x) (hy : I64 y) (d : DataW Unit) :
    ∀ a b, I64 a → I64 b → 64 ≤ b → Maps.has (D.put (key x y) d) (key a b) = decide ((a, b) ∈ (x, y) :: L) := by
  intro a b ha hb h64
  by_cases e : key a b = key x y
  · obtain ⟨rfl, rfl⟩ := key_inj ha hb hx hy e
    rw [has_put_same hD (Try.law.key (key_of hx hy))]
    simp
  · rw [has_put_other e, h a b ha hb h64, Bool.eq_iff_iff]
    simp only [decide_eq_true_eq, List.mem_cons, Prod.mk.injEq]
    constructor
    · exact Or.inr
    · rintro (⟨rfl, rfl⟩ | h)
      · exact absurd rfl e
      · exact h

/-- the map has been written: m a map's block -/
theorem Rep.of_map {w w' : World} {F : Nat → Prop} {bp m : Nat} {bits : Value} {rs : List (Option (Nat × List Nat))} {L : List (Int × Int)} {n : Nat} {D : DataW Unit}
    (hB : Bt w F bp bits (.map (some m)) rs) (hm : F m) (hcells : ∀ c t fr, w.heap[m]? ≠ some (.cells c t fr))
    (hg : ∀ k, k < w.heap.size → k ≠ m → w'.heap[k]? = w.heap[k]?) (hF : ∀ k, F k → k < w.heap.size)
    (hown : w'.ownsMap Try.prog 30 unitElem m n D) (hD : ∀ a b, I64 a → I64 b → 64 ≤ b → Maps.has D (key a b) = decide ((a, b) ∈ L))
    (hL : ∀ a b : Nat, a < 4194304 → b < 64 → bitAt rs a b = decide (((a : Int), (b : Int)) ∈ L)) : Rep w' F bp L n := by
  refine ⟨bits, _, rs, hB.kept (fun k c t hf hc => hg k (hF k hf) ?_) (fun _ h => h), Or.inr ⟨m, D, rfl, hm, hown, hD⟩, hL⟩
  rintro rfl
  exact hcells _ _ _ hc

end Go.Proofs.Qxb6601407a
