/-
  '(*pairSet).add' of a pair held as a bit.
-/
import Derived.Test.Qxb6601407aGrow
import Derived.BigQuiet
import Derived.BigRegion
import Derived.Deep.LoopGhost
import Derived.Deep.RegionHeld3
import Derived.Laws.Bits64b
namespace Go.Proofs.Qxb6601407a
open Go.RowKit Go.Maps Go.WideMaps
set_option linter.unusedVariables false

theorem Try.info55 : (Try.prog.info? 55).map (fun i => (i.zero, i.size, i.bytes)) = some (some (.slice none 0 0), 1, 24) := by kernel_rfl

theorem Bt.shape {w : World} {F : Nat → Prop} {bp : Nat} {bits mv : Value} {rs : List (Option (Nat × List Nat))} (h : Bt w F bp bits mv rs) : ∃ ao cap, bits = .slice ao rs.length cap := by
  obtain ⟨_, h2⟩ := h.own
  rcases h2 with ⟨hv, hn⟩ | ⟨g, cap, cur, hv, _⟩
  · exact ⟨none, 0, by rw [hv, hn]⟩
  · exact ⟨_, cap, hv⟩
theorem Bt.notBox {w : World} {F : Nat → Prop} {bp : Nat} {bits mv : Value} {rs : List (Option (Nat × List Nat))} (h : Bt w F bp bits mv rs) : some bp ≠ bits.ownBlock := by
  intro e
  obtain ⟨_, h2⟩ := h.own
  rcases h2 with ⟨hv, hn⟩ | ⟨g, cap, cur, hv, _, hg, _⟩
  · rw [hv] at e; simp [Value.ownBlock] at e
  · rw [hv] at e
    simp [Value.ownBlock] at e
    subst e
    rw [h.box] at hg
    simp at hg

/-- the state at the loop's head -/
def Head (w : World) (F : Nat → Prop) (bp : Nat) (mv : Value) (L : List (Int × Int)) (n k : Nat) (wr : World) : Prop :=
  ∃ bits rs, Bt wr (Wide F w wr) bp bits mv rs ∧ Mp wr (Wide F w wr) mv L n ∧ (∀ a b : Nat, a < 4194304 → b < 64 → bitAt rs a b = decide (((a : Int), (b : Int)) ∈ L)) ∧ Chg F w wr ∧ k + rs.length = 64

theorem append_facts {wr w1 : World} {F : Nat → Prop} {bp : Nat} {bits mv v' : Value} {rs : List (Option (Nat × List Nat))} (hB : Bt wr F bp bits mv rs) (o : Obj)
    (hown1 : w1.ownsRow 0 55 1 v' (rs.length + 1) (rs.map rowVal ++ [.slice none 0 0])) (hgrow1 : (wr.alloc o).grownBy w1 bits.ownBlock) :
    (∃ g cap', v' = .slice (some ⟨g, 0, none⟩) (rs.length + 1) cap') ∧ w1.heap[bp]? = wr.heap[bp]? := by
  constructor
  · obtain ⟨_, h2⟩ := hown1
    rcases h2 with ⟨_, h2⟩ | ⟨g, cap', cur, hv, _⟩
    · omega
    · exact ⟨g, cap', hv⟩
  · have hlt := lt_of_block hB.box
    rw [hgrow1.block bp (by simp; omega) hB.notBox, Below.heap_alloc _ _ _ hlt]

theorem head_step {w wr w1 : World} {F : Nat → Prop} {bp n k : Nat} {bits mv v' : Value} {L : List (Int × Int)} {rs : List (Option (Nat × List Nat))} (hB : Bt wr (Wide F w wr) bp bits mv rs) (hM : Mp wr (Wide F w wr) mv L n)
    (hL : ∀ a b : Nat, a < 4194304 → b < 64 → bitAt rs a b = decide (((a : Int), (b : Int)) ∈ L)) (hC : Chg F w wr) (hk : k + rs.length = 64) (hk0 : 0 < k) (hF : ∀ i, F i → i < w.heap.size) (o : Obj)
    (hown1 : w1.ownsRow 0 55 1 v' (rs.length + 1) (rs.map rowVal ++ [.slice none 0 0])) (hgrow1 : (wr.alloc o).grownBy w1 bits.ownBlock)
    (hloc : v'.ownBlock = bits.ownBlock ∨ v'.ownBlock = some (wr.alloc o).heap.size) :
    Head w F bp mv L n (k - 1) (w1.setCell ⟨bp, 0, none⟩ v') := by
  have hsz : wr.heap.size < w1.heap.size := by have := hgrow1.size; simp at this; omega
  have hWr : ∀ i, Wide F w wr i → i < wr.heap.size := fun i hi => by
    rcases hi with hi | hi
    · have := hF i hi; have := hC.size; omega
    · exact hi.2
  have hblk : ∀ i, i < wr.heap.size → some i ≠ bits.ownBlock → w1.heap[i]? = wr.heap[i]? := fun i hi hne => by
    rw [hgrow1.block i (by simp; omega) hne, Below.heap_alloc _ _ _ hi]
  have hW : ∀ i, Wide F w wr i → Wide F w (w1.setCell ⟨bp, 0, none⟩ v') i := fun i hi => by
    rcases hi with hi | hi
    · exact Or.inl hi
    · exact Or.inr ⟨hi.1, by rw [World.size_setCell]; omega⟩
  have hown' : w1.ownsRow 0 55 1 v' (rs ++ [none]).length ((rs ++ [none]).map rowVal) := by
    simpa [rowVal] using hown1
  have hlt : ∀ g, v'.ownBlock = some g → g < w1.heap.size := fun g hg => (hown1.lt g hg).2
  have hrowne : ∀ (i hh : Nat) (ws : List Nat), rs[i]? = some (some (hh, ws)) → some hh ≠ bits.ownBlock := fun i hh ws hi e => by
    obtain ⟨_, r2, _⟩ := hB.row i hh ws hi
    obtain ⟨_, h2⟩ := hB.own
    rcases h2 with ⟨hv, _⟩ | ⟨g, cap, cur, hv, _, hg, _⟩
    · rw [hv] at e; simp [Value.ownBlock] at e
    · rw [hv] at e
      simp [Value.ownBlock] at e
      subst e
      rw [r2] at hg
      simp at hg
  refine ⟨v', rs ++ [none], hB.setBits hW (hblk bp (lt_of_block hB.box) hB.notBox) (fun i hh ws hi => hblk hh (hWr hh (hB.row i hh ws hi).1) (hrowne i hh ws hi)) hown' ?_ (by simp; omega) ?_, ?_, ?_, ?_, by simp; omega⟩
  · intro g hg
    rcases hloc with h | h
    · exact hW g (hB.fown g (h ▸ hg))
    · rw [h] at hg
      simp at hg
      refine Or.inr ⟨?_, ?_⟩
      · have := hC.size; omega
      · rw [World.size_setCell]; exact hlt g (by rw [h]; simp [hg])
  · intro i hh ws hi
    rw [List.getElem?_append] at hi
    split at hi
    · exact hi
    · by_cases e : i - rs.length = 0
      · simp [e] at hi
      · rw [List.getElem?_eq_none (by simp; omega)] at hi; cases hi
  · refine hM.kept (fun m hm hf => ?_) hW
    obtain ⟨es, clock, hmap⟩ := hM.isMap hm
    have hne : some m ≠ bits.ownBlock := fun e => by
      obtain ⟨_, h2⟩ := hB.own
      rcases h2 with ⟨hv, _⟩ | ⟨g, cap, cur, hv, _, hg, _⟩
      · rw [hv] at e; simp [Value.ownBlock] at e
      · rw [hv] at e
        simp [Value.ownBlock] at e
        subst e
        rw [hmap] at hg
        simp at hg
    rw [Below.heap_setCell]
    · exact hblk m (hWr m hf) hne
    · rintro rfl
      rw [hB.box] at hmap
      simp at hmap
  · intro a b ha hb
    rw [bitAt_more]
    exact hL a b ha hb
  · have h1 : Chg (Wide F w wr) wr w1 := (Chg.alloc _ wr o).trans (Chg.grown (F := Wide F w wr) hgrow1 (fun g hg => hB.fown g hg)) (fun _ _ h => h)
    have h2 : Chg (Wide F w wr) wr (w1.setCell ⟨bp, 0, none⟩ v') := h1.trans (Chg.setCell w1 ⟨bp, 0, none⟩ v' hB.fbox) (fun _ _ h => h)
    refine hC.trans h2 (fun i hi hw => ?_)
    rcases hw with hw | hw
    · exact hw
    · omega

theorem row_shape {w : World} {F : Nat → Prop} {bp : Nat} {bits mv : Value} {rs : List (Option (Nat × List Nat))} (hB : Bt w F bp bits mv rs) {b : Nat} {r : Option (Nat × List Nat)} (hr : rs[b]? = some r) :
    ∃ ro, rowVal r = .slice ro (wordsOf r).length (wordsOf r).length ∧ (ro = none → (wordsOf r).length = 0) ∧ ∀ ad, ro = some ad → ∃ hh, ad = ⟨hh, 0, none⟩ ∧ r = some (hh, wordsOf r) := by
  cases r with
  | none => exact ⟨none, rfl, fun _ => rfl, fun ad h => by cases h⟩
  | some p =>
    obtain ⟨hh, ws⟩ := p
    exact ⟨some ⟨hh, 0, none⟩, rfl, fun h => (by cases h), fun ad h => ⟨hh, (Option.some.inj h).symm, rfl⟩⟩
theorem words_len {w : World} {F : Nat → Prop} {bp : Nat} {bits mv : Value} {rs : List (Option (Nat × List Nat))} (hB : Bt w F bp bits mv rs) {b : Nat} {r : Option (Nat × List Nat)} (hr : rs[b]? = some r) :
    (wordsOf r).length ≤ 9223372036854775807 := by
  cases r with
  | none => simp [wordsOf]
  | some p =>
    obtain ⟨hh, ws⟩ := p
    exact (hB.row b hh ws hr).2.2.2

theorem and_zero (x i : Nat) : (x &&& 2 ^ i) = 0 ↔ x.testBit i = false := by
  constructor
  · intro h
    have := Nat.testBit_and x (2 ^ i) i
    rw [h, Nat.testBit_two_pow_self] at this
    simpa using this.symm
  · intro h
    apply Nat.eq_of_testBit_eq
    intro j
    rw [Nat.testBit_and, Nat.testBit_two_pow]
    by_cases e : i = j
    · subst e; simp [h]
    · simp [e]
theorem and_test (x i : Nat) (hx : x < 2 ^ 64) (hi : i < 64) : (Go.bits .and .u64 (x : Int) ((2 ^ i : Nat) : Int) != 0) = x.testBit i := by
  have hp : 2 ^ i < 2 ^ 64 := Nat.pow_lt_pow_right (by omega) hi
  rw [u64_and_nat x (2 ^ i) (by omega) (by omega)]
  have hz := and_zero x i
  cases h : x.testBit i
  · rw [hz.2 h]; rfl
  · have : ¬ (x &&& 2 ^ i) = 0 := fun e => by rw [hz.1 e] at h; cases h
    simp only [bne_iff_ne, ne_eq]
    omega

/-- the word read, the word written -/
theorem tail_rep {W : World} {F : Nat → Prop} {bp n : Nat} {bits mv : Value} {L : List (Int × Int)} {rs : List (Option (Nat × List Nat))} {a b hh d x B : Nat} {ws : List Nat} (hB : Bt W F bp bits mv rs) (hM : Mp W F mv L n)
    (hL : ∀ a b : Nat, a < 4194304 → b < 64 → bitAt rs a b = decide (((a : Int), (b : Int)) ∈ L)) (ha : a < 4194304) (hb : b < 64) (hr : rs[b]? = some (some (hh, ws))) (hx : ws[d]? = some x) (hd : d = a / 64) (hbit : B = 2 ^ (a % 64)) :
    (Go.bits .and .u64 (x : Int) (B : Int) != 0) = decide (((a : Int), (b : Int)) ∈ L) ∧ Rep (W.setCell ⟨hh, d, none⟩ (.int .u64 (Go.bits .or .u64 (x : Int) (B : Int)))) F bp (((a : Int), (b : Int)) :: L) n := by
  obtain ⟨r1, r2, r3, r4⟩ := hB.row b hh ws hr
  obtain ⟨hdl, hxe⟩ := List.getElem?_eq_some_iff.1 hx
  have hx64 : x < 2 ^ 64 := r3 x (hxe ▸ List.getElem_mem hdl)
  have hi : a % 64 < 64 := Nat.mod_lt _ (by omega)
  have hB64 : B < 2 ^ 64 := by rw [hbit]; exact Nat.pow_lt_pow_right (by omega) hi
  constructor
  · rw [← hL a b ha hb, bitAt_row hr, hbit, and_test x _ hx64 hi]
    show _ = (ws.getD (a / 64) 0).testBit (a % 64)
    rw [List.getD_eq_getElem?_getD, ← hd, hx]
    rfl
  · have hor : (Go.bits .or .u64 (x : Int) (B : Int)) = ((x ||| B : Nat) : Int) := u64_or_nat x B (by omega) (by omega)
    rw [hor]
    have hB' := hB.setWord hr (j := d) (x := x ||| B) (Nat.or_lt_two_pow hx64 hB64)
    refine ⟨bits, mv, _, hB', ?_, ?_⟩
    · refine (hM.cons_bit a b (by omega)).kept (fun m hm hf => ?_) (fun _ h => h)
      obtain ⟨es, clock, hmap⟩ := hM.isMap hm
      rw [Below.heap_setCell]
      rintro rfl
      rw [r2] at hmap
      simp at hmap
    · intro a' b' ha' hb'
      subst hd
      have e := bitAt_mark hr (a := a) hdl a' b'
      rw [hxe, ← hbit] at e
      rw [e, hL a' b' ha' hb', Bool.eq_iff_iff]
      simp only [Bool.or_eq_true, Bool.and_eq_true, decide_eq_true_eq, List.mem_cons, Prod.mk.injEq]
      constructor
      · rintro (h | ⟨rfl, rfl⟩)
        · exact Or.inr h
        · exact Or.inl ⟨rfl, rfl⟩
      · rintro (⟨h1, h2⟩ | h)
        · exact Or.inr ⟨by omega, by omega⟩
        · exact Or.inl h

/-- the walk's end -/
theorem done_bit {w W : World} {F : Nat → Prop} {bp n : Nat} {bits mv : Value} {L : List (Int × Int)} {rs : List (Option (Nat × List Nat))} {a b hh d x B : Nat} {ws : List Nat} (hC : Chg F w W) (hF : ∀ i, F i → i < w.heap.size) (hB : Bt W (Wide F w W) bp bits mv rs) (hM : Mp W (Wide F w W) mv L n)
    (hL : ∀ a b : Nat, a < 4194304 → b < 64 → bitAt rs a b = decide (((a : Int), (b : Int)) ∈ L)) (ha : a < 4194304) (hb : b < 64) (hr : rs[b]? = some (some (hh, ws))) (hx : ws[d]? = some x) (hd : d = a / 64) (hbit : B = 2 ^ (a % 64)) :
    (Go.bits .and .u64 (x : Int) (B : Int) != 0) = decide (((a : Int), (b : Int)) ∈ L) ∧
      Rep (W.setCell ⟨hh, d, none⟩ (.int .u64 (Go.bits .or .u64 (x : Int) (B : Int)))) (Wide F w (W.setCell ⟨hh, d, none⟩ (.int .u64 (Go.bits .or .u64 (x : Int) (B : Int))))) bp (((a : Int), (b : Int)) :: L) n ∧
      Chg F w (W.setCell ⟨hh, d, none⟩ (.int .u64 (Go.bits .or .u64 (x : Int) (B : Int)))) := by
  obtain ⟨h1, h2⟩ := tail_rep hB hM hL ha hb hr hx hd hbit
  refine ⟨h1, h2.kept (fun _ _ => rfl) (fun k hk => ?_), ?_⟩
  · rcases hk with hk | hk
    · exact Or.inl hk
    · exact Or.inr ⟨hk.1, by rw [World.size_setCell]; exact hk.2⟩
  · refine hC.trans (Chg.setCell (F := Wide F w W) W ⟨hh, d, none⟩ _ (hB.row b hh ws hr).1) (fun i hi hw => ?_)
    rcases hw with hw | hw
    · exact hw
    · omega

theorem row_cells {w : World} {F : Nat → Prop} {bp : Nat} {bits mv : Value} {rs : List (Option (Nat × List Nat))} (hB : Bt w F bp bits mv rs) {b : Nat} {r : Option (Nat × List Nat)} (hr : rs[b]? = some r) {ro : Option Addr}
    (hrow : ∀ ad, ro = some ad → ∃ hh, ad = ⟨hh, 0, none⟩ ∧ r = some (hh, wordsOf r)) : ∀ ad, ro = some ad → ∀ j v, (wordCells (wordsOf r)).toList[j]? = some v → w.cell? (ad.add j) = some v := by
  intro ad had j v hv
  obtain ⟨hh, rfl, hrr⟩ := hrow ad had
  rw [Addr.add_lit, Nat.zero_add]
  obtain ⟨_, r2, _⟩ := hB.row b hh (wordsOf r) (hr.trans (congrArg some hrr))
  rw [cell_of r2]
  simpa using hv

/-- what 'Grow' leaves: w' has one new block, the grown row of G words -/
structure Grew (w w' : World) (ws : List Nat) (l G : Nat) : Prop where
  grown : w.grownBy w' none
  new : w'.heap[w.heap.size]? = some (.cells (wordCells (ws ++ List.replicate (G - l) 0)) 58 (0, 0))
  size : w'.heap.size = w.heap.size + 1
  cap : G ≤ maxWords

theorem grow_int (base : Option Addr) (ws : List Nat) (l k : Nat) (x : Int) (w : World) (hl : l = ws.length) (hx : x = (k : Int)) (hk : 0 < k) (hbig : l + k ≤ 65536)
    (hnil : base = none → l = 0) (hcs : ∀ a, base = some a → ∀ j v, (wordCells ws).toList[j]? = some v → w.cell? (a.add j) = some v) :
    Calls Try.prog 39 #[.slice base l l, .int .i64 x] w fun e w' => ∃ G, l + k ≤ G ∧ e = .returned (.slice (some ⟨w.heap.size, 0, none⟩) l G) ∧ Hid (Grew w w' ws l G) := by
  subst hl hx
  refine (grow_any base ws k w hk hbig hnil hcs).mono ?_
  rintro e w' ⟨G, h1, h2, rfl, rfl⟩
  refine ⟨G, h1, rfl, ?_⟩
  have hg := World.grownBy_alloc w.drew (.cells (wordCells (ws ++ List.replicate (G - ws.length) 0)) 58) none
  exact ⟨⟨hg.os, hg.tape, hg.output, hg.size, hg.block⟩, heap_alloc_new w.drew _, by simp, h2⟩

theorem Grew.cell {w w' : World} {ws : List Nat} {l G : Nat} (h : Grew w w' ws l G) {ad : Addr} {v : Value} (hc : w.cell? ad = some v) : w'.cell? ad = some v := h.grown.cell hc (by simp)

theorem wrap_need {d len : Nat} (h : d < 65536) (hl : len ≤ d) : IntKind.i64.wrap (IntKind.i64.wrap ((d : Int) + 1) - (len : Int)) = ((d + 1 - len : Nat) : Int) := by
  have h1 : IntKind.i64.wrap ((d : Int) + 1) = (d : Int) + 1 := by rw [IntKind.wrap_i64]; omega
  rw [h1, IntKind.wrap_i64]
  omega

/-- the grown row stored -/
theorem grow_state {w wr W0 w2 : World} {F : Nat → Prop} {bp n g cap b len G : Nat} {bits mv : Value} {L : List (Int × Int)} {rs : List (Option (Nat × List Nat))} {r : Option (Nat × List Nat)} {ws : List Nat}
    (hC : Chg F w wr) (hF : ∀ i, F i → i < w.heap.size) (hB : Bt wr (Wide F w wr) bp bits mv rs) (hbits : bits = .slice (some ⟨g, 0, none⟩) rs.length cap) (hM : Mp wr (Wide F w wr) mv L n)
    (hL : ∀ a b : Nat, a < 4194304 → b < 64 → bitAt rs a b = decide (((a : Int), (b : Int)) ∈ L)) (hr : rs[b]? = some r) (h0 : W0.heap = wr.heap ∧ W0.os = wr.os ∧ W0.tape = wr.tape ∧ W0.output = wr.output)
    (hg : Grew W0 w2 (wordsOf r) len G) (hws : ws = wordsOf r ++ List.replicate (G - len) 0) (hwl : ws.length = G) :
    ∃ W, W = w2.setCell ⟨g, b, none⟩ (.slice (some ⟨wr.heap.size, 0, none⟩) G G) ∧ Chg F w W ∧ Bt W (Wide F w W) bp bits mv (rs.set b (some (wr.heap.size, ws))) ∧ Mp W (Wide F w W) mv L n ∧
      (∀ a b' : Nat, a < 4194304 → b' < 64 → bitAt (rs.set b (some (wr.heap.size, ws))) a b' = decide (((a : Int), (b' : Int)) ∈ L)) ∧ (rs.set b (some (wr.heap.size, ws)))[b]? = some (some (wr.heap.size, ws)) := by
  have hsz0 : W0.heap.size = wr.heap.size := by rw [h0.1]
  have hsz : w2.heap.size = wr.heap.size + 1 := by rw [hg.size, hsz0]
  have hold : ∀ k, k < wr.heap.size → w2.heap[k]? = wr.heap[k]? := fun k hk => by
    rw [hg.grown.block k (by omega) (by simp), h0.1]
  have hWr : ∀ i, Wide F w wr i → i < wr.heap.size := fun i hi => by
    rcases hi with hi | hi
    · have := hF i hi; have := hC.size; omega
    · exact hi.2
  have hlt : b < rs.length := (List.getElem?_eq_some_iff.1 hr).1
  have hnew : w2.heap[wr.heap.size]? = some (.cells (wordCells ws) 58 (0, 0)) := by
    have := hg.new
    rw [hsz0, ← hws] at this
    exact this
  have hB2 : Bt w2 (Wide F w w2) bp bits mv rs := hB.kept (fun k _ _ hf _ => hold k (hWr k hf)) (fun k hf => by
    rcases hf with hf | hf
    · exact Or.inl hf
    · exact Or.inr ⟨hf.1, by omega⟩)
  have hM2 : Mp w2 (Wide F w w2) mv L n := hM.kept (fun m _ hf => hold m (hWr m hf)) (fun k hf => by
    rcases hf with hf | hf
    · exact Or.inl hf
    · exact Or.inr ⟨hf.1, by omega⟩)
  have hx : ∀ x ∈ ws, x < 2 ^ 64 := by
    intro x hx
    rw [hws, List.mem_append] at hx
    rcases hx with hx | hx
    · cases r with
      | none => simp [wordsOf] at hx
      | some p => exact (hB.row b p.1 p.2 hr).2.2.1 x hx
    · rw [(List.mem_replicate.1 hx).2]; exact Nat.two_pow_pos 64
  have hB3 := hB2.setRow hr hbits (hh := wr.heap.size) (ws := ws) (Or.inr ⟨hC.size, by omega⟩) hnew hx (by rw [hwl]; exact hg.cap) (fun i ws' hi => by
    have := hWr _ (hB.row i _ ws' hi).1
    omega)
  have hrv : rowVal (some (wr.heap.size, ws)) = .slice (some ⟨wr.heap.size, 0, none⟩) G G := by simp [rowVal, hwl]
  rw [hrv] at hB3
  refine ⟨_, rfl, ?_, hB3.kept (fun _ _ _ _ _ => rfl) (fun k hk => ?_), hM2.kept (fun m hm hf => ?_) (fun k hk => ?_), fun a b' ha hb' => ?_, by simp [hlt]⟩
  · have h1 : Chg F wr w2 := ⟨hg.grown.os.trans h0.2.1, hg.grown.tape.trans h0.2.2.1, hg.grown.output.trans h0.2.2.2, by omega, fun k hk _ => hold k hk⟩
    have h2 : Chg F w w2 := hC.trans h1 (fun _ _ h => h)
    refine h2.trans (Chg.setCell (F := Wide F w w2) w2 ⟨g, b, none⟩ _ (hB2.fown g (by rw [hbits]; rfl))) (fun i hi hw => ?_)
    rcases hw with hw | hw
    · exact hw
    · omega
  · rcases hk with hk | hk
    · exact Or.inl hk
    · exact Or.inr ⟨hk.1, by rw [World.size_setCell]; exact hk.2⟩
  · obtain ⟨es, clock, hmap⟩ := hM2.isMap hm
    rw [Below.heap_setCell]
    rintro rfl
    obtain ⟨g', cap', cur, hv, hg', _⟩ := hB2.at hr
    rw [hbits] at hv
    simp at hv
    obtain ⟨rfl, rfl⟩ := hv
    rw [hmap] at hg'
    simp at hg'
  · rcases hk with hk | hk
    · exact Or.inl hk
    · exact Or.inr ⟨hk.1, by rw [World.size_setCell]; exact hk.2⟩
  · rw [hws, bitAt_grow hr]
    exact hL a b' ha hb'

set_option maxHeartbeats 2000000 in
theorem addBit (w : World) (F : Nat → Prop) (bp n : Nat) (mv : Value) (L : List (Int × Int)) (a b : Nat) (ha : a < 4194304) (hb : b < 64) (k0 : Nat)
    (h0 : Head w F bp mv L n k0 w) (hF : ∀ i, F i → i < w.heap.size) :
    Calls Try.prog 36 #[.pointer (some ⟨bp, 0, none⟩), .int .i64 a, .int .i64 b] w fun e w' => e = .returned (.bool (decide (((a : Int), (b : Int)) ∈ L))) ∧ Rep w' (Wide F w w') bp (((a : Int), (b : Int)) :: L) n ∧ Chg F w w' := by
  obtain ⟨i0, hi, hz0, hz1, hz2⟩ := info_parts Try.info55
  go_enter Try.func36, Try.ntmps36
  go_wp2
  go_loopg [44] k0 (fun k _ wr => Head w F bp mv L n k wr)
  case atStart => exact h0
  case round =>
    obtain ⟨bits, rs, hB, hM, hL, hC, hk⟩ := hrel
    obtain ⟨ao, cap, hbits⟩ := hB.shape
    have c0 : wr.cell? ⟨bp, 0, none⟩ = some (.slice ao rs.length cap) := by rw [cell_of hB.box, ← hbits]; rfl
    have HB : Hid (Bt wr (Wide F w wr) bp bits mv rs) := hB
    have HM : Hid (Mp wr (Wide F w wr) mv L n) := hM
    have HL : Hid (∀ a b : Nat, a < 4194304 → b < 64 → bitAt rs a b = decide (((a : Int), (b : Int)) ∈ L)) := hL
    have HC : Hid (Chg F w wr) := hC
    have hl64 := hB.len
    clear hB hM hL hC
    by_cases hlt : rs.length ≤ b
    · have hown := HB.out.own
      rw [hbits] at hown
      go_wp2_with (at_builtin; refine wpList_append_own_at _ rfl _ _ 25 rfl 0 55 i0 (.slice none 0 0) 1 24 Try.underlying25 hi hz0 hz1 hz2 rfl (by decide) _ _ _ rfl (hown.alloc _) ⟨wr.heap.size, 0, none⟩ 1 1 [.slice none 0 0] rfl rfl (cell_one_new _ _ _) (by intro u hu; simp at hu; subst hu; rfl) (by unfold maxLen; omega) (by omega) (by simp) ?_; intro v' w1 hown1 hgrow1 hnil1 hloc1; have hap := append_facts HB.out _ hown1 (by rw [hbits]; exact hgrow1); obtain ⟨⟨g1, cap1, hv1⟩, hb1⟩ := hap; have hc1 : w1.cell? ⟨bp, 0, none⟩ = some bits := (by rw [cell_of (hb1.trans HB.out.box)]; rfl); have hf1 : w1.frozen? ⟨bp, 0, none⟩ = false := free_of (hb1.trans HB.out.box); have hrel1 := head_step HB.out HM.out HL.out HC.out hk (by omega) hF _ hown1 (by rw [hbits]; exact hgrow1) (by rw [hbits]; exact hloc1); clear hb1 hnil1 hloc1 hgrow1 hown1; rw [hv1] at hrel1 ⊢)
      go_roundg (gk - 1)
      case rel => exact hrel1
      case measure => omega
    · obtain ⟨r, hr⟩ : ∃ r, rs[b]? = some r := ⟨_, List.getElem?_eq_getElem (by omega)⟩
      obtain ⟨g, cap', cur, hbits', hg, hn1, hm1, hs1, ht1, hc1, hfg⟩ := HB.out.at hr
      obtain ⟨ro, hro, hrow⟩ := row_shape HB.out hr
      rw [hbits] at hbits'
      simp only [Value.slice.injEq, true_and] at hbits'
      obtain ⟨rfl, rfl⟩ := hbits'
      obtain ⟨len, hlen⟩ : ∃ len, len = (wordsOf r).length := ⟨_, rfl⟩
      have c1 : wr.cell? ⟨g, b, none⟩ = some (.slice ro len len) := by rw [cell_of hg, hc1, hro, hlen]
      have hlb : (b : Int) < (rs.length : Int) := by omega
      have HLen : Hid (len = (wordsOf r).length) := hlen
      have hlm : len ≤ 9223372036854775807 := by rw [hlen]; exact words_len HB.out hr
      clear hlen hc1 ht1 hs1 hro
      obtain ⟨d, hd0⟩ : ∃ d, d = a / 64 := ⟨_, rfl⟩
      have hd : (a : Int) / 64 = (d : Int) := by omega
      have HD : Hid (d = a / 64) := hd0
      have hdb : d < 65536 := by omega
      obtain ⟨B, hB0⟩ : ∃ B, B = 2 ^ (a % 64) := ⟨_, rfl⟩
      have hB1 : B < 2 ^ 64 := by rw [hB0]; exact Nat.pow_lt_pow_right (by omega) (by omega)
      have hbit : IntKind.u64.wrap (2 ^ (a % 64)) = (B : Int) := by
        rw [show (2 : Int) ^ (a % 64) = ((2 ^ (a % 64) : Nat) : Int) by simp, ← hB0]
        rw [IntKind.wrap_u64]
        omega
      have HBit : Hid (B = 2 ^ (a % 64)) := hB0
      clear hd0 hB0
      go_wp2
      go_quiet (fail)
      by_cases hw : d < len
      · obtain ⟨ad, had⟩ : ∃ ad, ro = some ad := by
          cases ro with
          | none => exact absurd (hrow.1 rfl) (by have := HLen.out; omega)
          | some ad => exact ⟨ad, rfl⟩
        subst had
        obtain ⟨hh, rfl, hrr⟩ := hrow.2 _ rfl
        obtain ⟨ws, hws⟩ : ∃ ws, ws = wordsOf r := ⟨_, rfl⟩
        rw [← hws] at hrr
        have hwl : ws.length = len := by rw [hws]; exact HLen.out.symm
        subst hrr
        clear hrow HLen hws
        obtain ⟨r1, r2, r3, r4⟩ := HB.out.row b hh ws hr
        obtain ⟨x, hx⟩ : ∃ x, ws[d]? = some x := ⟨_, List.getElem?_eq_getElem (by omega)⟩
        have c2 : wr.cell? ⟨hh, d, none⟩ = some (.int .u64 (x : Int)) := by
          rw [cell_of r2]; unfold wordCells; simp [hx]
        have f2 : wr.frozen? ⟨hh, d, none⟩ = false := free_of r2
        have HX : Hid (ws[d]? = some x) := hx
        clear r1 r2 r3 r4 hx hwl
        go_wp2
        go_ret
        have hfin := done_bit (W := wr.drewN nq) (HC.out.trans (Chg.drewN F wr nq) (fun _ _ h => h)) hF (HB.out.kept (fun _ _ _ _ _ => rfl) (fun _ h => h)) (HM.out.kept (fun _ _ _ => rfl) (fun _ h => h)) HL.out ha hb hr HX.out HD.out HBit.out
        exact ⟨congrArg (fun v => Ending.returned (.bool v)) hfin.1, hfin.2.1, hfin.2.2⟩
      · go_wp2
        have f0 : wr.frozen? ⟨bp, 0, none⟩ = false := free_of HB.out.box
        have f1 : wr.frozen? ⟨g, b, none⟩ = false := free_of hg
        have hgl : g < wr.heap.size := lt_of_block hg
        have hbl : bp < wr.heap.size := lt_of_block HB.out.box
        have HW : Hid (IntKind.i64.wrap (IntKind.i64.wrap ((d : Int) + 1) - (len : Int)) = ((d + 1 - len : Nat) : Int)) := wrap_need hdb (Nat.le_of_not_lt hw)
        have HRC : Hid (∀ W : World, W.heap = wr.heap → ∀ ad, ro = some ad → ∀ j v, (wordCells (wordsOf r)).toList[j]? = some v → W.cell? (ad.add j) = some v) := fun W hW ad had j v hv => by
          rw [← row_cells HB.out hr hrow.2 ad had j v hv]
          simp only [World.cell?, hW]
        have HNil : Hid (ro = none → len = 0) := fun h => HLen.out.trans (hrow.1 h)
        have hk1 : 0 < d + 1 - len := by omega
        have hk2 : len + (d + 1 - len) ≤ 65536 := by omega
        go_region_held3 (fun w' => w'.cell? ⟨bp, 0, none⟩ = some (.slice (some ⟨g, 0, none⟩) rs.length cap) ∧ w'.cell? ⟨g, b, none⟩ = some (.slice ro len len)) (first | exact ⟨hS1, hS2⟩ | go_keep)
          (first | (go_at_call 39; refine (grow_int ro (wordsOf r) len (d + 1 - len) _ _ HLen.out HW.out hk1 hk2 HNil.out ?_).mono ?_; exact HRC.out _ rfl; rintro e w2 ⟨G, hG1, rfl, hgrew⟩; have hS1 := hgrew.out.cell (ad := ⟨bp, 0, none⟩) c0; have hS2 := hgrew.out.cell (ad := ⟨g, b, none⟩) c1))
        have hgr := hgrew.out
        have f4 : w2.frozen? ⟨bp, 0, none⟩ = false := by rw [World.frozen?_of_block (w := wr) (hgr.grown.block bp hbl (by simp))]; exact f0
        have f5 : w2.frozen? ⟨g, b, none⟩ = false := by rw [World.frozen?_of_block (w := wr) (hgr.grown.block g hgl (by simp))]; exact f1
        have hGm : (G : Int) ≤ 9223372036854775807 := by have h := hgr.cap; unfold maxWords at h; omega
        have hdG : (d : Int) < (G : Int) := by omega
        have hbg : ¬ bp = g := fun e => by have h1 := HB.out.box; rw [e, hg] at h1; simp at h1
        obtain ⟨ws, hws⟩ : ∃ ws, ws = wordsOf r ++ List.replicate (G - len) 0 := ⟨_, rfl⟩
        have hwl : ws.length = G := by rw [hws, List.length_append, List.length_replicate, ← HLen.out]; omega
        obtain ⟨x, hx⟩ : ∃ x, ws[d]? = some x := ⟨_, List.getElem?_eq_getElem (by omega)⟩
        have hnew : w2.heap[wr.heap.size]? = some (.cells (wordCells ws) 58 (0, 0)) := by rw [hws]; exact hgr.new
        have c6 : w2.cell? ⟨wr.heap.size, d, none⟩ = some (.int .u64 (x : Int)) := by
          rw [cell_of hnew]; unfold wordCells; simp [hx]
        have f6 : w2.frozen? ⟨wr.heap.size, d, none⟩ = false := free_of hnew
        have HX : Hid (ws[d]? = some x ∧ ws = wordsOf r ++ List.replicate (G - len) 0 ∧ ws.length = G) := ⟨hx, hws, hwl⟩
        clear hgr hx hws hwl hnew HW HRC HNil hk1 hk2
        have hNg : ¬ g = wr.heap.size := by omega
        go_wp2
        go_region
        go_wp2
        go_ret
        obtain ⟨W, hW, hC2, hB2, hM2, hL2, hr2⟩ := grow_state (W0 := wr.drewN (nq + 1)) HC.out hF HB.out hbits HM.out HL.out hr ⟨rfl, rfl, rfl, rfl⟩ hgrew.out HX.out.2.1 HX.out.2.2
        have hfin := done_bit hC2 hF hB2 hM2 hL2 ha hb hr2 HX.out.1 HD.out HBit.out
        rw [hW] at hfin
        exact ⟨congrArg (fun v => Ending.returned (.bool v)) hfin.1, hfin.2.1.kept (fun _ _ => rfl) (fun _ h => h), hfin.2.2.trans (Chg.drew F _) (fun _ _ h => h)⟩

end Go.Proofs.Qxb6601407a
