/-
  The law's state: two sets side by side, the two copies; how many pairs were new.
-/
import Derived.Test.Qxb6601407aPairs
namespace Go.Proofs.Qxb6601407a
open Go.RowKit Go.Maps Go.WideMaps
set_option linter.unusedVariables false

/-! ### how many pairs of a list are new, the last one first -/
def memB (p : Int × Int) (L : List (Int × Int)) : Bool := decide (p ∈ L)
def nd : List (Int × Int) → Nat
  | [] => 0
  | p :: l => nd l + (if memB p l = true then 0 else 1)
theorem memB_snoc (p q : Int × Int) (l : List (Int × Int)) : memB p (l ++ [q]) = (memB p l || decide (p = q)) := by
  simp [memB]
theorem nd_snoc : ∀ (l : List (Int × Int)) (p : Int × Int), nd (l ++ [p]) = nd l + (if memB p l = true then 0 else 1)
  | [], p => rfl
  | q :: l, p => by
    show nd (l ++ [p]) + (if memB q (l ++ [p]) = true then 0 else 1) = nd l + (if memB q l = true then 0 else 1) + (if memB p (q :: l) = true then 0 else 1)
    rw [nd_snoc l p, memB_snoc]
    have e : memB p (q :: l) = (decide (p = q) || memB p l) := by simp [memB]
    rw [e]
    by_cases h : p = q
    · subst h
      cases memB p l <;> simp
    · have h' : ¬ q = p := fun e => h e.symm
      simp only [h, h', decide_false, Bool.or_false, Bool.false_or]
      omega
theorem memB_reverse (p : Int × Int) (l : List (Int × Int)) : memB p l.reverse = memB p l := by simp [memB]
theorem nd_reverse : ∀ l : List (Int × Int), nd l.reverse = nd l
  | [] => rfl
  | p :: l => by
    rw [List.reverse_cons, nd_snoc, nd_reverse l, memB_reverse]
    rfl
theorem nd_le : ∀ l : List (Int × Int), nd l ≤ l.length
  | [] => Nat.le_refl _
  | p :: l => by
    have := nd_le l
    show nd l + _ ≤ l.length + 1
    split <;> omega

/-! ### the state -/
def Held (w : World) (ao : Option Addr) (l : List (Int × Int)) (F1 F2 : Nat → Prop) : Prop :=
  (ao = none ∧ l = []) ∨ ∃ g, ao = some ⟨g, 0, none⟩ ∧ g < w.heap.size ∧ w.heap[g]? = some (.cells (flat l).toArray 30 (0, 0)) ∧ ¬ F1 g ∧ ¬ F2 g

def St (w0 : World) (B : Nat) (gp gq : Option Addr) (ps qs : List (Int × Int)) (f1 f2 : Nat) (L1 L2 : List (Int × Int)) (c : Nat) (w : World) : Prop :=
  ∃ F1 F2, Rep w F1 f1 L1 c ∧ Rep w F2 f2 L2 c ∧ (∀ k, F1 k → F2 k → False) ∧ (∀ k, F1 k ∨ F2 k → B ≤ k ∧ k < w.heap.size) ∧ Held w gp ps F1 F2 ∧ Held w gq qs F1 F2 ∧ Below B w0 w

/-- W is w but for the tape's count -/
def SameMem (w W : World) : Prop := W.heap = w.heap ∧ W.os = w.os ∧ W.tape = w.tape ∧ W.output = w.output

theorem Held.kept {w w' : World} {ao : Option Addr} {l : List (Int × Int)} {F1 F2 G1 G2 : Nat → Prop} (h : Held w ao l F1 F2) (hk : ∀ k, k < w.heap.size → ¬ F1 k → ¬ F2 k → w'.heap[k]? = w.heap[k]?) (hs : w.heap.size ≤ w'.heap.size)
    (h1 : ∀ k, k < w.heap.size → G1 k → F1 k) (h2 : ∀ k, k < w.heap.size → G2 k → F2 k) : Held w' ao l G1 G2 := by
  rcases h with h | ⟨g, hao, hlt, hg, n1, n2⟩
  · exact Or.inl h
  · exact Or.inr ⟨g, hao, by omega, (hk g hlt n1 n2).trans hg, fun x => n1 (h1 g hlt x), fun x => n2 (h2 g hlt x)⟩

theorem St.same {w0 : World} {B : Nat} {gp gq : Option Addr} {ps qs : List (Int × Int)} {f1 f2 : Nat} {L1 L2 : List (Int × Int)} {c : Nat} {w W : World} (h : St w0 B gp gq ps qs f1 f2 L1 L2 c w) (hs : SameMem w W) : St w0 B gp gq ps qs f1 f2 L1 L2 c W := by
  obtain ⟨F1, F2, h1, h2, hd, hb, hp, hq, hB⟩ := h
  obtain ⟨e1, e2, e3, e4⟩ := hs
  refine ⟨F1, F2, h1.kept (fun _ _ => by rw [e1]) (fun _ h => h), h2.kept (fun _ _ => by rw [e1]) (fun _ h => h), hd, fun k hk => by rw [e1]; exact hb k hk, ?_, ?_, ?_⟩
  · exact hp.kept (fun _ _ _ _ => by rw [e1]) (by rw [e1]; exact Nat.le_refl _) (fun _ _ h => h) (fun _ _ h => h)
  · exact hq.kept (fun _ _ _ _ => by rw [e1]) (by rw [e1]; exact Nat.le_refl _) (fun _ _ h => h) (fun _ _ h => h)
  · exact ⟨e2.trans hB.os, e3.trans hB.tape, e4.trans hB.output, by rw [e1]; exact hB.size, fun k hk => by rw [e1]; exact hB.block k hk⟩

theorem St.swap {w0 : World} {B : Nat} {gp gq : Option Addr} {ps qs : List (Int × Int)} {f1 f2 : Nat} {L1 L2 : List (Int × Int)} {c : Nat} {w : World} (h : St w0 B gp gq ps qs f1 f2 L1 L2 c w) : St w0 B gp gq ps qs f2 f1 L2 L1 c w := by
  obtain ⟨F1, F2, h1, h2, hd, hb, hp, hq, hB⟩ := h
  have sw : ∀ {ao l}, Held w ao l F1 F2 → Held w ao l F2 F1 := fun h => by
    rcases h with h | ⟨g, hao, hlt, hg, n1, n2⟩
    · exact Or.inl h
    · exact Or.inr ⟨g, hao, hlt, hg, n2, n1⟩
  exact ⟨F2, F1, h2, h1, fun k a b => hd k b a, fun k hk => hb k hk.symm, sw hp, sw hq, hB⟩

theorem St.add {w0 : World} {B : Nat} {gp gq : Option Addr} {ps qs : List (Int × Int)} {f1 f2 : Nat} {L1 L2 : List (Int × Int)} {c : Nat} {w : World} (h : St w0 B gp gq ps qs f1 f2 L1 L2 c w) (hBw : B ≤ w.heap.size) (p : Int × Int) (hf : I64 p.1 ∧ I64 p.2) (hd : Dom p) (hc : c < 1000000) :
    Calls Try.prog 13 #[.pointer (some ⟨f1, 0, none⟩), .int .i64 p.1, .int .i64 p.2] w fun e w' => e = .returned (.bool (memB p L1)) ∧ B ≤ w'.heap.size ∧ Hid (St w0 B gp gq ps qs f1 f2 (p :: L1) L2 (c + 1) w') := by
  obtain ⟨F1, F2, h1, h2, hdis, hb, hp, hq, hB⟩ := h
  refine (zz_add w F1 f1 c L1 p.1 p.2 hf.1 hf.2 hd h1 (fun k hk => (hb k (Or.inl hk)).2) hc).mono ?_
  rintro e w' ⟨rfl, hr, hC⟩
  refine ⟨rfl, Nat.le_trans hBw hC.size, ?_⟩
  have hk2 : ∀ k, F2 k → w'.heap[k]? = w.heap[k]? := fun k hk => hC.block k (hb k (Or.inr hk)).2 (fun h1 => hdis k h1 hk)
  have hw1 : ∀ k, k < w.heap.size → Wide F1 w w' k → F1 k := fun k hk hw => by
    rcases hw with hw | hw
    · exact hw
    · omega
  refine ⟨Wide F1 w w', F2, hr, (h2.kept hk2 (fun _ h => h)).mono (by omega), ?_, ?_, ?_, ?_, ?_⟩
  · intro k a b
    exact hdis k (hw1 k (hb k (Or.inr b)).2 a) b
  · intro k hk
    rcases hk with (hk | hk) | hk
    · have := hb k (Or.inl hk); have := hC.size; omega
    · exact ⟨by omega, hk.2⟩
    · have := hb k (Or.inr hk); have := hC.size; omega
  · exact hp.kept (fun k hk n1 _ => hC.block k hk n1) hC.size hw1 (fun _ _ h => h)
  · exact hq.kept (fun k hk n1 _ => hC.block k hk n1) hC.size hw1 (fun _ _ h => h)
  · refine ⟨hC.os.trans hB.os, hC.tape.trans hB.tape, hC.output.trans hB.output, Nat.le_trans hB.size hC.size, fun k hk => ?_⟩
    rw [hC.block k (by omega) (fun hf => by have := (hb k (Or.inl hf)).1; omega)]
    exact hB.block k hk

/-- the cells of element k of the copies -/
theorem Held.cells {w : World} {ao : Option Addr} {l : List (Int × Int)} {F1 F2 : Nat → Prop} (h : Held w ao l F1 F2) {k : Nat} {p : Int × Int} (hk : l[k]? = some p) :
    ∃ g, ao = some ⟨g, 0, none⟩ ∧ w.cell? ⟨g, k * 2, none⟩ = some (.int .i64 p.1) ∧ w.cell? ⟨g, k * 2 + 1, none⟩ = some (.int .i64 p.2) := by
  rcases h with ⟨_, h⟩ | ⟨g, hao, hlt, hg, n1, n2⟩
  · subst h; simp at hk
  · obtain ⟨h1, h2⟩ := flat_at l k p hk
    exact ⟨g, hao, by rw [cell_of hg]; simpa using h1, by rw [cell_of hg]; simpa using h2⟩
theorem St.cellsP {w0 : World} {B : Nat} {gp gq : Option Addr} {ps qs : List (Int × Int)} {f1 f2 : Nat} {L1 L2 : List (Int × Int)} {c : Nat} {w : World} (h : St w0 B gp gq ps qs f1 f2 L1 L2 c w) {k : Nat} {p : Int × Int} (hk : ps[k]? = some p) :
    ∃ g, gp = some ⟨g, 0, none⟩ ∧ w.cell? ⟨g, k * 2, none⟩ = some (.int .i64 p.1) ∧ w.cell? ⟨g, k * 2 + 1, none⟩ = some (.int .i64 p.2) := by
  obtain ⟨F1, F2, h1, h2, hdis, hb, hp, hq, hB⟩ := h
  exact hp.cells hk
theorem St.cellsQ {w0 : World} {B : Nat} {gp gq : Option Addr} {ps qs : List (Int × Int)} {f1 f2 : Nat} {L1 L2 : List (Int × Int)} {c : Nat} {w : World} (h : St w0 B gp gq ps qs f1 f2 L1 L2 c w) {k : Nat} {p : Int × Int} (hk : qs[k]? = some p) :
    ∃ g, gq = some ⟨g, 0, none⟩ ∧ w.cell? ⟨g, k * 2, none⟩ = some (.int .i64 p.1) ∧ w.cell? ⟨g, k * 2 + 1, none⟩ = some (.int .i64 p.2) := by
  obtain ⟨F1, F2, h1, h2, hdis, hb, hp, hq, hB⟩ := h
  exact hq.cells hk

/-- the state at the first loop's head -/
theorem St.start {w0 w : World} {B : Nat} {gp gq : Option Addr} {ps qs : List (Int × Int)} (hB : Below B w0 w) (hBw : B ≤ w.heap.size) (hp : Held w gp ps (fun _ => False) (fun _ => False)) (hq : Held w gq qs (fun _ => False) (fun _ => False)) :
    St w0 B gp gq ps qs w.heap.size (w.heap.size + 1) [] [] 0 ((w.alloc (.cells #[.slice none 0 0, .map none] 28)).alloc (.cells #[.slice none 0 0, .map none] 28)) := by
  have h1 := Rep.new w (fun k => k = w.heap.size) rfl
  have h2 := Rep.new (w.alloc (.cells #[.slice none 0 0, .map none] 28)) (fun k => k = w.heap.size + 1) (by simp)
  rw [World.size_alloc] at h2
  have hk : ∀ k, k < w.heap.size → ((w.alloc (.cells #[.slice none 0 0, .map none] 28)).alloc (.cells #[.slice none 0 0, .map none] 28)).heap[k]? = w.heap[k]? := fun k hk => by
    rw [Below.heap_alloc _ _ _ (by simp; omega), Below.heap_alloc _ _ _ hk]
  refine ⟨_, _, h1.kept (fun k hk => ?_) (fun _ h => h), h2, ?_, ?_, ?_, ?_, ?_⟩
  · subst hk
    rw [Below.heap_alloc _ _ _ (by simp)]
  · intro k a b; omega
  · intro k hk
    rw [World.size_alloc, World.size_alloc]
    omega
  · exact hp.kept (fun k hk' _ _ => hk k hk') (by simp; omega) (fun k a b => by omega) (fun k a b => by omega)
  · exact hq.kept (fun k hk' _ _ => hk k hk') (by simp; omega) (fun k a b => by omega) (fun k a b => by omega)
  · exact (hB.alloc hBw _).alloc (by simp; omega) _

end Go.Proofs.Qxb6601407a
