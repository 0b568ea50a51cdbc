/-
  'add' of any pair of the domain, and 'ZZPairSetAdd'.
-/
import Derived.Test.Qxb6601407aAddMap
import Derived.Test.Qxb6601407aAddBit
namespace Go.Proofs.Qxb6601407a
open Go.RowKit Go.Maps Go.WideMaps
set_option linter.unusedVariables false

/-- the laws' domain of pairs -/
def Dom (p : Int × Int) : Prop := 0 ≤ p.2 ∧ (p.2 < 64 → 0 ≤ p.1 ∧ p.1 < 4194304)

theorem Rep.mono {w : World} {F : Nat → Prop} {bp : Nat} {L : List (Int × Int)} {n n' : Nat} (h : Rep w F bp L n) (hn : n ≤ n') : Rep w F bp L n' := by
  obtain ⟨bits, mv, rs, hB, hM, hL⟩ := h
  exact ⟨bits, mv, rs, hB, hM.mono hn, hL⟩

theorem add_any (w : World) (F : Nat → Prop) (bp n : Nat) (L : List (Int × Int)) (a b : Int) (ha : I64 a) (hb : I64 b) (hd : Dom (a, b)) (hR : Rep w F bp L n) (hF : ∀ k, F k → k < w.heap.size) (hn : n < 1000000) :
    Calls Try.prog 36 #[.pointer (some ⟨bp, 0, none⟩), .int .i64 a, .int .i64 b] w fun e w' => e = .returned (.bool (decide ((a, b) ∈ L))) ∧ Rep w' (Wide F w w') bp ((a, b) :: L) (n + 1) ∧ Chg F w w' := by
  by_cases h64 : 64 ≤ b
  · exact add_map w F bp n L a b ha hb h64 hR hF hn
  · obtain ⟨h0, h1⟩ := hd
    obtain ⟨h2, h3⟩ := h1 (show b < 64 by omega)
    obtain ⟨a', rfl⟩ := Int.eq_ofNat_of_zero_le (show 0 ≤ a from h2)
    obtain ⟨b', rfl⟩ := Int.eq_ofNat_of_zero_le (show 0 ≤ b from h0)
    simp only at h3
    obtain ⟨bits, mv, rs, hB, hM, hL⟩ := hR
    have hlen := hB.len
    have h0' : Head w F bp mv L n (64 - rs.length) w := ⟨bits, rs, hB.kept (fun _ _ _ _ _ => rfl) (fun _ h => Or.inl h), hM.kept (fun _ _ _ => rfl) (fun _ h => Or.inl h), hL, Chg.refl F w, by omega⟩
    refine (addBit w F bp n mv L a' b' (by omega) (by omega) _ h0' hF).mono ?_
    rintro e w' ⟨rfl, h, hC⟩
    exact ⟨rfl, h.mono (by omega), hC⟩

set_option maxHeartbeats 400000 in
theorem zz_add (w : World) (F : Nat → Prop) (bp n : Nat) (L : List (Int × Int)) (a b : Int) (ha : I64 a) (hb : I64 b) (hd : Dom (a, b)) (hR : Rep w F bp L n) (hF : ∀ k, F k → k < w.heap.size) (hn : n < 1000000) :
    Calls Try.prog 13 #[.pointer (some ⟨bp, 0, none⟩), .int .i64 a, .int .i64 b] w fun e w' => e = .returned (.bool (decide ((a, b) ∈ L))) ∧ Rep w' (Wide F w w') bp ((a, b) :: L) (n + 1) ∧ Chg F w w' := by
  have H : Hid (Calls Try.prog 36 #[.pointer (some ⟨bp, 0, none⟩), .int .i64 a, .int .i64 b] w fun e w' => e = .returned (.bool (decide ((a, b) ∈ L))) ∧ Rep w' (Wide F w w') bp ((a, b) :: L) (n + 1) ∧ Chg F w w') :=
    add_any w F bp n L a b ha hb hd hR hF hn
  clear hR hF hd ha hb
  go_enter Try.func13, Try.ntmps13
  go_wp2_with (go_at_call 36; refine H.out.mono ?_; rintro e w' ⟨rfl, hrep, hchg⟩)
  go_ret
  exact ⟨rfl, hrep, hchg⟩

end Go.Proofs.Qxb6601407a
