/-
  The law's walk: 'FnPairSetAnswersIgnoreBuildingOrder' returns true.
-/
import Derived.Test.Qxb6601407aState
namespace Go.Proofs.Qxb6601407a
open Go.RowKit Go.Maps Go.WideMaps
set_option linter.unusedVariables false

theorem held_of {w : World} {v : Value} {l : List (Int × Int)} {B : Nat} (h : Copied w v l B) : ∃ ao cap, v = .slice ao l.length cap ∧ Held w ao l (fun _ => False) (fun _ => False) := by
  obtain ⟨ao, cap, rfl, h⟩ := h
  refine ⟨ao, cap, rfl, ?_⟩
  rcases h with h | ⟨g, hao, _, hlt, hg⟩
  · exact Or.inl h
  · exact Or.inr ⟨g, hao, hlt, hg, fun h => h, fun h => h⟩

theorem cellsP' {w0 : World} {B g : Nat} {gq : Option Addr} {ps qs : List (Int × Int)} {f1 f2 : Nat} {L1 L2 : List (Int × Int)} {c : Nat} {w : World} (h : Hid (St w0 B (some ⟨g, 0, none⟩) gq ps qs f1 f2 L1 L2 c w)) {k : Nat} {p : Int × Int} (hk : ps[k]? = some p) :
    w.cell? ⟨g, k * 2, none⟩ = some (.int .i64 p.1) ∧ w.cell? ⟨g, k * 2 + 1, none⟩ = some (.int .i64 p.2) := by
  obtain ⟨g', e, h1, h2⟩ := h.out.cellsP hk
  simp only [Option.some.injEq, Addr.mk.injEq, and_true] at e
  subst e
  exact ⟨h1, h2⟩
theorem cellsQ' {w0 : World} {B g : Nat} {gp : Option Addr} {ps qs : List (Int × Int)} {f1 f2 : Nat} {L1 L2 : List (Int × Int)} {c : Nat} {w : World} (h : Hid (St w0 B gp (some ⟨g, 0, none⟩) ps qs f1 f2 L1 L2 c w)) {k : Nat} {p : Int × Int} (hk : qs[k]? = some p) :
    w.cell? ⟨g, k * 2, none⟩ = some (.int .i64 p.1) ∧ w.cell? ⟨g, k * 2 + 1, none⟩ = some (.int .i64 p.2) := by
  obtain ⟨g', e, h1, h2⟩ := h.out.cellsQ hk
  simp only [Option.some.injEq, Addr.mk.injEq, and_true] at e
  subst e
  exact ⟨h1, h2⟩
theorem add1 {w0 : World} {B : Nat} {gp gq : Option Addr} {ps qs : List (Int × Int)} {f1 f2 : Nat} {L1 L2 : List (Int × Int)} {c : Nat} {w : World} (h : Hid (St w0 B gp gq ps qs f1 f2 L1 L2 c w)) (hBw : B ≤ w.heap.size) {p : Int × Int} (hf : I64 p.1 ∧ I64 p.2) (hd : Dom p) (hc : c < 1000000) :
    ∀ W : World, SameMem w W → Calls Try.prog 13 #[.pointer (some ⟨f1, 0, none⟩), .int .i64 p.1, .int .i64 p.2] W fun e w' => e = .returned (.bool (memB p L1)) ∧ B ≤ w'.heap.size ∧ Hid (St w0 B gp gq ps qs f1 f2 (p :: L1) L2 (c + 1) w') :=
  fun W hs => (h.out.same hs).add (by rw [hs.1]; exact hBw) p hf hd hc
theorem add2 {w0 : World} {B : Nat} {gp gq : Option Addr} {ps qs : List (Int × Int)} {f1 f2 : Nat} {L1 L2 : List (Int × Int)} {c : Nat} {w : World} (h : Hid (St w0 B gp gq ps qs f1 f2 L1 L2 c w)) (hBw : B ≤ w.heap.size) {p : Int × Int} (hf : I64 p.1 ∧ I64 p.2) (hd : Dom p) (hc : c < 1000000) :
    ∀ W : World, SameMem w W → Calls Try.prog 13 #[.pointer (some ⟨f2, 0, none⟩), .int .i64 p.1, .int .i64 p.2] W fun e w' => e = .returned (.bool (memB p L2)) ∧ B ≤ w'.heap.size ∧ Hid (St w0 B gp gq ps qs f1 f2 L1 (p :: L2) (c + 1) w') := fun W hs => by
  refine ((h.out.same hs).swap.add (by rw [hs.1]; exact hBw) p hf hd hc).mono ?_
  rintro e w' ⟨rfl, h1, h2⟩
  exact ⟨rfl, h1, h2.out.swap⟩
theorem take_rev {ps : List (Int × Int)} {k : Nat} {p : Int × Int} (h : ps[k]? = some p) : (ps.take (k + 1)).reverse = p :: (ps.take k).reverse := by
  obtain ⟨hlt, rfl⟩ := List.getElem?_eq_some_iff.1 h
  rw [List.take_succ_eq_append_getElem hlt, List.reverse_append]
  rfl
theorem nd_old {p : Int × Int} {L : List (Int × Int)} (h : memB p L = true) : nd (p :: L) = nd L := by simp [nd, h]
theorem nd_new {p : Int × Int} {L : List (Int × Int)} (h : memB p L = false) : nd (p :: L) = nd L + 1 := by simp [nd, h]

set_option maxHeartbeats 1000000 in
theorem law_core (a0 a1 : Option Addr) (cap0 cap1 : Nat) (ps qs : List (Int × Int)) (w : World) (h0 : ps.length ≤ 65536) (h1 : qs.length ≤ 65536 - ps.length)
    (hp : Hid (IsPairs w a0 ps.length cap0 ps)) (hq : Hid (IsPairs w a1 qs.length cap1 qs)) :
    Calls Try.prog 4 #[.slice a0 ps.length cap0, .slice a1 qs.length cap1] w fun e w' => e = .returned (.bool true) ∧ Below w.heap.size w w' := by
  obtain ⟨n0, hn0⟩ : ∃ n0, n0 = ps.length := ⟨_, rfl⟩
  obtain ⟨n1, hn1⟩ : ∃ n1, n1 = qs.length := ⟨_, rfl⟩
  have HN0 : Hid (n0 = ps.length) := hn0
  have HN1 : Hid (n1 = qs.length) := hn1
  rw [← hn0] at h0 h1 hp ⊢
  rw [← hn1] at h1 hq ⊢
  clear hn0 hn1
  go_enter Try.func4, Try.ntmps4
  go_wp2_with fail
  refine (bytes_ok _ _ _ _ _ _ _ (by omega) (by omega)).mono ?_
  rintro e w1 ⟨rfl, rfl⟩
  go_wp2_with fail
  refine (pairs_any a0 n0 cap0 ps _ (by omega) hp.out).mono ?_
  rintro e w2 ⟨hb2, ⟨rfl, hdp⟩ | rfl⟩
  · have HDP : Hid (∀ p ∈ ps, Dom p) := hdp
    clear hdp
    go_wp2_with fail
    refine (pairs_any a1 n1 cap1 qs _ (by omega) (hq.out.kept hb2)).mono ?_
    rintro e w3 ⟨hb3, ⟨rfl, hdq⟩ | rfl⟩
    · have HDQ : Hid (∀ p ∈ qs, Dom p) := hdq
      clear hdq
      have hb3' := hb2.trans (hb3.mono hb2.size)
      go_wp2_with fail
      refine (copy_any a0 n0 cap0 ps _ (by omega) (hp.out.kept hb3')).mono ?_
      rintro e w4 ⟨hb4, v0, rfl, hc0⟩
      have hb4' := hb3'.trans (hb4.mono hb3'.size)
      obtain ⟨gp, cp, hv0, hh0⟩ := held_of hc0
      rw [← HN0.out] at hv0
      rw [hv0]
      go_wp2_with fail
      refine (copy_any a1 n1 cap1 qs _ (by omega) (hq.out.kept hb4')).mono ?_
      rintro e w5 ⟨hb5, v1, rfl, hc1⟩
      have hb5' := hb4'.trans (hb5.mono hb4'.size)
      obtain ⟨gq, cq, hv1, hh1⟩ := held_of hc1
      rw [← HN1.out] at hv1
      rw [hv1]
      have hst := St.start (gp := gp) (gq := gq) (ps := ps) (qs := qs) hb5' hb5'.size (hh0.kept (fun k hk _ _ => hb5.block k hk) hb5.size (fun _ _ h => h) (fun _ _ h => h)) hh1
      have HST : Hid (St _ _ gp gq ps qs _ _ _ _ _ _) := hst
      clear hst hh0 hh1 hc0 hc1 hb5 hb4 hb3 hb2
      have hbs : w1.heap.size ≤ w5.heap.size := hb5'.size
      clear hb3' hb4' hb5' hv0 hv1
      go_wp2
      go_loopw [7, 9] (fun nf i wr => ∃ k : Nat, k ≤ n0 ∧ i = .int .i64 k ∧ nf = .int .i64 (nd (ps.take k).reverse : Nat) ∧ w1.heap.size ≤ wr.heap.size ∧ Hid (St w1 w1.heap.size gp gq ps qs w5.heap.size (w5.heap.size + 1) (ps.take k).reverse [] k wr)) (fun _ i _ => n0 - (intOf i).toNat)
      case atStart => exact ⟨0, Nat.zero_le _, rfl, rfl, by simp; omega, HST⟩
      case round =>
        obtain ⟨k, hk, rfl, rfl, hbw, HS⟩ := hrel
        clear HST
        obtain ⟨L, hL⟩ : ∃ L, L = (ps.take k).reverse := ⟨_, rfl⟩
        rw [← hL] at HS ⊢
        have HL : Hid (L = (ps.take k).reverse) := hL
        have hndL : nd L ≤ k := by have h := nd_le L; rw [hL, List.length_reverse, List.length_take] at h; rw [hL]; omega
        clear hL
        by_cases hlt : k < n0
        · obtain ⟨p, hpk⟩ : ∃ p, ps[k]? = some p := ⟨_, List.getElem?_eq_getElem (by have := HN0.out; omega)⟩
          obtain ⟨g, hgp, c0, c1⟩ := HS.out.cellsP hpk
          subst hgp
          have hpm : p ∈ ps := List.mem_of_getElem? hpk
          have HADD : Hid (∀ W : World, SameMem wr W → Calls Try.prog 13 #[.pointer (some ⟨w5.heap.size, 0, none⟩), .int .i64 p.1, .int .i64 p.2] W fun e w' => e = .returned (.bool (memB p L)) ∧ w1.heap.size ≤ w'.heap.size ∧ Hid (St w1 w1.heap.size (some ⟨g, 0, none⟩) gq ps qs w5.heap.size (w5.heap.size + 1) (p :: L) [] (k + 1) w')) :=
            add1 HS hbw (hp.out.fits p hpm) (HDP.out p hpm) (by omega)
          have HK : Hid (ps[k]? = some p) := hpk
          clear HS hpk hpm
          cases hm : memB p L
          all_goals
            go_wp2
            go_region_held3 (fun w' => w'.cell? ⟨g, k * 2, none⟩ = some (.int .i64 p.1) ∧ w'.cell? ⟨g, k * 2 + 1, none⟩ = some (.int .i64 p.2)) (first | exact hS | go_keep)
              (first | (go_at_call 13; refine (HADD.out _ ?_).mono ?_; exact ⟨rfl, rfl, rfl, rfl⟩; rintro e w6 ⟨rfl, hsz6, hst6⟩; have hS := cellsP' hst6 HK.out))
            clear HADD hS
            go_wp2
            go_roundw
            case rel => exact ⟨k + 1, by omega, by go_num, by rw [take_rev HK.out, ← HL.out]; first | rw [nd_old hm] | rw [nd_new hm]; try go_num, hsz6, by rw [take_rev HK.out, ← HL.out]; exact hst6⟩
            case measure => simp [intOf]; omega
        · obtain ⟨N, hN⟩ : ∃ N, N = nd ps := ⟨_, rfl⟩
          have HN : Hid (N = nd ps) := hN
          have eL : L = ps.reverse := by rw [HL.out, List.take_of_length_le (by have := HN0.out; omega)]
          have eN : nd L = N := by rw [eL, nd_reverse, hN]
          have hNb : N ≤ 65536 := by have := nd_le ps; have := HN0.out; omega
          rw [eN]
          rw [eL] at HS
          have hkn : k = n0 := by omega
          subst hkn
          clear hN eN eL HL hndL hlt
          go_wp2
          go_loopw [8, 10] (fun nb i wr => ∃ j : Nat, j ≤ k ∧ i = .int .i64 ((j : Int) - 1) ∧ nb = .int .i64 (nd (ps.drop j) : Nat) ∧ w1.heap.size ≤ wr.heap.size ∧ Hid (St w1 w1.heap.size gp gq ps qs w5.heap.size (w5.heap.size + 1) ps.reverse (ps.drop j) (k + (k - j)) wr)) (fun _ i _ => (intOf i + 1).toNat)
          case atStart =>
            have e0 : ps.drop k = [] := List.drop_of_length_le (by have := HN0.out; omega)
            exact ⟨k, Nat.le_refl _, rfl, by rw [e0]; rfl, hbw, by rw [e0, Nat.sub_self, Nat.add_zero]; exact HS⟩
          case round =>
            obtain ⟨j0, hj, rfl, rfl, hbw2, HS2⟩ := hrel
            clear HS hbw
            cases j0 with
            | succ j =>
              have ej : (((j + 1 : Nat) : Int) - 1) = (j : Int) := by omega
              rw [ej]
              clear ej
              obtain ⟨L, hL⟩ : ∃ L, L = ps.drop (j + 1) := ⟨_, rfl⟩
              rw [← hL] at HS2 ⊢
              have HL : Hid (L = ps.drop (j + 1)) := hL
              have hndL : nd L ≤ 65536 := by have h := nd_le L; rw [hL, List.length_drop] at h; have := HN0.out; rw [hL]; omega
              clear hL
              obtain ⟨p, hpk⟩ : ∃ p, ps[j]? = some p := ⟨_, List.getElem?_eq_getElem (by have := HN0.out; omega)⟩
              obtain ⟨g, hgp, c0, c1⟩ := HS2.out.cellsP hpk
              subst hgp
              have hpm : p ∈ ps := List.mem_of_getElem? hpk
              have HADD : Hid (∀ W : World, SameMem wr W → Calls Try.prog 13 #[.pointer (some ⟨w5.heap.size + 1, 0, none⟩), .int .i64 p.1, .int .i64 p.2] W fun e w' => e = .returned (.bool (memB p L)) ∧ w1.heap.size ≤ w'.heap.size ∧ Hid (St w1 w1.heap.size (some ⟨g, 0, none⟩) gq ps qs w5.heap.size (w5.heap.size + 1) ps.reverse (p :: L) (k + (k - (j + 1)) + 1) w')) :=
                add2 HS2 hbw2 (hp.out.fits p hpm) (HDP.out p hpm) (by omega)
              have HK : Hid (ps[j]? = some p) := hpk
              have HDr : Hid (ps.drop j = p :: L) := by
                show ps.drop j = p :: L
                obtain ⟨hlt, rfl⟩ := List.getElem?_eq_some_iff.1 hpk
                rw [List.drop_eq_getElem_cons hlt, HL.out]
              have hjk : j < k := by omega
              clear HS2 hpk hpm
              cases hm : memB p L
              all_goals
                go_wp2
                go_region_held3 (fun w' => w'.cell? ⟨g, j * 2, none⟩ = some (.int .i64 p.1) ∧ w'.cell? ⟨g, j * 2 + 1, none⟩ = some (.int .i64 p.2)) (first | exact hS | go_keep)
                  (first | (go_at_call 13; refine (HADD.out _ ?_).mono ?_; exact ⟨rfl, rfl, rfl, rfl⟩; rintro e w6 ⟨rfl, hsz6, hst6⟩; have hS := cellsP' hst6 HK.out))
                clear HADD hS
                go_wp2
                go_roundw
                case rel => exact ⟨j, by omega, rfl, by rw [HDr.out]; first | rw [nd_old hm] | rw [nd_new hm]; try go_num, hsz6, by rw [HDr.out, show k + (k - j) = k + (k - (j + 1)) + 1 by omega]; exact hst6⟩
                case measure => simp [intOf]
            | zero =>
              have e0 : ps.drop 0 = ps := rfl
              rw [e0] at HS2 ⊢
              rw [← HN.out]
              have e1 : (((0 : Nat) : Int) - 1) = -1 := rfl
              rw [e1]
              clear e0 e1
              go_wp2
              go_loopw [11] (fun i wr => ∃ j : Nat, j ≤ n1 ∧ i = .int .i64 j ∧ w1.heap.size ≤ wr.heap.size ∧ Hid (St w1 w1.heap.size gp gq ps qs w5.heap.size (w5.heap.size + 1) ((qs.take j).reverse ++ ps.reverse) ((qs.take j).reverse ++ ps) (k + k + j + j) wr)) (fun i _ => n1 - (intOf i).toNat)
              case atStart => exact ⟨0, Nat.zero_le _, rfl, hbw2, by simpa using HS2⟩
              case round =>
                obtain ⟨j, hj2, rfl, hbw3, HS3⟩ := hrel
                clear HS2 hbw2
                by_cases hlt : j < n1
                · obtain ⟨q, hqk⟩ : ∃ q, qs[j]? = some q := ⟨_, List.getElem?_eq_getElem (by have := HN1.out; omega)⟩
                  obtain ⟨g, hgq, c0, c1⟩ := HS3.out.cellsQ hqk
                  subst hgq
                  have hqm : q ∈ qs := List.mem_of_getElem? hqk
                  obtain ⟨L1, hL1⟩ : ∃ L1, L1 = (qs.take j).reverse ++ ps.reverse := ⟨_, rfl⟩
                  obtain ⟨L2, hL2⟩ : ∃ L2, L2 = (qs.take j).reverse ++ ps := ⟨_, rfl⟩
                  rw [← hL1, ← hL2] at HS3
                  have hmm : memB q L1 = memB q L2 := by rw [hL1, hL2]; simp [memB]
                  have HL1 : Hid ((qs.take (j + 1)).reverse ++ ps.reverse = q :: L1) := by
                    show (qs.take (j + 1)).reverse ++ ps.reverse = q :: L1
                    rw [take_rev hqk, hL1]; rfl
                  have HL2 : Hid ((qs.take (j + 1)).reverse ++ ps = q :: L2) := by
                    show (qs.take (j + 1)).reverse ++ ps = q :: L2
                    rw [take_rev hqk, hL2]; rfl
                  have hfit := hq.out.fits q hqm
                  have hdom := HDQ.out q hqm
                  have HF : Hid (I64 q.1 ∧ I64 q.2) := hfit
                  have HD : Hid (Dom q) := hdom
                  have HADD : Hid (∀ W : World, SameMem wr W → Calls Try.prog 13 #[.pointer (some ⟨w5.heap.size, 0, none⟩), .int .i64 q.1, .int .i64 q.2] W fun e w' => e = .returned (.bool (memB q L1)) ∧ w1.heap.size ≤ w'.heap.size ∧ Hid (St w1 w1.heap.size gp (some ⟨g, 0, none⟩) ps qs w5.heap.size (w5.heap.size + 1) (q :: L1) L2 (k + k + j + j + 1) w')) :=
                    add1 HS3 hbw3 hfit hdom (by omega)
                  have HK : Hid (qs[j]? = some q) := hqk
                  rw [hmm] at HADD
                  clear HS3 hqk hqm hL1 hL2 hfit hdom hmm
                  obtain ⟨m, hm⟩ : ∃ m, m = memB q L2 := ⟨_, rfl⟩
                  have HM : Hid (memB q L2 = m) := hm.symm
                  rw [← hm] at HADD
                  clear hm
                  go_wp2
                  go_region_held3 (fun w' => w'.cell? ⟨g, j * 2, none⟩ = some (.int .i64 q.1) ∧ w'.cell? ⟨g, j * 2 + 1, none⟩ = some (.int .i64 q.2)) (first | exact hS | go_keep)
                    (first | (go_at_call 13; refine (HADD.out _ ?_).mono ?_; exact ⟨rfl, rfl, rfl, rfl⟩; rintro e w6 ⟨rfl, hsz6, hst6⟩; have hS := cellsQ' hst6 HK.out))
                  clear HADD c0 c1 hbw3
                  have c0 := hS.1
                  have c1 := hS.2
                  have HADD : Hid (∀ W : World, SameMem w6 W → Calls Try.prog 13 #[.pointer (some ⟨w5.heap.size + 1, 0, none⟩), .int .i64 q.1, .int .i64 q.2] W fun e w' => e = .returned (.bool (memB q L2)) ∧ w1.heap.size ≤ w'.heap.size ∧ Hid (St w1 w1.heap.size gp (some ⟨g, 0, none⟩) ps qs w5.heap.size (w5.heap.size + 1) (q :: L1) (q :: L2) (k + k + j + j + 1 + 1) w')) :=
                    add2 hst6 hsz6 HF.out HD.out (by omega)
                  rw [HM.out] at HADD
                  clear hS hst6 hsz6
                  go_wp2
                  go_region_held3 (fun w' => w'.cell? ⟨g, j * 2, none⟩ = some (.int .i64 q.1) ∧ w'.cell? ⟨g, j * 2 + 1, none⟩ = some (.int .i64 q.2)) (first | exact hS | go_keep)
                    (first | (go_at_call 13; refine (HADD.out _ ?_).mono ?_; exact ⟨rfl, rfl, rfl, rfl⟩; rintro e w7 ⟨rfl, hsz7, hst7⟩; have hS := cellsQ' hst7 HK.out))
                  clear HADD hS
                  go_wp2
                  go_roundw
                  case rel => exact ⟨j + 1, by omega, by go_num, hsz7, by rw [HL1.out, HL2.out, show k + k + (j + 1) + (j + 1) = k + k + j + j + 1 + 1 by omega]; exact hst7⟩
                  case measure => simp [intOf]; omega
                · go_wp2
                  go_ret
                  obtain ⟨F1, F2, _, _, _, _, _, _, hBel⟩ := HS3.out
                  exact ⟨rfl, hBel⟩
    · go_wp2
      go_ret
      exact ⟨rfl, hb2.trans (hb3.mono hb2.size)⟩
  · go_wp2
    go_ret
    exact ⟨rfl, hb2⟩

set_option maxHeartbeats 400000 in
theorem law_long (a0 a1 : Option Addr) (n0 cap0 n1 cap1 : Nat) (w : World) (h0 : n0 ≤ maxLen) (h1 : n1 ≤ maxLen) (h2 : 1048576 < n0 + n1) :
    Calls Try.prog 4 #[.slice a0 n0 cap0, .slice a1 n1 cap1] w fun e w' => e = .returned (.bool true) ∧ Below w.heap.size w w' := by
  go_enter Try.func4, Try.ntmps4
  go_wp2_with fail
  refine (bytes_no _ _ _ _ _ _ _ h0 h1 h2).mono ?_
  rintro e w1 ⟨rfl, rfl⟩
  go_wp2
  go_ret
  exact ⟨rfl, Below.refl _ _⟩
set_option maxHeartbeats 400000 in
theorem law_many (a0 a1 : Option Addr) (n0 cap0 n1 cap1 : Nat) (w : World) (h2 : n0 + n1 ≤ 1048576) (h3 : 65536 < n0) :
    Calls Try.prog 4 #[.slice a0 n0 cap0, .slice a1 n1 cap1] w fun e w' => e = .returned (.bool true) ∧ Below w.heap.size w w' := by
  go_enter Try.func4, Try.ntmps4
  go_wp2_with fail
  refine (bytes_ok _ _ _ _ _ _ _ (by omega) h2).mono ?_
  rintro e w1 ⟨rfl, rfl⟩
  go_wp2
  go_ret
  exact ⟨rfl, Below.refl _ _⟩
set_option maxHeartbeats 400000 in
theorem law_much (a0 a1 : Option Addr) (n0 cap0 n1 cap1 : Nat) (w : World) (h2 : n0 + n1 ≤ 1048576) (h3 : n0 ≤ 65536) (h4 : 65536 < n0 + n1) :
    Calls Try.prog 4 #[.slice a0 n0 cap0, .slice a1 n1 cap1] w fun e w' => e = .returned (.bool true) ∧ Below w.heap.size w w' := by
  go_enter Try.func4, Try.ntmps4
  go_wp2_with fail
  refine (bytes_ok _ _ _ _ _ _ _ (by omega) h2).mono ?_
  rintro e w1 ⟨rfl, rfl⟩
  go_wp2
  go_ret
  exact ⟨rfl, Below.refl _ _⟩

theorem law (a0 a1 : Option Addr) (n0 cap0 n1 cap1 : Nat) (ps qs : List (Int × Int)) (w : World) (hp : IsPairs w a0 n0 cap0 ps) (hq : IsPairs w a1 n1 cap1 qs) :
    Calls Try.prog 4 #[.slice a0 n0 cap0, .slice a1 n1 cap1] w fun e w' => e = .returned (.bool true) ∧ Below w.heap.size w w' := by
  by_cases h1 : n0 + n1 ≤ 1048576
  · by_cases h2 : n0 ≤ 65536
    · by_cases h3 : n0 + n1 ≤ 65536
      · have e0 := hp.length
        have e1 := hq.length
        subst e0 e1
        exact law_core a0 a1 cap0 cap1 ps qs w h2 (by omega) hp hq
      · exact law_much a0 a1 n0 cap0 n1 cap1 w h1 h2 (by omega)
    · exact law_many a0 a1 n0 cap0 n1 cap1 w h1 (by omega)
  · exact law_long a0 a1 n0 cap0 n1 cap1 w (Nat.le_trans hp.le hp.max) (Nat.le_trans hq.le hq.max) (by omega)

end Go.Proofs.Qxb6601407a
