/-
  The walks of 'cutSign', 'parseDecimal', 'ZZparseDecimal'.
-/
import Derived.Test.Qxb6601363aWalkA
import Derived.Deep.QuietTactic
import Derived.BigQuiet
import Derived.Lib.Strings
namespace Go.Proofs.Qxb6601363a
open Go.RowKit Plain
set_option linter.unusedVariables false

theorem not_empty {s : ByteArray} (h0 : 0 < s.size) : s.toList.isEmpty = false := by
  have : s.toList.length = s.size := by rw [ByteArray.toList_eq]; simp
  cases h : s.toList with
  | nil => rw [h] at this; simp at this; omega
  | cons a b => rfl

set_option maxHeartbeats 400000 in
theorem cut_minus (s : ByteArray) (w : World) (hs : s.size ≤ 1049089) (h0 : 0 < s.size) (h1 : ((s[0].toNat : Int) == 43) = false) (h2 : ((s[0].toNat : Int) == 45) = true) :
    Calls Try.prog 35 #[.string s] w fun e w' => (∃ nq, w' = w.drewN nq) ∧ e = .returned (.tuple #[.bool true, .string (s.extract 1 s.size)]) := by
  have hne := not_empty h0
  go_enter Try.func35, Try.ntmps35
  go_wp2
  go_quiet (fail)
  go_wp2
  go_ret2
  exact ⟨⟨_, rfl⟩, by simp⟩

set_option maxHeartbeats 400000 in
theorem cut_plus (s : ByteArray) (w : World) (hs : s.size ≤ 1049089) (h0 : 0 < s.size) (h1 : ((s[0].toNat : Int) == 43) = true) (h2 : ((s[0].toNat : Int) == 45) = false) :
    Calls Try.prog 35 #[.string s] w fun e w' => (∃ nq, w' = w.drewN nq) ∧ e = .returned (.tuple #[.bool false, .string (s.extract 1 s.size)]) := by
  have hne := not_empty h0
  go_enter Try.func35, Try.ntmps35
  go_wp2
  go_quiet (fail)
  go_wp2
  go_ret2
  exact ⟨⟨_, rfl⟩, by simp⟩

set_option maxHeartbeats 400000 in
theorem cut_none (s : ByteArray) (w : World) (hs : s.size ≤ 1049089) (h0 : 0 < s.size) (h1 : ((s[0].toNat : Int) == 43) = false) (h2 : ((s[0].toNat : Int) == 45) = false) :
    Calls Try.prog 35 #[.string s] w fun e w' => (∃ nq, w' = w.drewN nq) ∧ e = .returned (.tuple #[.bool false, .string s]) := by
  have hne := not_empty h0
  go_enter Try.func35, Try.ntmps35
  go_wp2
  go_ret2
  exact ⟨⟨0, rfl⟩, rfl⟩

set_option maxHeartbeats 400000 in
theorem cut_empty (w : World) :
    Calls Try.prog 35 #[.string ByteArray.empty] w fun e w' => (∃ nq, w' = w.drewN nq) ∧ e = .returned (.tuple #[.bool false, .string ByteArray.empty]) := by
  have hne : ByteArray.empty.toList.isEmpty = true := by rw [ByteArray.toList_eq]; rfl
  go_enter Try.func35, Try.ntmps35
  go_wp2
  go_ret2
  exact ⟨⟨0, rfl⟩, rfl⟩

/-- what 'parseDecimal' answers for a text whose sign has been cut -/
def negOut (m : Bool) (l : List UInt8) : Bool := m && hasNz l
def digOut (l : List UInt8) : ByteArray := ⟨(trim l).toArray⟩

/-- 'cutSign' of s gives m and t -/
def Cuts (s : ByteArray) (m : Bool) (t : ByteArray) : Prop :=
  ∀ w : World, Calls Try.prog 35 #[.string s] w fun e w' => (∃ nq, w' = w.drewN nq) ∧ e = .returned (.tuple #[.bool m, .string t])

theorem trim_all {l : List UInt8} (h : l.all zp = true) : trim l = [] := by
  have := trim_back h []
  simpa [trim] using this
theorem zp_of {c : UInt8} (h : (dg c || pt c) = true) (hn : nz c = false) : zp c = true := by
  simp [dg, hn] at h
  simp [zp]
  exact h
theorem zp_iff (c : UInt8) : zp c = (((c.toNat : Int) == 48) || ((c.toNat : Int) == 46)) := by
  rw [Bool.eq_iff_iff]; simp [zp, pt]; omega
theorem good_at {l : List UInt8} (h : good l = true) {c : UInt8} (hc : c ∈ l) : (dg c || pt c) = true := by
  unfold good at h
  simp only [Bool.and_eq_true, List.all_eq_true] at h
  exact h.1 c hc
/-- no digit but 0: zero -/
theorem zero_out (m : Bool) {l : List UInt8} (hg : good l = true) (hn : hasNz l = false) : negOut m l = false ∧ digOut l = ⟨#[]⟩ ∧ scaleOf l = 0 := by
  refine ⟨by simp [negOut, hn], ?_, by simp [scaleOf, hn]⟩
  unfold digOut
  rw [trim_all]
  rw [List.all_eq_true]
  intro c hc
  refine zp_of (good_at hg hc) ?_
  unfold hasNz at hn
  rw [List.any_eq_false] at hn
  simpa using hn c hc
/-- the first digit other than 0 -/
theorem first_at {l : List UInt8} (hg : good l = true) (hf : 0 ≤ frI l) :
    ∃ f : Nat, ∃ h : f < l.length, frI l = (f : Int) ∧ hasNz l = true ∧ zp l[f] = false ∧ ∀ i (h : i < l.length), i < f → zp l[i] = true := by
  have hn : hasNz l = true := by
    cases h : hasNz l
    · have := frI_neg.2 h; omega
    · rfl
  have hlt : l.findIdx nz < l.length := by rw [List.findIdx_lt_length]; simpa [hasNz] using hn
  refine ⟨l.findIdx nz, hlt, by simp [frI, hn], hn, nz_zp (List.findIdx_getElem (w := hlt)), fun i h hi => ?_⟩
  refine zp_of (good_at hg (List.getElem_mem h)) ?_
  have := List.not_of_lt_findIdx hi
  simpa using this
theorem cut_out {t : ByteArray} {f j : Nat} (hf : f ≤ j) (hj : j < t.size)
    (ha : ∀ i (h : i < t.data.toList.length), i < f → zp t.data.toList[i] = true) (hc : ∀ i (h : i < t.data.toList.length), j < i → zp t.data.toList[i] = true)
    (h1 : zp (t.data.toList[f]'(by simp; omega)) = false) (h2 : zp (t.data.toList[j]'(by simpa using hj)) = false) : t.extract f (j + 1) = digOut t.data.toList := by
  unfold digOut
  rw [trim_cut hf (by simpa using hj) ha hc h1 h2]
  apply ByteArray.ext
  apply Array.toList_inj.1
  rw [Lib.extract_data]

def TailZp (l : List UInt8) (j : Nat) : Prop := ∀ i (h : i < l.length), j < i → zp l[i] = true
theorem tail_step {t : ByteArray} {j : Nat} (hj : j < t.size) (h : TailZp t.data.toList j) (hz : zp t[j] = true) : TailZp t.data.toList (j - 1) := by
  intro i hi hlt
  rcases Nat.lt_or_ge j i with h1 | h1
  · exact h i hi h1
  · have e : i = j := by omega
    subst e
    exact hz
theorem grown_trans {a b c : World} (h : Grown a b) (k : Grown b c) : Grown a c :=
  ⟨World.keptBut_trans h.1 k.1, fun x => (k.2.1 x).trans (h.2.1 x), Nat.le_trans h.2.2 k.2.2⟩
theorem grown_drewN {a b : World} (h : Grown a b) (n : Nat) : Grown a (b.drewN n) := h
theorem grown_box (w : World) (c : Array Value) (t : TypeId) (n : Nat) (x y z : Value) :
    Grown w (((((w.alloc (.cells c t)).drewN n).setCell ⟨w.heap.size, 0, none⟩ x).setCell ⟨w.heap.size, 1, none⟩ y).setCell ⟨w.heap.size, 2, none⟩ z) :=
  (((grown_drewN ((Grown.refl w).alloc c t) n).setCell (Nat.le_refl _) x).setCell (Nat.le_refl _) y).setCell (Nat.le_refl _) z

set_option maxHeartbeats 1000000 in
theorem parse_any (s t : ByteArray) (m : Bool) (w : World) (hs : t.size ≤ 1049088) (hcut : Hid (Cuts s m t)) :
    Calls Try.prog 30 #[.string s] w fun e w' => Grown w w' ∧
      ((acc t.data.toList = false ∧ e = .returned (.tuple #[.agg #[.bool false, .string ⟨#[]⟩, .int .i64 0], .bool false])) ∨
       (acc t.data.toList = true ∧ e = .returned (.tuple #[.agg #[.bool (negOut m t.data.toList), .string (digOut t.data.toList), .int .i64 (scaleOf t.data.toList)], .bool true]))) := by
  go_enter Try.func30, Try.ntmps30
  go_wp2_with (first
    | (go_at_call 35; refine (hcut.out _).mono ?_; rintro e w' ⟨⟨nq, rfl⟩, rfl⟩)
    | (go_at_call 25; refine (scan_any _ _ hs).mono ?_; rintro e w' ⟨rfl, p, f, n, ok, rfl, hcase⟩))
  · have hn : n < (t.size : Int) := by assumption
    refine bodyPost_ret (v := .tuple #[.agg #[.bool false, .string ⟨#[]⟩, .int .i64 0], .bool false]) (by simp [results, Try.results30, go_sem]) rfl ⟨?_, Or.inl ⟨?_, rfl⟩⟩
    · exact grown_box _ _ _ _ _ _ _
    · rcases hcase with ⟨_, _, _, h, _⟩ | ⟨h, _⟩
      · omega
      · simp [acc, h]
  · have hn : (t.size : Int) ≤ n := by assumption
    have hf : f < 0 := by assumption
    have hk : ok = true := by assumption
    refine bodyPost_ret (v := .tuple #[.agg #[.bool false, .string ⟨#[]⟩, .int .i64 0], .bool true]) (by simp [results, Try.results30, go_sem]) rfl ⟨?_, Or.inr ?_⟩
    · exact grown_box _ _ _ _ _ _ _
    · rcases hcase with ⟨h1, h2, h3, h4, h5⟩ | ⟨h, h'⟩
      · have hz := zero_out m h1 (frI_neg.1 (by omega))
        rw [hz.1, hz.2.1, hz.2.2]
        refine ⟨?_, rfl⟩
        unfold acc; rw [h1, ← h5, hk]; rfl
      · rcases h' with h' | h'
        · rw [hk] at h'; cases h'
        · omega
  · have hn : (t.size : Int) ≤ n := by assumption
    have hf : 0 ≤ f := by assumption
    have hk : ok = true := by assumption
    obtain ⟨h1, h2, h3, h4, h5⟩ : good t.data.toList = true ∧ p = ptE t.data.toList ∧ f = frI t.data.toList ∧ n = t.size ∧ ok = okB t.data.toList := by
      rcases hcase with h | ⟨h, h'⟩
      · exact h
      · rcases h' with h' | h'
        · rw [hk] at h'; cases h'
        · omega
    obtain ⟨fn, hfn, e1, hnz, hz1, hz2⟩ := first_at h1 (by omega)
    have hpb := ptE_lo t.data.toList
    have hacc : acc t.data.toList = true := by unfold acc; rw [h1, ← h5, hk]; rfl
    have hsc : scaleOf t.data.toList = p - (fn : Int) := by unfold scaleOf; rw [if_pos hnz, h2, e1]
    have hng : negOut m t.data.toList = m := by unfold negOut; rw [hnz]; simp
    obtain rfl : f = (fn : Int) := by omega
    obtain rfl : n = (t.size : Int) := h4
    have hfn' : fn < t.size := by simpa using hfn
    have hpl : 0 ≤ p ∧ p ≤ t.size := by rw [h2]; simpa using hpb
    have HX : Hid (acc t.data.toList = true ∧ scaleOf t.data.toList = p - (fn : Int) ∧ negOut m t.data.toList = m ∧ zp t.data.toList[fn] = false ∧ ∀ i (h : i < t.data.toList.length), i < fn → zp t.data.toList[i] = true) := ⟨hacc, hsc, hng, hz1, hz2⟩
    clear hacc hsc hng hz1 hz2 hnz hpb h1 h2 h3 h5 e1 hcase hn hf hcut
    go_loop [9] (fun x => ∃ j : Nat, fn ≤ j ∧ j < t.size ∧ x = .int .i64 j ∧ TailZp t.data.toList j) (fun x => (intOf x).toNat)
    case atStart => exact ⟨t.size - 1, by omega, by omega, by rw [show wrap64 ((t.size : Int) - 1) = ((t.size - 1 : Nat) : Int) from by unfold wrap64; omega], fun i h hi => by simp at h; omega⟩
    case round =>
      obtain ⟨j, hj1, hj2, rfl, hj3⟩ := hrel
      have HJ : Hid (TailZp t.data.toList j) := hj3
      clear hj3
      cases hz : zp t[j]
      · have hA : ((t[j].toNat : Int) == 48) = false := by rw [zp_iff] at hz; simp at hz; simp; omega
        have hB : ((t[j].toNat : Int) == 46) = false := by rw [zp_iff] at hz; simp at hz; simp; omega
        have HZ : Hid (zp t[j] = false) := hz
        clear hz
        go_wp2
        obtain ⟨x1, x2, x3, x4, x5⟩ := HX.out
        refine bodyPost_ret (v := .tuple #[.agg #[.bool m, .string (t.extract fn (j + 1)), .int .i64 (p - (fn : Int))], .bool true]) (by simp [results, Try.results30, go_sem]) rfl ⟨?_, Or.inr ⟨x1, ?_⟩⟩
        · exact grown_box _ _ _ _ _ _ _
        · rw [x2, x3, ← cut_out hj1 hj2 x5 HJ.out x4 HZ.out]
      · have hne : fn ≠ j := by
          rintro rfl
          have := HX.out.2.2.2.1
          have e : t.data.toList[fn] = t[fn] := rfl
          rw [e, hz] at this
          cases this
        have HZ : Hid (zp t[j] = true) := hz
        cases hA : ((t[j].toNat : Int) == 48)
        · have hB : ((t[j].toNat : Int) == 46) = true := by rw [zp_iff, hA] at hz; simpa using hz
          clear hz
          go_wp2
          go_round
          case rel => exact ⟨j - 1, by omega, by omega, by go_num, tail_step hj2 HJ.out HZ.out⟩
          case measure => simp [intOf]; omega
        · clear hz
          go_wp2
          go_round
          case rel => exact ⟨j - 1, by omega, by omega, by go_num, tail_step hj2 HJ.out HZ.out⟩
          case measure => simp [intOf]; omega
  · have hk : ¬ ok = true := by assumption
    refine bodyPost_ret (v := .tuple #[.agg #[.bool false, .string ⟨#[]⟩, .int .i64 0], .bool false]) (by simp [results, Try.results30, go_sem]) rfl ⟨?_, Or.inl ⟨?_, rfl⟩⟩
    · exact grown_box _ _ _ _ _ _ _
    · rcases hcase with ⟨h1, h2, h3, h4, h5⟩ | ⟨h, _⟩
      · have : ok = false := by simpa using hk
        rw [this] at h5
        simp [acc, ← h5]
      · simp [acc, h]

/-- 'ZZparseDecimal': the fields laid out -/
theorem zz_any (s t : ByteArray) (m : Bool) (w : World) (hs : t.size ≤ 1049088) (hcut : Hid (Cuts s m t)) :
    Calls Try.prog 15 #[.string s] w fun e w' => Grown w w' ∧
      ((acc t.data.toList = false ∧ e = .returned (.tuple #[.bool false, .string ⟨#[]⟩, .int .i64 0, .bool false])) ∨
       (acc t.data.toList = true ∧ e = .returned (.tuple #[.bool (negOut m t.data.toList), .string (digOut t.data.toList), .int .i64 (scaleOf t.data.toList), .bool true]))) := by
  go_enter Try.func15, Try.ntmps15
  go_wp2_with fail
  refine (parse_any s t m w hs hcut).mono ?_
  rintro e w1 ⟨hg, ⟨ha, rfl⟩ | ⟨ha, rfl⟩⟩
  · go_wp2
    go_quiet (fail)
    go_wp2
    refine bodyPost_ret (v := .tuple #[.bool false, .string ⟨#[]⟩, .int .i64 0, .bool false]) (by simp [results, Try.results15, go_sem]) rfl ⟨?_, Or.inl ⟨ha, rfl⟩⟩
    exact grown_drewN (hg.alloc _ _) _
  · go_wp2
    go_quiet (fail)
    go_wp2
    refine bodyPost_ret (v := .tuple #[.bool (negOut m t.data.toList), .string (digOut t.data.toList), .int .i64 (scaleOf t.data.toList), .bool true]) (by simp [results, Try.results15, go_sem]) rfl ⟨?_, Or.inr ⟨ha, rfl⟩⟩
    exact grown_drewN (hg.alloc _ _) _

end Go.Proofs.Qxb6601363a
