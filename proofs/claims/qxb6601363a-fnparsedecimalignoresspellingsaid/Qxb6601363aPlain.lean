/-
  The plain part of the proof of 'FnParseDecimalIgnoresSpelling': lists of bytes and integers alone, no Go.
-/
namespace Go.Proofs.Qxb6601363a.Plain

def nz (c : UInt8) : Bool := decide (49 ≤ c.toNat) && decide (c.toNat ≤ 57)
def dg (c : UInt8) : Bool := decide (c.toNat = 48) || nz c
def pt (c : UInt8) : Bool := decide (c.toNat = 46)
def zp (c : UInt8) : Bool := decide (c.toNat = 48) || pt c

/-- digits and at most one point -/
def good (l : List UInt8) : Bool := l.all (fun c => dg c || pt c) && decide (l.countP pt ≤ 1)
def okB (l : List UInt8) : Bool := l.any dg
def hasNz (l : List UInt8) : Bool := l.any nz
def hasPt (l : List UInt8) : Bool := l.any pt
def frI (l : List UInt8) : Int := if hasNz l = true then (l.findIdx nz : Int) else -1
def ptI (l : List UInt8) : Int := if hasPt l = true then (l.findIdx pt : Int) else -1
def ptE (l : List UInt8) : Int := (l.findIdx pt : Int)
def acc (l : List UInt8) : Bool := good l && okB l
def trim (l : List UInt8) : List UInt8 := ((l.dropWhile zp).reverse.dropWhile zp).reverse
def scaleOf (l : List UInt8) : Int := if hasNz l = true then ptE l - frI l else 0

theorem nz_zp {c : UInt8} (h : nz c = true) : zp c = false := by
  simp [nz, zp, pt] at *; omega
theorem nz_pt {c : UInt8} (h : nz c = true) : pt c = false := by
  simp [nz, pt] at *; omega
theorem nz_dg {c : UInt8} (h : nz c = true) : dg c = true := by
  simp [dg, h]

theorem good_snoc (l : List UInt8) (c : UInt8) : good (l ++ [c]) = (good l && (dg c || (pt c && !hasPt l))) := by
  have hp : hasPt l = decide (0 < l.countP pt) := by
    rw [Bool.eq_iff_iff]; simp [hasPt, List.countP_pos_iff]
  rw [hp]
  unfold good
  rw [List.all_append, List.countP_append]
  cases hc : pt c
  · simp [hc]
    cases dg c <;> simp
  · have hd : dg c = false := by simp [dg, nz, pt] at *; omega
    have e1 : List.countP pt [c] = 1 := by simp [hc]
    rw [e1]
    cases h : (l.all fun c => dg c || pt c)
    · simp
    · rw [Bool.eq_iff_iff]
      simp only [List.all_cons, List.all_nil, hc, hd, Bool.and_true, Bool.or_true, Bool.true_and, Bool.false_or, Bool.and_eq_true, decide_eq_true_eq, Bool.not_eq_true', decide_eq_false_iff_not]
      omega

theorem good_take {l : List UInt8} (h : good l = true) (k : Nat) : good (l.take k) = true := by
  unfold good at *
  simp only [Bool.and_eq_true, List.all_eq_true, decide_eq_true_eq] at *
  refine ⟨fun c hc => h.1 c (List.mem_of_mem_take hc), ?_⟩
  have h2 : l.countP pt = (l.take k).countP pt + (l.drop k).countP pt := by
    rw [← List.countP_append, List.take_append_drop]
  omega

theorem bad_of_take {l : List UInt8} (k : Nat) (h : good (l.take k) = false) : good l = false := by
  cases hg : good l
  · rfl
  · rw [good_take hg k] at h; exact h

theorem good_nil : good [] = true := by simp [good]
theorem frI_nil : frI [] = -1 := by simp [frI, hasNz]
theorem ptI_nil : ptI [] = -1 := by simp [ptI, hasPt]
theorem okB_nil : okB [] = false := by simp [okB]

theorem frI_lo (l : List UInt8) : -1 ≤ frI l ∧ frI l ≤ l.length := by
  unfold frI; have := List.findIdx_le_length (xs := l) (p := nz); split <;> omega
theorem ptI_lo (l : List UInt8) : -1 ≤ ptI l ∧ ptI l ≤ l.length := by
  unfold ptI; have := List.findIdx_le_length (xs := l) (p := pt); split <;> omega
theorem ptE_lo (l : List UInt8) : 0 ≤ ptE l ∧ ptE l ≤ l.length := by
  unfold ptE; have := List.findIdx_le_length (xs := l) (p := pt); omega

theorem frI_neg {l : List UInt8} : frI l < 0 ↔ hasNz l = false := by
  unfold frI; cases h : hasNz l <;> simp
theorem ptI_neg {l : List UInt8} : ptI l < 0 ↔ hasPt l = false := by
  unfold ptI; cases h : hasPt l <;> simp

theorem findIdx_any {p : UInt8 → Bool} {l : List UInt8} (h : l.any p = true) (m : List UInt8) : (l ++ m).findIdx p = l.findIdx p := by
  rw [List.findIdx_append, if_pos]
  rw [List.findIdx_lt_length]; simpa using h
theorem findIdx_none {p : UInt8 → Bool} {l : List UInt8} (h : l.any p = false) : l.findIdx p = l.length := by
  rw [List.findIdx_eq_length]; simpa using h
theorem findIdx_skip {p : UInt8 → Bool} {l : List UInt8} (h : l.any p = false) (m : List UInt8) : (l ++ m).findIdx p = l.length + m.findIdx p := by
  rw [List.findIdx_append, if_neg]
  · omega
  · rw [findIdx_none h]; omega

theorem frI_snoc_old {l : List UInt8} (c : UInt8) (h : ¬ frI l < 0) : frI (l ++ [c]) = frI l := by
  rw [frI_neg] at h
  have h' : hasNz l = true := by simpa using h
  have h2 : hasNz (l ++ [c]) = true := by unfold hasNz at *; simp at *; exact Or.inl h'
  unfold frI
  rw [if_pos h', if_pos h2, findIdx_any h']
theorem frI_snoc_new {l : List UInt8} {c : UInt8} (h : frI l < 0) (hc : nz c = true) : frI (l ++ [c]) = l.length := by
  rw [frI_neg] at h
  have h2 : hasNz (l ++ [c]) = true := by unfold hasNz; simp [hc]
  unfold frI
  rw [if_pos h2, findIdx_skip h]
  simp [List.findIdx_cons, hc]
theorem frI_snoc_none (l : List UInt8) {c : UInt8} (hc : nz c = false) : frI (l ++ [c]) = frI l := by
  cases h' : hasNz l
  · have h2 : hasNz (l ++ [c]) = false := by unfold hasNz at *; rw [List.any_append, h']; simp [hc]
    simp [frI, h', h2]
  · exact frI_snoc_old c (by rw [frI_neg]; simp [h'])
theorem ptI_snoc_none (l : List UInt8) {c : UInt8} (hc : pt c = false) : ptI (l ++ [c]) = ptI l := by
  cases h' : hasPt l
  · have h2 : hasPt (l ++ [c]) = false := by unfold hasPt at *; rw [List.any_append, h']; simp [hc]
    simp [ptI, h', h2]
  · have h2 : hasPt (l ++ [c]) = true := by unfold hasPt at *; rw [List.any_append, h']; simp
    unfold ptI
    rw [if_pos h', if_pos h2, findIdx_any h']
theorem ptI_snoc_new {l : List UInt8} {c : UInt8} (h : ptI l < 0) (hc : pt c = true) : ptI (l ++ [c]) = l.length := by
  rw [ptI_neg] at h
  have h2 : hasPt (l ++ [c]) = true := by unfold hasPt; simp [hc]
  unfold ptI
  rw [if_pos h2, findIdx_skip h]
  simp [List.findIdx_cons, hc]
theorem okB_snoc (l : List UInt8) (c : UInt8) : okB (l ++ [c]) = (okB l || dg c) := by
  simp [okB]

theorem ptE_neg {l : List UInt8} (h : ptI l < 0) : ptE l = l.length := by
  rw [ptI_neg] at h; unfold ptE; rw [findIdx_none h]
theorem ptE_pos {l : List UInt8} (h : ¬ ptI l < 0) : ptE l = ptI l := by
  rw [ptI_neg] at h; unfold ptE ptI; rw [if_pos (by simpa using h)]

/-! ### the trimming -/
theorem dropWhile_all {p : UInt8 → Bool} : ∀ {l : List UInt8} (_ : l.all p = true) (m : List UInt8), (l ++ m).dropWhile p = m.dropWhile p
  | [], _, m => rfl
  | c :: l, h, m => by
    simp only [List.all_cons, Bool.and_eq_true] at h
    rw [List.cons_append, List.dropWhile_cons, if_pos h.1]
    exact dropWhile_all h.2 m
theorem dropWhile_some {p : UInt8 → Bool} : ∀ {l : List UInt8} (_ : l.all p = false) (m : List UInt8), (l ++ m).dropWhile p = l.dropWhile p ++ m
  | [], h, m => by simp at h
  | c :: l, h, m => by
    rw [List.cons_append, List.dropWhile_cons, List.dropWhile_cons]
    cases hc : p c
    · simp
    · simp only [if_true]
      exact dropWhile_some (by simpa [hc] using h) m

theorem all_dropWhile {p : UInt8 → Bool} {l : List UInt8} (h : l.all p = false) : (l.dropWhile p).all p = false := by
  have e : l = l.takeWhile p ++ l.dropWhile p := List.takeWhile_append_dropWhile.symm
  have ht : (l.takeWhile p).all p = true := by simp
  rw [e, List.all_append, ht] at h
  simpa using h

theorem trim_front {a : List UInt8} (h : a.all zp = true) (l : List UInt8) : trim (a ++ l) = trim l := by
  unfold trim; rw [dropWhile_all h]
theorem trim_back {c : List UInt8} (h : c.all zp = true) (l : List UInt8) : trim (l ++ c) = trim l := by
  unfold trim
  cases hl : l.all zp
  · rw [dropWhile_some hl, List.reverse_append, dropWhile_all (by simpa using h)]
  · rw [dropWhile_all hl]
    have e1 : l.dropWhile zp = [] := by
      have := dropWhile_all hl []
      simpa using this
    have e2 : c.dropWhile zp = [] := by
      have := dropWhile_all h []
      simpa using this
    rw [e1, e2]
theorem trim_mid {b : List UInt8} (hb : b ≠ []) (h1 : zp (b.head hb) = false) (h2 : zp (b.getLast hb) = false) : trim b = b := by
  unfold trim
  have e1 : b.dropWhile zp = b := by
    cases b with
    | nil => exact absurd rfl hb
    | cons x xs => rw [List.dropWhile_cons, if_neg]; simpa using h1
  rw [e1]
  have e2 : b.reverse.dropWhile zp = b.reverse := by
    have hr : b.reverse ≠ [] := by simpa using hb
    have h3 : b.reverse.head hr = b.getLast hb := by simp
    rw [← h3] at h2
    generalize b.reverse = r at *
    cases r with
    | nil => exact absurd rfl hr
    | cons x xs => rw [List.dropWhile_cons, if_neg]; simpa using h2
  rw [e2, List.reverse_reverse]

/-- what the slice between the first and the last digit other than 0 is -/
theorem trim_cut {l : List UInt8} {f j : Nat} (hf : f ≤ j) (hj : j < l.length)
    (ha : ∀ i (h : i < l.length), i < f → zp l[i] = true) (hc : ∀ i (h : i < l.length), j < i → zp l[i] = true)
    (h1 : zp (l[f]'(by omega)) = false) (h2 : zp l[j] = false) : trim l = (l.drop f).take (j + 1 - f) := by
  have e : l = l.take f ++ ((l.drop f).take (j + 1 - f) ++ (l.drop f).drop (j + 1 - f)) := by
    rw [List.take_append_drop, List.take_append_drop]
  have hA : (l.take f).all zp = true := by
    rw [List.all_eq_true]
    intro c hm
    obtain ⟨i, hi, rfl⟩ := List.mem_iff_getElem.1 hm
    rw [List.getElem_take]
    simp at hi
    exact ha i (by omega) (by omega)
  have hC : ((l.drop f).drop (j + 1 - f)).all zp = true := by
    rw [List.all_eq_true]
    intro c hm
    obtain ⟨i, hi, rfl⟩ := List.mem_iff_getElem.1 hm
    simp at hi
    simp only [List.getElem_drop]
    exact hc _ (by omega) (by omega)
  have hlen : ((l.drop f).take (j + 1 - f)).length = j + 1 - f := by simp; omega
  have hB : (l.drop f).take (j + 1 - f) ≠ [] := by
    intro h; rw [h] at hlen; simp at hlen; omega
  conv => lhs; rw [e]
  rw [trim_front hA, trim_back hC]
  apply trim_mid hB
  · rw [List.head_eq_getElem]; simpa using h1
  · rw [List.getLast_eq_getElem]
    simp only [hlen, List.getElem_take, List.getElem_drop]
    have : f + (j + 1 - f - 1) = j := by omega
    simp only [this]
    exact h2

/-! ### the law -/
def spelt (lead trail : Nat) (u : List UInt8) : List UInt8 :=
  List.replicate lead 48 ++ u ++ (if hasPt u = true then [] else [46]) ++ List.replicate trail 48

theorem zeros_any {p : UInt8 → Bool} (h : p 48 = false) (n : Nat) : (List.replicate n (48 : UInt8)).any p = false := by
  simp [h]
theorem zeros_all {p : UInt8 → Bool} (h : p 48 = true) (n : Nat) : (List.replicate n (48 : UInt8)).all p = true := by
  simp [h]
theorem nz48 : nz 48 = false := by decide
theorem pt48 : pt 48 = false := by decide
theorem dg48 : dg 48 = true := by decide
theorem zp48 : zp 48 = true := by decide
theorem nz46 : nz 46 = false := by decide
theorem pt46 : pt 46 = true := by decide
theorem dg46 : dg 46 = false := by decide
theorem zp46 : zp 46 = true := by decide

theorem hasPt_countP (l : List UInt8) : hasPt l = decide (0 < l.countP pt) := by
  rw [Bool.eq_iff_iff]; simp [hasPt, List.countP_pos_iff]

theorem spelt_good (lead trail : Nat) {u : List UInt8} (h : good u = true) : good (spelt lead trail u) = true := by
  unfold good at *
  simp only [Bool.and_eq_true, decide_eq_true_eq] at *
  have z : ∀ n, (List.replicate n (48 : UInt8)).countP pt = 0 := fun n => by
    rw [List.countP_eq_zero]; intro a ha; rw [(List.mem_replicate.1 ha).2]; decide
  have hp := hasPt_countP u
  unfold spelt
  constructor
  · rw [List.all_append, List.all_append, List.all_append, h.1]
    rw [zeros_all (by decide), zeros_all (by decide)]
    split <;> decide
  · rw [List.countP_append, List.countP_append, List.countP_append, z, z]
    split
    · simpa using h.2
    · rename_i hh
      rw [hp] at hh
      simp only [decide_eq_true_eq] at hh
      have : List.countP pt [46] = 1 := by decide
      omega
theorem spelt_ok (lead trail : Nat) {u : List UInt8} (h : okB u = true) : okB (spelt lead trail u) = true := by
  unfold okB spelt at *
  rw [List.any_append, List.any_append, List.any_append, h]; simp
theorem spelt_nz (lead trail : Nat) (u : List UInt8) : hasNz (spelt lead trail u) = hasNz u := by
  unfold hasNz spelt
  rw [List.any_append, List.any_append, List.any_append, zeros_any nz48, zeros_any nz48]
  split <;> simp [nz46]
theorem spelt_trim (lead trail : Nat) (u : List UInt8) : trim (spelt lead trail u) = trim u := by
  unfold spelt
  rw [trim_back (zeros_all zp48 _), trim_back (by split <;> decide), trim_front (zeros_all zp48 _)]
theorem spelt_scale (lead trail : Nat) (u : List UInt8) : scaleOf (spelt lead trail u) = scaleOf u := by
  unfold scaleOf
  rw [spelt_nz]
  cases hn : hasNz u
  · simp
  · simp only [if_true]
    unfold frI
    rw [spelt_nz, hn]
    simp only [if_true]
    have ef : (spelt lead trail u).findIdx nz = lead + u.findIdx nz := by
      unfold spelt
      rw [List.append_assoc, List.append_assoc, findIdx_skip (zeros_any nz48 _), findIdx_any hn]
      simp
    have ep : (spelt lead trail u).findIdx pt = lead + u.findIdx pt := by
      unfold spelt
      rw [List.append_assoc, List.append_assoc, findIdx_skip (zeros_any pt48 _)]
      cases hp : hasPt u
      · rw [findIdx_skip hp, findIdx_none hp]
        simp [List.findIdx_cons, pt46]
      · rw [findIdx_any hp]; simp
    unfold ptE
    rw [ef, ep]
    omega
theorem spelt_acc (lead trail : Nat) {u : List UInt8} (h : acc u = true) : acc (spelt lead trail u) = true := by
  unfold acc at *
  simp only [Bool.and_eq_true] at *
  exact ⟨spelt_good lead trail h.1, spelt_ok lead trail h.2⟩

end Go.Proofs.Qxb6601363a.Plain
