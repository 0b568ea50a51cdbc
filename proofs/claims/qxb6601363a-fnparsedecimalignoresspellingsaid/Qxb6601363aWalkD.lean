/-
  The law's walk: 'FnParseDecimalIgnoresSpelling' returns true.
-/
import Derived.Test.Qxb6601363aWalkC
namespace Go.Proofs.Qxb6601363a
open Go.RowKit Plain
set_option linter.unusedVariables false

def bytesOf (l : List UInt8) : ByteArray := ⟨l.toArray⟩
theorem bytesOf_list (l : List UInt8) : (bytesOf l).data.toList = l := by simp [bytesOf]
theorem bytesOf_size (l : List UInt8) : (bytesOf l).size = l.length := by simp [bytesOf, ByteArray.size]
theorem bytesOf_data (u : ByteArray) : bytesOf u.data.toList = u := by simp [bytesOf]

theorem cons_facts {T : ByteArray} {c : UInt8} {l : List UInt8} (h : T.data.toList = c :: l) : ∃ h0 : 0 < T.size, T[0] = c ∧ T.extract 1 T.size = bytesOf l ∧ T.size = l.length + 1 := by
  have hs : T.size = l.length + 1 := by
    have : T.data.toList.length = T.size := by simp
    rw [← this, h]; rfl
  refine ⟨by omega, ?_, ?_, hs⟩
  · have e : T[0]'(by omega) = T.data.toList[0]'(by rw [h]; simp) := rfl
    rw [e]; simp [h]
  · apply ByteArray.ext
    apply Array.toList_inj.1
    rw [Lib.extract_data, h, hs, bytesOf_list]
    simp

theorem cuts_minus {T : ByteArray} {l : List UInt8} (h : T.data.toList = 45 :: l) (hl : l.length ≤ 1049088) : Cuts T true (bytesOf l) := by
  obtain ⟨h0, h1, h2, h3⟩ := cons_facts h
  intro w
  rw [← h2]
  exact cut_minus T w (by omega) h0 (by rw [h1]; rfl) (by rw [h1]; rfl)
theorem cuts_plus {T : ByteArray} {l : List UInt8} (h : T.data.toList = 43 :: l) (hl : l.length ≤ 1049088) : Cuts T false (bytesOf l) := by
  obtain ⟨h0, h1, h2, h3⟩ := cons_facts h
  intro w
  rw [← h2]
  exact cut_plus T w (by omega) h0 (by rw [h1]; rfl) (by rw [h1]; rfl)
theorem cuts_bare {u : ByteArray} (hl : u.size ≤ 1049088) (h : ∀ h0 : 0 < u.size, ((u[0].toNat : Int) == 43) = false ∧ ((u[0].toNat : Int) == 45) = false) : Cuts u false (bytesOf u.data.toList) := by
  intro w
  rw [bytesOf_data]
  by_cases h0 : 0 < u.size
  · exact cut_none u w (by omega) h0 (h h0).1 (h h0).2
  · have : u = ByteArray.empty := by
      apply ByteArray.ext
      apply Array.eq_empty_of_size_eq_zero
      have : u.size = u.data.size := rfl
      omega
    rw [this]
    exact cut_empty w

def sgn (m : Bool) : UInt8 := if m = true then 45 else 43
theorem cuts_sgn {T : ByteArray} {m : Bool} {l : List UInt8} (h : T.data.toList = sgn m :: l) (hl : l.length ≤ 1049088) : Cuts T m (bytesOf l) := by
  cases m
  · exact cuts_plus h hl
  · exact cuts_minus h hl

/-- one decimal, whichever way it is spelt -/
def Reads (s : ByteArray) (x : Bool) (d : ByteArray) (z : Int) : Prop :=
  ∀ w : World, Calls Try.prog 15 #[.string s] w fun e w' => Grown w w' ∧ e = .returned (.tuple #[.bool x, .string d, .int .i64 z, .bool true])
def Refuses (s : ByteArray) : Prop :=
  ∀ w : World, Calls Try.prog 15 #[.string s] w fun e w' => Grown w w' ∧ e = .returned (.tuple #[.bool false, .string ⟨#[]⟩, .int .i64 0, .bool false])

theorem reads_of {s : ByteArray} {m : Bool} {l : List UInt8} (hl : l.length ≤ 1049088) (hc : Cuts s m (bytesOf l)) (ha : acc l = true) : Reads s (negOut m l) (digOut l) (scaleOf l) := by
  intro w
  refine (zz_any s (bytesOf l) m w (by rw [bytesOf_size]; exact hl) hc).mono ?_
  rw [bytesOf_list]
  rintro e w' ⟨hg, ⟨h, _⟩ | ⟨_, h⟩⟩
  · rw [ha] at h; cases h
  · exact ⟨hg, h⟩
theorem refuses_of {s : ByteArray} {m : Bool} {l : List UInt8} (hl : l.length ≤ 1049088) (hc : Cuts s m (bytesOf l)) (ha : acc l = false) : Refuses s := by
  intro w
  refine (zz_any s (bytesOf l) m w (by rw [bytesOf_size]; exact hl) hc).mono ?_
  rw [bytesOf_list]
  rintro e w' ⟨hg, ⟨_, h⟩ | ⟨h, _⟩⟩
  · exact ⟨hg, h⟩
  · rw [ha] at h; cases h

theorem spelt_len (lead trail : Nat) (u : List UInt8) : (spelt lead trail u).length ≤ lead + u.length + 1 + trail := by
  unfold spelt
  simp only [List.length_append, List.length_replicate]
  split
  · simp
  · simp

/-- both spellings read as one decimal, or the first is refused -/
theorem both (m : Bool) (u base T : ByteArray) (lead trail : Nat) (hl : lead ≤ 255) (ht : trail ≤ 255) (hu : u.size ≤ 1048576)
    (hb : Cuts base m (bytesOf u.data.toList)) (hT : T.data.toList = sgn m :: spelt lead trail u.data.toList) :
    Refuses base ∨ ∃ x d z, Reads base x d z ∧ Reads T x d z := by
  have hlen : u.data.toList.length = u.size := by simp
  have hsl := spelt_len lead trail u.data.toList
  cases ha : acc u.data.toList
  · exact Or.inl (refuses_of (by omega) hb ha)
  · refine Or.inr ⟨_, _, _, reads_of (by omega) hb ha, ?_⟩
    have h := reads_of (by omega) (cuts_sgn hT (by omega)) (spelt_acc lead trail ha)
    have e1 : negOut m (spelt lead trail u.data.toList) = negOut m u.data.toList := by unfold negOut; rw [spelt_nz]
    have e2 : digOut (spelt lead trail u.data.toList) = digOut u.data.toList := by unfold digOut; rw [spelt_trim]
    rw [e1, e2, spelt_scale] at h
    exact h

theorem tail_list (m : Bool) (u p : ByteArray) (lead trail : Nat) (hp : p.data.toList = if hasPt u.data.toList = true then [] else [46]) :
    ((((bytesOf [sgn m] ++ zerosOf lead) ++ u) ++ p) ++ zerosOf trail).data.toList = sgn m :: spelt lead trail u.data.toList := by
  simp only [ByteArray.data_append, Array.toList_append, hp, zerosOf, bytesOf, spelt]
  simp

set_option maxHeartbeats 1000000 in
theorem law_minus_bare (u : ByteArray) (lead trail : Nat) (w : World) (hl : lead ≤ 255) (ht : trail ≤ 255) (hu : u.size ≤ 1048576)
    (hb : Hid (∀ h0 : 0 < u.size, ((u[0].toNat : Int) == 43) = false ∧ ((u[0].toNat : Int) == 45) = false)) (hp : ptI u.data.toList < 0) :
    Calls Try.prog 6 #[.bool true, .string u, .int .u8 lead, .int .u8 trail] w fun e w' => e = .returned (.bool true) ∧ Grown w w' := by
  have hT := tail_list true u ⟨#[46]⟩ lead trail (by have h := hp; rw [ptI_neg] at h; simp [h])
  have hT' : ((((⟨#[45]⟩ ++ zerosOf lead) ++ u) ++ ⟨#[46]⟩) ++ zerosOf trail : ByteArray).data.toList = sgn true :: spelt lead trail u.data.toList := hT
  have hc : Cuts (⟨#[45]⟩ ++ u) true (bytesOf u.data.toList) := cuts_minus (by simp [ByteArray.data_append]) (by simp; omega)
  have hboth := both true u _ _ lead trail hl ht hu hc hT'
  clear hT hT' hc
  have hz1 : (zerosOf lead).size = lead := by simp [zerosOf, ByteArray.size]
  have hz2 : (zerosOf trail).size = trail := by simp [zerosOf, ByteArray.size]
  by_cases h0 : 0 < u.size
  · obtain ⟨h1, h2⟩ := hb.out h0
    clear hb
    go_enter Try.func6, Try.ntmps6
    go_wp2_with fail
    refine (bytes_ok _ _ _ _ _ hu).mono ?_
    rintro e w' ⟨rfl, rfl⟩
    go_wp2_with fail
    rcases hboth with hR | ⟨x, d, z, hR, hR2⟩
    · refine (hR _).mono ?_
      rintro e w1 ⟨hg, rfl⟩
      clear hR
      go_wp2
      go_ret
      exact ⟨rfl, hg⟩
    · refine (hR _).mono ?_
      rintro e w1 ⟨hg1, rfl⟩
      clear hR
      have HR : Hid (Reads _ x d z) := hR2
      clear hR2
      go_wp2_with fail
      refine (index_any _ _ hu).mono ?_
      rintro e w2 ⟨rfl, rfl⟩
      go_wp2_with fail
      refine (zeros_any lead _ hl).mono ?_
      rintro e w3 ⟨hg3, rfl⟩
      go_wp2_with fail
      refine (zeros_any trail _ ht).mono ?_
      rintro e w4 ⟨hg4, rfl⟩
      go_wp2_with fail
      refine (HR.out _).mono ?_
      rintro e w5 ⟨hg5, rfl⟩
      clear HR
      go_wp2
      go_ret
      exact ⟨by simp, grown_trans (grown_trans (grown_trans hg1 hg3) hg4) hg5⟩
  · clear hb
    go_enter Try.func6, Try.ntmps6
    go_wp2_with fail
    refine (bytes_ok _ _ _ _ _ hu).mono ?_
    rintro e w' ⟨rfl, rfl⟩
    go_wp2_with fail
    rcases hboth with hR | ⟨x, d, z, hR, hR2⟩
    · refine (hR _).mono ?_
      rintro e w1 ⟨hg, rfl⟩
      clear hR
      go_wp2
      go_ret
      exact ⟨rfl, hg⟩
    · refine (hR _).mono ?_
      rintro e w1 ⟨hg1, rfl⟩
      clear hR
      have HR : Hid (Reads _ x d z) := hR2
      clear hR2
      go_wp2_with fail
      refine (index_any _ _ hu).mono ?_
      rintro e w2 ⟨rfl, rfl⟩
      go_wp2_with fail
      refine (zeros_any lead _ hl).mono ?_
      rintro e w3 ⟨hg3, rfl⟩
      go_wp2_with fail
      refine (zeros_any trail _ ht).mono ?_
      rintro e w4 ⟨hg4, rfl⟩
      go_wp2_with fail
      refine (HR.out _).mono ?_
      rintro e w5 ⟨hg5, rfl⟩
      clear HR
      go_wp2
      go_ret
      exact ⟨by simp, grown_trans (grown_trans (grown_trans hg1 hg3) hg4) hg5⟩

set_option maxHeartbeats 1000000 in
theorem law_minus_pt (u : ByteArray) (lead trail : Nat) (w : World) (hl : lead ≤ 255) (ht : trail ≤ 255) (hu : u.size ≤ 1048576)
    (hb : Hid (∀ h0 : 0 < u.size, ((u[0].toNat : Int) == 43) = false ∧ ((u[0].toNat : Int) == 45) = false)) (hp : 0 ≤ ptI u.data.toList) :
    Calls Try.prog 6 #[.bool true, .string u, .int .u8 lead, .int .u8 trail] w fun e w' => e = .returned (.bool true) ∧ Grown w w' := by
  have hT := tail_list true u ⟨#[]⟩ lead trail (by have h' : ¬ ptI u.data.toList < 0 := (by omega); rw [ptI_neg] at h'; simp at h'; simp [h'])
  have hT' : ((((⟨#[45]⟩ ++ zerosOf lead) ++ u) ++ ⟨#[]⟩) ++ zerosOf trail : ByteArray).data.toList = sgn true :: spelt lead trail u.data.toList := hT
  have hc : Cuts (⟨#[45]⟩ ++ u) true (bytesOf u.data.toList) := cuts_minus (by simp [ByteArray.data_append]) (by simp; omega)
  have hboth := both true u _ _ lead trail hl ht hu hc hT'
  clear hT hT' hc
  have hz1 : (zerosOf lead).size = lead := by simp [zerosOf, ByteArray.size]
  have hz2 : (zerosOf trail).size = trail := by simp [zerosOf, ByteArray.size]
  by_cases h0 : 0 < u.size
  · obtain ⟨h1, h2⟩ := hb.out h0
    clear hb
    go_enter Try.func6, Try.ntmps6
    go_wp2_with fail
    refine (bytes_ok _ _ _ _ _ hu).mono ?_
    rintro e w' ⟨rfl, rfl⟩
    go_wp2_with fail
    rcases hboth with hR | ⟨x, d, z, hR, hR2⟩
    · refine (hR _).mono ?_
      rintro e w1 ⟨hg, rfl⟩
      clear hR
      go_wp2
      go_ret
      exact ⟨rfl, hg⟩
    · refine (hR _).mono ?_
      rintro e w1 ⟨hg1, rfl⟩
      clear hR
      have HR : Hid (Reads _ x d z) := hR2
      clear hR2
      go_wp2_with fail
      refine (index_any _ _ hu).mono ?_
      rintro e w2 ⟨rfl, rfl⟩
      go_wp2_with fail
      refine (zeros_any lead _ hl).mono ?_
      rintro e w3 ⟨hg3, rfl⟩
      go_wp2_with fail
      refine (zeros_any trail _ ht).mono ?_
      rintro e w4 ⟨hg4, rfl⟩
      go_wp2_with fail
      refine (HR.out _).mono ?_
      rintro e w5 ⟨hg5, rfl⟩
      clear HR
      go_wp2
      go_ret
      exact ⟨by simp, grown_trans (grown_trans (grown_trans hg1 hg3) hg4) hg5⟩
  · clear hb
    go_enter Try.func6, Try.ntmps6
    go_wp2_with fail
    refine (bytes_ok _ _ _ _ _ hu).mono ?_
    rintro e w' ⟨rfl, rfl⟩
    go_wp2_with fail
    rcases hboth with hR | ⟨x, d, z, hR, hR2⟩
    · refine (hR _).mono ?_
      rintro e w1 ⟨hg, rfl⟩
      clear hR
      go_wp2
      go_ret
      exact ⟨rfl, hg⟩
    · refine (hR _).mono ?_
      rintro e w1 ⟨hg1, rfl⟩
      clear hR
      have HR : Hid (Reads _ x d z) := hR2
      clear hR2
      go_wp2_with fail
      refine (index_any _ _ hu).mono ?_
      rintro e w2 ⟨rfl, rfl⟩
      go_wp2_with fail
      refine (zeros_any lead _ hl).mono ?_
      rintro e w3 ⟨hg3, rfl⟩
      go_wp2_with fail
      refine (zeros_any trail _ ht).mono ?_
      rintro e w4 ⟨hg4, rfl⟩
      go_wp2_with fail
      refine (HR.out _).mono ?_
      rintro e w5 ⟨hg5, rfl⟩
      clear HR
      go_wp2
      go_ret
      exact ⟨by simp, grown_trans (grown_trans (grown_trans hg1 hg3) hg4) hg5⟩

set_option maxHeartbeats 1000000 in
theorem law_plus_bare (u : ByteArray) (lead trail : Nat) (w : World) (hl : lead ≤ 255) (ht : trail ≤ 255) (hu : u.size ≤ 1048576)
    (hb : Hid (∀ h0 : 0 < u.size, ((u[0].toNat : Int) == 43) = false ∧ ((u[0].toNat : Int) == 45) = false)) (hp : ptI u.data.toList < 0) :
    Calls Try.prog 6 #[.bool false, .string u, .int .u8 lead, .int .u8 trail] w fun e w' => e = .returned (.bool true) ∧ Grown w w' := by
  have hT := tail_list false u ⟨#[46]⟩ lead trail (by have h := hp; rw [ptI_neg] at h; simp [h])
  have hT' : ((((⟨#[43]⟩ ++ zerosOf lead) ++ u) ++ ⟨#[46]⟩) ++ zerosOf trail : ByteArray).data.toList = sgn false :: spelt lead trail u.data.toList := hT
  have hc : Cuts (u) false (bytesOf u.data.toList) := cuts_bare (by omega) hb.out
  have hboth := both false u _ _ lead trail hl ht hu hc hT'
  clear hT hT' hc
  have hz1 : (zerosOf lead).size = lead := by simp [zerosOf, ByteArray.size]
  have hz2 : (zerosOf trail).size = trail := by simp [zerosOf, ByteArray.size]
  by_cases h0 : 0 < u.size
  · obtain ⟨h1, h2⟩ := hb.out h0
    clear hb
    go_enter Try.func6, Try.ntmps6
    go_wp2_with fail
    refine (bytes_ok _ _ _ _ _ hu).mono ?_
    rintro e w' ⟨rfl, rfl⟩
    go_wp2_with fail
    rcases hboth with hR | ⟨x, d, z, hR, hR2⟩
    · refine (hR _).mono ?_
      rintro e w1 ⟨hg, rfl⟩
      clear hR
      go_wp2
      go_ret
      exact ⟨rfl, hg⟩
    · refine (hR _).mono ?_
      rintro e w1 ⟨hg1, rfl⟩
      clear hR
      have HR : Hid (Reads _ x d z) := hR2
      clear hR2
      go_wp2_with fail
      refine (index_any _ _ hu).mono ?_
      rintro e w2 ⟨rfl, rfl⟩
      go_wp2_with fail
      refine (zeros_any lead _ hl).mono ?_
      rintro e w3 ⟨hg3, rfl⟩
      go_wp2_with fail
      refine (zeros_any trail _ ht).mono ?_
      rintro e w4 ⟨hg4, rfl⟩
      go_wp2_with fail
      refine (HR.out _).mono ?_
      rintro e w5 ⟨hg5, rfl⟩
      clear HR
      go_wp2
      go_ret
      exact ⟨by simp, grown_trans (grown_trans (grown_trans hg1 hg3) hg4) hg5⟩
  · clear hb
    go_enter Try.func6, Try.ntmps6
    go_wp2_with fail
    refine (bytes_ok _ _ _ _ _ hu).mono ?_
    rintro e w' ⟨rfl, rfl⟩
    go_wp2_with fail
    rcases hboth with hR | ⟨x, d, z, hR, hR2⟩
    · refine (hR _).mono ?_
      rintro e w1 ⟨hg, rfl⟩
      clear hR
      go_wp2
      go_ret
      exact ⟨rfl, hg⟩
    · refine (hR _).mono ?_
      rintro e w1 ⟨hg1, rfl⟩
      clear hR
      have HR : Hid (Reads _ x d z) := hR2
      clear hR2
      go_wp2_with fail
      refine (index_any _ _ hu).mono ?_
      rintro e w2 ⟨rfl, rfl⟩
      go_wp2_with fail
      refine (zeros_any lead _ hl).mono ?_
      rintro e w3 ⟨hg3, rfl⟩
      go_wp2_with fail
      refine (zeros_any trail _ ht).mono ?_
      rintro e w4 ⟨hg4, rfl⟩
      go_wp2_with fail
      refine (HR.out _).mono ?_
      rintro e w5 ⟨hg5, rfl⟩
      clear HR
      go_wp2
      go_ret
      exact ⟨by simp, grown_trans (grown_trans (grown_trans hg1 hg3) hg4) hg5⟩

set_option maxHeartbeats 1000000 in
theorem law_plus_pt (u : ByteArray) (lead trail : Nat) (w : World) (hl : lead ≤ 255) (ht : trail ≤ 255) (hu : u.size ≤ 1048576)
    (hb : Hid (∀ h0 : 0 < u.size, ((u[0].toNat : Int) == 43) = false ∧ ((u[0].toNat : Int) == 45) = false)) (hp : 0 ≤ ptI u.data.toList) :
    Calls Try.prog 6 #[.bool false, .string u, .int .u8 lead, .int .u8 trail] w fun e w' => e = .returned (.bool true) ∧ Grown w w' := by
  have hT := tail_list false u ⟨#[]⟩ lead trail (by have h' : ¬ ptI u.data.toList < 0 := (by omega); rw [ptI_neg] at h'; simp at h'; simp [h'])
  have hT' : ((((⟨#[43]⟩ ++ zerosOf lead) ++ u) ++ ⟨#[]⟩) ++ zerosOf trail : ByteArray).data.toList = sgn false :: spelt lead trail u.data.toList := hT
  have hc : Cuts (u) false (bytesOf u.data.toList) := cuts_bare (by omega) hb.out
  have hboth := both false u _ _ lead trail hl ht hu hc hT'
  clear hT hT' hc
  have hz1 : (zerosOf lead).size = lead := by simp [zerosOf, ByteArray.size]
  have hz2 : (zerosOf trail).size = trail := by simp [zerosOf, ByteArray.size]
  by_cases h0 : 0 < u.size
  · obtain ⟨h1, h2⟩ := hb.out h0
    clear hb
    go_enter Try.func6, Try.ntmps6
    go_wp2_with fail
    refine (bytes_ok _ _ _ _ _ hu).mono ?_
    rintro e w' ⟨rfl, rfl⟩
    go_wp2_with fail
    rcases hboth with hR | ⟨x, d, z, hR, hR2⟩
    · refine (hR _).mono ?_
      rintro e w1 ⟨hg, rfl⟩
      clear hR
      go_wp2
      go_ret
      exact ⟨rfl, hg⟩
    · refine (hR _).mono ?_
      rintro e w1 ⟨hg1, rfl⟩
      clear hR
      have HR : Hid (Reads _ x d z) := hR2
      clear hR2
      go_wp2_with fail
      refine (index_any _ _ hu).mono ?_
      rintro e w2 ⟨rfl, rfl⟩
      go_wp2_with fail
      refine (zeros_any lead _ hl).mono ?_
      rintro e w3 ⟨hg3, rfl⟩
      go_wp2_with fail
      refine (zeros_any trail _ ht).mono ?_
      rintro e w4 ⟨hg4, rfl⟩
      go_wp2_with fail
      refine (HR.out _).mono ?_
      rintro e w5 ⟨hg5, rfl⟩
      clear HR
      go_wp2
      go_ret
      exact ⟨by simp, grown_trans (grown_trans (grown_trans hg1 hg3) hg4) hg5⟩
  · clear hb
    go_enter Try.func6, Try.ntmps6
    go_wp2_with fail
    refine (bytes_ok _ _ _ _ _ hu).mono ?_
    rintro e w' ⟨rfl, rfl⟩
    go_wp2_with fail
    rcases hboth with hR | ⟨x, d, z, hR, hR2⟩
    · refine (hR _).mono ?_
      rintro e w1 ⟨hg, rfl⟩
      clear hR
      go_wp2
      go_ret
      exact ⟨rfl, hg⟩
    · refine (hR _).mono ?_
      rintro e w1 ⟨hg1, rfl⟩
      clear hR
      have HR : Hid (Reads _ x d z) := hR2
      clear hR2
      go_wp2_with fail
      refine (index_any _ _ hu).mono ?_
      rintro e w2 ⟨rfl, rfl⟩
      go_wp2_with fail
      refine (zeros_any lead _ hl).mono ?_
      rintro e w3 ⟨hg3, rfl⟩
      go_wp2_with fail
      refine (zeros_any trail _ ht).mono ?_
      rintro e w4 ⟨hg4, rfl⟩
      go_wp2_with fail
      refine (HR.out _).mono ?_
      rintro e w5 ⟨hg5, rfl⟩
      clear HR
      go_wp2
      go_ret
      exact ⟨by simp, grown_trans (grown_trans (grown_trans hg1 hg3) hg4) hg5⟩

set_option maxHeartbeats 1000000 in
theorem law_long (m : Bool) (u : ByteArray) (lead trail : Int) (w : World) (hm : u.size ≤ maxLen) (hu : 1048576 < u.size) :
    Calls Try.prog 6 #[.bool m, .string u, .int .u8 lead, .int .u8 trail] w fun e w' => e = .returned (.bool true) ∧ Grown w w' := by
  go_enter Try.func6, Try.ntmps6
  go_wp2_with fail
  refine (bytes_no _ _ _ _ _ hu hm).mono ?_
  rintro e w' ⟨rfl, rfl⟩
  go_wp2
  go_ret
  exact ⟨rfl, Grown.refl _⟩

set_option maxHeartbeats 1000000 in
theorem law_plus (m : Bool) (u : ByteArray) (lead trail : Int) (w : World) (hu : u.size ≤ 1048576) (h0 : 0 < u.size) (h1 : ((u[0].toNat : Int) == 43) = true) :
    Calls Try.prog 6 #[.bool m, .string u, .int .u8 lead, .int .u8 trail] w fun e w' => e = .returned (.bool true) ∧ Grown w w' := by
  go_enter Try.func6, Try.ntmps6
  go_wp2_with fail
  refine (bytes_ok _ _ _ _ _ hu).mono ?_
  rintro e w' ⟨rfl, rfl⟩
  go_wp2
  go_ret
  exact ⟨rfl, Grown.refl _⟩
set_option maxHeartbeats 1000000 in
theorem law_minus (m : Bool) (u : ByteArray) (lead trail : Int) (w : World) (hu : u.size ≤ 1048576) (h0 : 0 < u.size) (h1 : ((u[0].toNat : Int) == 43) = false) (h2 : ((u[0].toNat : Int) == 45) = true) :
    Calls Try.prog 6 #[.bool m, .string u, .int .u8 lead, .int .u8 trail] w fun e w' => e = .returned (.bool true) ∧ Grown w w' := by
  go_enter Try.func6, Try.ntmps6
  go_wp2_with fail
  refine (bytes_ok _ _ _ _ _ hu).mono ?_
  rintro e w' ⟨rfl, rfl⟩
  go_wp2
  go_ret
  exact ⟨rfl, Grown.refl _⟩

theorem law (m : Bool) (u : ByteArray) (lead trail : Nat) (w : World) (hm : u.size ≤ maxLen) (hl : lead ≤ 255) (ht : trail ≤ 255) :
    Calls Try.prog 6 #[.bool m, .string u, .int .u8 lead, .int .u8 trail] w fun e w' => e = .returned (.bool true) ∧ Grown w w' := by
  by_cases hu : u.size ≤ 1048576
  · by_cases h43 : ∃ h0 : 0 < u.size, ((u[0].toNat : Int) == 43) = true
    · obtain ⟨h0, h1⟩ := h43
      exact law_plus m u lead trail w hu h0 h1
    · by_cases h45 : ∃ h0 : 0 < u.size, ((u[0].toNat : Int) == 45) = true
      · obtain ⟨h0, h1⟩ := h45
        refine law_minus m u lead trail w hu h0 ?_ h1
        cases h : ((u[0].toNat : Int) == 43)
        · rfl
        · exact absurd ⟨h0, h⟩ h43
      · have hb : ∀ h0 : 0 < u.size, ((u[0].toNat : Int) == 43) = false ∧ ((u[0].toNat : Int) == 45) = false := fun h0 => by
          constructor
          · cases h : ((u[0].toNat : Int) == 43)
            · rfl
            · exact absurd ⟨h0, h⟩ h43
          · cases h : ((u[0].toNat : Int) == 45)
            · rfl
            · exact absurd ⟨h0, h⟩ h45
        by_cases hp : ptI u.data.toList < 0
        · cases m
          · exact law_plus_bare u lead trail w hl ht hu hb hp
          · exact law_minus_bare u lead trail w hl ht hu hb hp
        · cases m
          · exact law_plus_pt u lead trail w hl ht hu hb (by omega)
          · exact law_minus_pt u lead trail w hl ht hu hb (by omega)
  · exact law_long m u lead trail w hm (by omega)

end Go.Proofs.Qxb6601363a
