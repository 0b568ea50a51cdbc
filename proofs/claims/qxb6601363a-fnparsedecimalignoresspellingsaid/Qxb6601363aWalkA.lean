/-
  The walks of the callees that only compute: 'zzBytes_..', 'zzIndexByte', 'scanDigits', 'cutSign'.
-/
import Derived.Test.Qxb6601363aProg
import Derived.Test.Qxb6601363aPlain
import Derived.WalkKit
import Derived.WalkSpells
import Derived.WalkLawsBesides
namespace Go.Proofs.Qxb6601363a
open Go.RowKit Plain
set_option linter.unusedVariables false

theorem ret_int {k : IntKind} {a b : Int} (h : a = b) : Ending.returned (.int k a) = .returned (.int k b) := by rw [h]
theorem take_snoc (s : ByteArray) (k : Nat) (h : k < s.size) : s.data.toList.take (k + 1) = s.data.toList.take k ++ [s[k]] := by
  rw [List.take_succ_eq_append_getElem (by simpa using h)]; rfl

set_option maxHeartbeats 400000 in
theorem bytes_ok (a0 : Bool) (u : ByteArray) (a2 a3 : Int) (w : World) (h : u.size ≤ 1048576) :
    Calls Try.prog 17 #[.bool a0, .string u, .int .u8 a2, .int .u8 a3] w fun e w' => e = .returned (.bool true) ∧ w' = w := by
  go_enter Try.func17, Try.ntmps17
  go_wp2
  go_ret
  exact ⟨rfl, rfl⟩
set_option maxHeartbeats 400000 in
theorem bytes_no (a0 : Bool) (u : ByteArray) (a2 a3 : Int) (w : World) (h : 1048576 < u.size) (hm : u.size ≤ maxLen) :
    Calls Try.prog 17 #[.bool a0, .string u, .int .u8 a2, .int .u8 a3] w fun e w' => e = .returned (.bool false) ∧ w' = w := by
  unfold maxLen at hm
  go_enter Try.func17, Try.ntmps17
  go_wp2
  go_ret
  exact ⟨rfl, rfl⟩

theorem index_hit {l : List UInt8} {k : Nat} (hk : k < l.length) (hp : ptI (l.take k) < 0) (hc : pt l[k] = true) : ptI l = (k : Int) := by
  have e : l = l.take k ++ ([l[k]] ++ l.drop (k + 1)) := by
    have := List.take_append_drop k l
    rw [List.drop_eq_getElem_cons hk] at this
    exact this.symm
  have h1 : ptI (l.take k ++ [l[k]]) = (l.take k).length := ptI_snoc_new hp hc
  have h2 : hasPt l = true := by
    unfold hasPt; rw [List.any_eq_true]; exact ⟨l[k], List.getElem_mem hk, hc⟩
  rw [ptI_neg] at hp
  unfold ptI
  rw [if_pos h2]
  conv => lhs; rw [e]
  rw [findIdx_skip hp, findIdx_any (by simp [hc])]
  simp [List.findIdx_cons, hc]
  omega
theorem pt_iff (c : UInt8) : ((c.toNat : Int) == 46) = pt c := by
  rw [Bool.eq_iff_iff]; simp [pt]; omega

set_option maxHeartbeats 400000 in
theorem index_any (s : ByteArray) (w : World) (hs : s.size ≤ 1048576) :
    Calls Try.prog 18 #[.string s, .int .u8 46] w fun e w' => e = .returned (.int .i64 (ptI s.data.toList)) ∧ w' = w := by
  go_enter Try.func18, Try.ntmps18
  go_wp2
  go_loop [5] (fun i => ∃ k : Nat, k ≤ s.size ∧ i = .int .i64 k ∧ ptI (s.data.toList.take k) < 0) (fun i => s.size - (intOf i).toNat)
  case atStart => exact ⟨0, Nat.zero_le _, rfl, by simp [ptI_nil]⟩
  case round =>
    obtain ⟨k, hk, rfl, hp⟩ := hrel
    have HP : Hid (ptI (s.data.toList.take k) < 0) := hp
    clear hp
    by_cases hlt : k < s.size
    · go_wp2
      · have hc : ((s[k].toNat : Int) == 46) = true := by assumption
        go_ret
        exact ⟨ret_int (index_hit (by simpa using hlt) HP.out (by rw [pt_iff] at hc; exact hc)).symm, rfl⟩
      · have hc : ((s[k].toNat : Int) == 46) = false := by assumption
        go_round
        case rel => exact ⟨k + 1, by omega, by go_num, by rw [take_snoc s k hlt, ptI_snoc_none _ (by rw [pt_iff] at hc; exact hc)]; exact HP.out⟩
        case measure => simp [intOf]; omega
    · go_wp2
      go_ret
      refine ⟨ret_int ?_, rfl⟩
      have h := HP.out
      rw [List.take_of_length_le (by simp; omega)] at h
      have := ptI_lo s.data.toList
      omega

theorem dg_mk {c : UInt8} (h1 : 48 ≤ (c.toNat : Int)) (h2 : (c.toNat : Int) ≤ 57) : dg c = true := by
  simp [dg, nz]; omega
theorem nz_mk {c : UInt8} (h1 : 49 ≤ (c.toNat : Int)) (h2 : (c.toNat : Int) ≤ 57) : nz c = true := by
  simp [nz]; omega
theorem nz_no {c : UInt8} (h1 : (c.toNat : Int) < 49) : nz c = false := by
  simp [nz]; omega
theorem pt_no {c : UInt8} (h1 : 47 ≤ (c.toNat : Int)) : pt c = false := by
  simp [pt]; omega
theorem pt_yes {c : UInt8} (h1 : 46 ≤ (c.toNat : Int)) (h2 : (c.toNat : Int) ≤ 46) : pt c = true := by
  simp [pt]; omega
theorem scan_dig {l : List UInt8} {c : UInt8} (hg : good l = true) (h1 : 48 ≤ (c.toNat : Int)) (h2 : (c.toNat : Int) ≤ 57) :
    good (l ++ [c]) = true ∧ ptI (l ++ [c]) = ptI l ∧ okB (l ++ [c]) = true := by
  refine ⟨?_, ptI_snoc_none _ (pt_no (by omega)), ?_⟩
  · rw [good_snoc, hg, dg_mk h1 h2]; rfl
  · rw [okB_snoc, dg_mk h1 h2]; simp
theorem scan_pt {l : List UInt8} {c : UInt8} (hg : good l = true) (hp : ptI l < 0) (h1 : 46 ≤ (c.toNat : Int)) (h2 : (c.toNat : Int) ≤ 46) :
    good (l ++ [c]) = true ∧ ptI (l ++ [c]) = l.length ∧ okB (l ++ [c]) = okB l ∧ frI (l ++ [c]) = frI l := by
  have hd : dg c = false := by simp [dg, nz]; omega
  refine ⟨?_, ptI_snoc_new hp (pt_yes h1 h2), ?_, frI_snoc_none _ (nz_no (by omega))⟩
  · rw [good_snoc, hg, pt_yes h1 h2, ptI_neg.1 hp]; simp
  · rw [okB_snoc, hd]; simp
theorem scan_bad {s : ByteArray} {k : Nat} (hk : k < s.size) (h : dg s[k] = false) (h2 : pt s[k] = false ∨ 0 ≤ ptI (s.data.toList.take k)) : good s.data.toList = false := by
  apply bad_of_take (k + 1)
  rw [take_snoc s k hk, good_snoc, h]
  rcases h2 with h2 | h2
  · simp [h2]
  · have : ¬ ptI (s.data.toList.take k) < 0 := by omega
    rw [ptI_neg] at this
    simp at this
    simp [this]

set_option maxHeartbeats 1000000 in
theorem scan_any (s : ByteArray) (w : World) (hs : s.size ≤ 1049088) :
    Calls Try.prog 25 #[.string s] w fun e w' => w' = w ∧ ∃ (p f n : Int) (ok : Bool), e = .returned (.tuple #[.int .i64 p, .int .i64 f, .int .i64 n, .bool ok]) ∧
      ((good s.data.toList = true ∧ p = ptE s.data.toList ∧ f = frI s.data.toList ∧ n = s.size ∧ ok = okB s.data.toList) ∨
       (good s.data.toList = false ∧ (ok = false ∨ (0 ≤ n ∧ n < s.size)))) := by
  go_enter Try.func25, Try.ntmps25
  go_wp2
  go_step3
  go_wp2
  go_step3
  go_wp2
  go_loop [2, 3, 4, 5, 6] (fun p f n o i => ∃ k : Nat, k ≤ s.size ∧ good (s.data.toList.take k) = true ∧ i = .int .i64 k ∧ p = .int .i64 (ptI (s.data.toList.take k)) ∧ f = .int .i64 (frI (s.data.toList.take k)) ∧ n = .int .i64 s.size ∧ o = .bool (okB (s.data.toList.take k))) (fun _ _ _ _ i => s.size - (intOf i).toNat)
  case atStart => exact ⟨0, Nat.zero_le _, by simp [good_nil], rfl, by simp [ptI_nil], by simp [frI_nil], rfl, by simp [okB_nil]⟩
  case round =>
    obtain ⟨k, hk, hgood, rfl, rfl, rfl, rfl, rfl⟩ := hrel
    have HG : Hid (good (s.data.toList.take k) = true) := hgood
    have hfb := frI_lo (s.data.toList.take k)
    have hpb := ptI_lo (s.data.toList.take k)
    have hlen : (s.data.toList.take k).length = k := by simp; omega
    have HL : Hid ((s.data.toList.take k).length = k) := hlen
    rw [hlen] at hfb hpb
    clear hgood hlen
    by_cases hlt : k < s.size
    · rcases (show (49 ≤ (s[k].toNat : Int) ∧ (s[k].toNat : Int) ≤ 57) ∨ (48 ≤ (s[k].toNat : Int) ∧ (s[k].toNat : Int) ≤ 48) ∨ (46 ≤ (s[k].toNat : Int) ∧ (s[k].toNat : Int) ≤ 46) ∨ (69 ≤ (s[k].toNat : Int) ∧ (s[k].toNat : Int) ≤ 69) ∨ (101 ≤ (s[k].toNat : Int) ∧ (s[k].toNat : Int) ≤ 101) ∨
        ((s[k].toNat : Int) < 46 ∨ (47 ≤ (s[k].toNat : Int) ∧ (s[k].toNat : Int) ≤ 47) ∨ (58 ≤ (s[k].toNat : Int) ∧ (s[k].toNat : Int) ≤ 68) ∨ (70 ≤ (s[k].toNat : Int) ∧ (s[k].toNat : Int) ≤ 100) ∨ 101 < (s[k].toNat : Int)) from by omega) with ⟨h1, h2⟩ | ⟨h1, h2⟩ | ⟨h1, h2⟩ | ⟨h1, h2⟩ | ⟨h1, h2⟩ | h1
      · by_cases hf : frI (s.data.toList.take k) < 0
        · go_wp2
          go_round
          case rel =>
            have R := scan_dig HG.out (by omega) h2
            exact ⟨k + 1, by omega, by rw [take_snoc s k hlt]; exact R.1, by go_num, by rw [take_snoc s k hlt, R.2.1], by rw [take_snoc s k hlt, frI_snoc_new hf (nz_mk h1 h2), HL.out], rfl, by rw [take_snoc s k hlt, R.2.2]⟩
          case measure => simp [intOf]; omega
        · go_wp2
          go_round
          case rel =>
            have R := scan_dig HG.out (by omega) h2
            exact ⟨k + 1, by omega, by rw [take_snoc s k hlt]; exact R.1, by go_num, by rw [take_snoc s k hlt, R.2.1], by rw [take_snoc s k hlt, frI_snoc_old _ hf], rfl, by rw [take_snoc s k hlt, R.2.2]⟩
          case measure => simp [intOf]; omega
      · go_wp2
        go_round
        case rel =>
          have R := scan_dig HG.out (by omega) (by omega)
          exact ⟨k + 1, by omega, by rw [take_snoc s k hlt]; exact R.1, by go_num, by rw [take_snoc s k hlt, R.2.1], by rw [take_snoc s k hlt, frI_snoc_none _ (nz_no (by omega))], rfl, by rw [take_snoc s k hlt, R.2.2]⟩
        case measure => simp [intOf]; omega
      · by_cases hp : ptI (s.data.toList.take k) < 0
        · go_wp2
          go_round
          case rel =>
            have R := scan_pt HG.out hp (by omega) (by omega)
            exact ⟨k + 1, by omega, by rw [take_snoc s k hlt]; exact R.1, by go_num, by rw [take_snoc s k hlt, R.2.1, HL.out], by rw [take_snoc s k hlt, R.2.2.2], rfl, by rw [take_snoc s k hlt, R.2.2.1]⟩
          case measure => simp [intOf]; omega
        · have hp' : 0 ≤ ptI (s.data.toList.take k) := by omega
          go_wp2
          exact bodyPost_ret (v := .tuple #[.int .i64 0, .int .i64 0, .int .i64 0, .bool false]) (by simp [results, Try.results25, go_sem]) rfl ⟨rfl, 0, 0, 0, false, rfl, Or.inr ⟨scan_bad hlt (by simp [dg, nz]; omega) (Or.inr hp'), Or.inl rfl⟩⟩
      all_goals
        have hbad : good s.data.toList = false := scan_bad hlt (by simp [dg, nz]; omega) (Or.inl (by simp [pt]; omega))
        have HB : Hid (good s.data.toList = false) := hbad
        clear hbad
        go_wp2
        all_goals
          first
          | (refine bodyPost_ret (v := .tuple #[.int .i64 0, .int .i64 0, .int .i64 0, .bool false]) ?_ rfl ?_
             · simp [results, Try.results25, go_sem]; done
             · exact ⟨rfl, 0, 0, 0, false, rfl, Or.inr ⟨HB.out, Or.inl rfl⟩⟩)
          | (refine bodyPost_ret (v := .tuple #[.int .i64 k, .int .i64 (frI (s.data.toList.take k)), .int .i64 k, .bool (okB (s.data.toList.take k))]) ?_ rfl ?_
             · simp [results, Try.results25, go_sem]; done
             · exact ⟨rfl, _, _, _, _, rfl, Or.inr ⟨HB.out, Or.inr ⟨by omega, by omega⟩⟩⟩)
          | (refine bodyPost_ret (v := .tuple #[.int .i64 (ptI (s.data.toList.take k)), .int .i64 (frI (s.data.toList.take k)), .int .i64 k, .bool (okB (s.data.toList.take k))]) ?_ rfl ?_
             · simp [results, Try.results25, go_sem]; done
             · exact ⟨rfl, _, _, _, _, rfl, Or.inr ⟨HB.out, Or.inr ⟨by omega, by omega⟩⟩⟩)
    · have ht : s.data.toList.take k = s.data.toList := List.take_of_length_le (by simp; omega)
      have HT : Hid (s.data.toList.take k = s.data.toList) := ht
      clear ht
      go_wp2
      · have hp : ptI (s.data.toList.take k) < 0 := by assumption
        refine bodyPost_ret (v := .tuple #[.int .i64 s.size, .int .i64 (frI (s.data.toList.take k)), .int .i64 s.size, .bool (okB (s.data.toList.take k))]) (by simp [results, Try.results25, go_sem]) rfl ⟨rfl, _, _, _, _, rfl, Or.inl ?_⟩
        have hg := HG.out
        rw [HT.out] at hp hg ⊢
        exact ⟨hg, by rw [ptE_neg hp]; simp, rfl, rfl, rfl⟩
      · have hp : 0 ≤ ptI (s.data.toList.take k) := by assumption
        refine bodyPost_ret (v := .tuple #[.int .i64 (ptI (s.data.toList.take k)), .int .i64 (frI (s.data.toList.take k)), .int .i64 s.size, .bool (okB (s.data.toList.take k))]) (by simp [results, Try.results25, go_sem]) rfl ⟨rfl, _, _, _, _, rfl, Or.inl ?_⟩
        have hg := HG.out
        rw [HT.out] at hp hg ⊢
        exact ⟨hg, by rw [ptE_pos (by omega)], rfl, rfl, rfl⟩

end Go.Proofs.Qxb6601363a
