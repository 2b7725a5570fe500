import Derived.Test.Qxb6600698aDoorUnfold
namespace Go.Proofs.Qxb6600698aDoor
open Go.Shelf Go.RowKit
set_option linter.unusedVariables false
set_option maxRecDepth 100000

set_option maxHeartbeats 400000 in
theorem zzunfold_any (v l : ByteArray) (w : World) (hv : v.size + l.size ≤ 1048577) :
    Calls Tryd.prog 13 #[.string v, .string l] w fun e w' => ((Hid (unf v l = none) ∧ e = .returned (.tuple #[.string ⟨#[]⟩, .string ⟨#[]⟩, .bool false])) ∨
      (∃ a b : ByteArray, e = .returned (.tuple #[.string a, .string b, .bool true]) ∧ Hid (unf v l = some (a.data.toList, b.data.toList)))) ∧ Below w.heap.size w w' := by
  go_enter Tryd.func13, Tryd.ntmps13
  go_wp2_with fail
  refine (unfold_any v l _ hv).mono ?_
  rintro e w1 ⟨(⟨HU, rfl⟩ | ⟨a, b, rfl, HU⟩), hb⟩
  · go_wp2
    go_ret3
    exact ⟨Or.inl ⟨HU, rfl⟩, hb⟩
  · go_wp2
    go_ret3
    exact ⟨Or.inr ⟨a, b, rfl, HU⟩, hb⟩

set_option maxHeartbeats 400000 in
theorem zzfield_any (s : ByteArray) (w : World) (hs : s.size ≤ 1048577) :
    Calls Tryd.prog 10 #[.string s] w fun e w' => ((hasBad s = true ∧ e = .returned (.tuple #[.string ⟨#[]⟩, .bool false])) ∨
      (hasBad s = false ∧ ∃ t : ByteArray, e = .returned (.tuple #[.string t, .bool true]) ∧ Hid (t.data.toList = trim s.data.toList))) ∧ Below w.heap.size w w' := by
  go_enter Tryd.func10, Tryd.ntmps10
  go_wp2_with fail
  refine (fieldValue_any s _ hs).mono ?_
  rintro e w1 ⟨(⟨HU, rfl⟩ | ⟨HU, t, rfl, HT⟩), hb⟩
  · go_wp2
    go_ret2
    exact ⟨Or.inl ⟨HU, rfl⟩, hb⟩
  · go_wp2
    go_ret2
    exact ⟨Or.inr ⟨HU, t, rfl, HT⟩, hb⟩

set_option maxHeartbeats 1000000 in
theorem zz19 (a b : ByteArray) (w : World) (ha : a.size ≤ maxLen) (hb : b.size ≤ maxLen) :
    Calls Tryd.prog 19 #[.string a, .string b] w fun e w' => (∃ bb : Bool, e = .returned (.bool bb) ∧ (bb = true → a.size + b.size ≤ 1048576)) ∧ w' = w := by
  unfold maxLen at *
  go_enter Tryd.func19, Tryd.ntmps19
  go_wp2
  all_goals
    go_ret
    exact ⟨⟨_, rfl, fun h => by first | omega | cases h⟩, rfl⟩
set_option maxHeartbeats 1000000 in
theorem zz12 (a b : ByteArray) (w : World) (ha : a.size ≤ maxLen) (hb : b.size ≤ maxLen) :
    Calls Tryd.prog 12 #[.string a, .string b] w fun e w' => (∃ bb : Bool, e = .returned (.bool bb) ∧ (bb = true → a.size + b.size ≤ 1048576)) ∧ w' = w := by
  unfold maxLen at *
  go_enter Tryd.func12, Tryd.ntmps12
  go_wp2
  all_goals
    go_ret
    exact ⟨⟨_, rfl, fun h => by first | omega | cases h⟩, rfl⟩

def lfOf (s : ByteArray) : Bool := s.data.toList.contains 10
theorem lf_yes (s : ByteArray) (k : Nat) (h : k < s.size) (hk : s[k] = 10) : lfOf s = true := by
  unfold lfOf
  rw [List.contains_iff_mem]
  rw [← hk]
  exact List.getElem_mem (l := s.data.toList) (by simpa using h)
theorem lf_no (s : ByteArray) (h : ∀ c ∈ s.data.toList, c ≠ 10) : lfOf s = false := by
  unfold lfOf
  rw [← Bool.not_eq_true, List.contains_iff_mem]
  exact fun hm => h _ hm rfl
theorem lf_out (s : ByteArray) (h : lfOf s = false) : ∀ c ∈ s.data.toList, c ≠ 10 := by
  intro c hc e
  unfold lfOf at h
  rw [← Bool.not_eq_true, List.contains_iff_mem] at h
  exact h (e ▸ hc)
set_option maxHeartbeats 1000000 in
theorem hasLF_any (s : ByteArray) (w : World) (hs : s.size ≤ 1048576) :
    Calls Tryd.prog 20 #[.string s, .int .u8 10] w fun e w' => e = .returned (.bool (lfOf s)) ∧ w' = w := by
  go_enter Tryd.func20, Tryd.ntmps20
  go_wp2
  go_loop [5] (fun i => ∃ k : Nat, k ≤ s.size ∧ i = .int .i64 k ∧ ∀ c ∈ s.data.toList.take k, c ≠ 10) (fun i => s.size - (intOf i).toNat)
  case atStart => exact ⟨0, Nat.zero_le _, rfl, by simp⟩
  case round =>
    obtain ⟨k, hk, rfl, hall⟩ := hrel
    have HA : Hid (∀ c ∈ s.data.toList.take k, c ≠ 10) := hall
    clear hall
    by_cases hlt : k < s.size
    · have HS : Hid (s.data.toList.take (k + 1) = s.data.toList.take k ++ [s[k]]) := take_snoc s k hlt
      by_cases h1 : ((s[k].toNat : Int) == 10) = true
      · have HF : Hid (lfOf s = true) := lf_yes s k hlt (byte_eq (by simpa using h1))
        go_wp2
        go_ret
        exact ⟨ret_bool HF.out.symm, rfl⟩
      · have h1' : ((s[k].toNat : Int) == 10) = false := by simpa using h1
        have HN : Hid (s[k] ≠ 10) := byte_ne (by simpa using h1)
        clear h1
        go_wp2
        go_round
        case rel =>
          refine ⟨k + 1, by omega, by go_num, ?_⟩
          rw [HS.out]
          intro c hc
          rcases List.mem_append.1 hc with hc | hc
          · exact HA.out c hc
          · rw [List.mem_singleton.1 hc]; exact HN.out
        case measure => simp [intOf]; omega
    · have HF : Hid (lfOf s = false) := by
        have := HA.out
        rw [List.take_of_length_le (by rw [← ba_size]; omega)] at this
        exact lf_no s this
      go_wp2
      go_ret
      exact ⟨ret_bool HF.out.symm, rfl⟩

theorem unf_one (v x : ByteArray) (h1 : ∀ c ∈ x.data.toList, c ≠ 10) (h2 : x.data.toList.getLast? ≠ some 13) :
    unf v (⟨#[32]⟩ ++ x) = if hasBad x then none else some (join v.data.toList (trim x.data.toList), []) := by
  unfold unf
  have e : ((⟨#[32]⟩ : ByteArray) ++ x).data.toList = 32 :: x.data.toList := by simp
  rw [e]
  exact one_law _ _ _ h1 h2

set_option maxHeartbeats 4000000 in
theorem law7 (v x : ByteArray) (w : World) (ha : v.size ≤ maxLen) (hb : x.size ≤ maxLen) :
    Calls Tryd.prog 7 #[.string v, .string x] w fun e w' => e = .returned (.bool true) ∧ Below w.heap.size w w' := by
  go_enter Tryd.func7, Tryd.ntmps7
  go_wp2_with fail
  refine (zz19 v x _ ha hb).mono ?_
  rintro e w1 ⟨⟨bb, rfl, hbb⟩, rfl⟩
  cases bb with
  | false =>
    clear hbb
    go_wp2
    go_ret
    exact ⟨rfl, Below.refl _ _⟩
  | true =>
    have hsum := hbb rfl
    clear hbb
    go_wp2_with fail
    refine (hasLF_any x _ (by omega)).mono ?_
    rintro e w2 ⟨rfl, rfl⟩
    cases hLF : lfOf x with
    | true =>
      go_wp2
      go_ret
      exact ⟨rfl, Below.refl _ _⟩
    | false =>
      have HLF : Hid (∀ c ∈ x.data.toList, c ≠ 10) := lf_out x hLF
      by_cases hx0 : (0 : Int) < x.size
      · by_cases h13 : (((x[x.size - 1]'(by omega)).toNat : Int) == 13) = true
        · go_wp2
          go_ret
          exact ⟨rfl, Below.refl _ _⟩
        have h13' : (((x[x.size - 1]'(by omega)).toNat : Int) == 13) = false := by simpa using h13
        have HU1 : Hid (unf v (⟨#[32]⟩ ++ x) = if hasBad x then none else some (join v.data.toList (trim x.data.toList), [])) := by
          refine unf_one v x HLF.out ?_
          rw [List.getLast?_eq_getElem?, ← ba_size, List.getElem?_eq_getElem (by rw [← ba_size]; omega)]
          intro e
          apply h13
          have e2 : x[x.size - 1]'(by omega) = 13 := Option.some.inj e
          rw [e2]
          rfl
        clear h13
        go_wp2_with fail
        refine (zzunfold_any v _ _ (by have e : (⟨#[32]⟩ : ByteArray).size = 1 := rfl; rw [ByteArray.size_append, e]; omega)).mono ?_
        rintro e w3 ⟨HUE, hb3⟩
        cases hbad : hasBad x with
        | true =>
          rcases HUE with ⟨HU, rfl⟩ | ⟨a, b, rfl, HU⟩
          · go_wp2_with fail
            refine (zzfield_any x _ (by omega)).mono ?_
            rintro e w4 ⟨(⟨h, rfl⟩ | ⟨h, t, rfl, HT⟩), hb4⟩
            · have hbf := hb3.trans (hb4.mono hb3.size)
              go_wp2
              go_ret
              exact ⟨rfl, hbf⟩
            · rw [hbad] at h; cases h
          · have := HU1.out.symm.trans HU.out
            rw [if_pos hbad] at this
            cases this
        | false =>
          rcases HUE with ⟨HU, rfl⟩ | ⟨a, b, rfl, HU⟩
          · have := HU1.out.symm.trans HU.out
            rw [if_neg (by rw [hbad]; simp)] at this
            cases this
          · have HU2 : Hid (some (join v.data.toList (trim x.data.toList), []) = some (a.data.toList, b.data.toList)) := by
              have := HU1.out.symm.trans HU.out
              rw [if_neg (by rw [hbad]; simp)] at this
              exact this
            have HA : Hid (a.data.toList = join v.data.toList (trim x.data.toList)) := by
              have := HU2.out
              injection this with this
              injection this with h1 h2
              exact h1.symm
            have hbe : b.toList.isEmpty = true := by
              have := HU2.out
              injection this with this
              injection this with h1 h2
              rw [ByteArray.toList_eq, ← h2]
              rfl
            clear HU HU1 HU2
            go_wp2_with fail
            refine (zzfield_any x _ (by omega)).mono ?_
            rintro e w4 ⟨(⟨h, rfl⟩ | ⟨h, t, rfl, HT⟩), hb4⟩
            · rw [hbad] at h; cases h
            have hbf := hb3.trans (hb4.mono hb3.size)
            have hts : t.size ≤ x.size := by rw [ba_size, ba_size, HT.out]; exact trim_len _
            clear hb3 hb4 h
            by_cases hte : t.toList.isEmpty = true
            · have heq : (a.toList == v.toList) = true := by
                rw [ByteArray.toList_eq] at hte
                rw [ByteArray.toList_eq, ByteArray.toList_eq, HA.out, ← HT.out]
                unfold join
                rw [if_pos (List.isEmpty_iff.1 hte)]
                simp
              go_wp2
              go_ret
              exact ⟨rfl, hbf⟩
            have hte' : t.toList.isEmpty = false := by simpa using hte
            have HTN : Hid (t.data.toList ≠ []) := by
              unfold Hid
              rw [ByteArray.toList_eq] at hte
              simpa using hte
            clear hte
            by_cases hve : v.toList.isEmpty = true
            · have heq : (a.toList == t.toList) = true := by
                rw [ByteArray.toList_eq] at hve
                rw [ByteArray.toList_eq, ByteArray.toList_eq, HA.out, ← HT.out]
                unfold join
                rw [if_neg HTN.out, if_pos (List.isEmpty_iff.1 hve)]
                simp
              go_wp2
              go_ret
              exact ⟨rfl, hbf⟩
            have hve' : v.toList.isEmpty = false := by simpa using hve
            have HVN : Hid (v.data.toList ≠ []) := by
              unfold Hid
              rw [ByteArray.toList_eq] at hve
              simpa using hve
            clear hve
            have HEQ : Hid (a.data.toList = v.data.toList ++ 32 :: t.data.toList) := by
              unfold Hid
              rw [HA.out, ← HT.out]
              unfold join
              rw [if_neg HTN.out, if_neg HVN.out]
            have heq : (a.toList == (v ++ ⟨#[32]⟩ ++ t).toList) = true := by
              rw [ByteArray.toList_eq, ByteArray.toList_eq, HEQ.out]
              simp
            go_wp2
            go_ret
            refine ⟨?_, hbf⟩
            first | rfl | exact ret_bool (by rw [ByteArray.toList_eq, HEQ.out]; simp)
      · have HU1 : Hid (unf v (⟨#[32]⟩ ++ x) = if hasBad x then none else some (join v.data.toList (trim x.data.toList), [])) := by
          refine unf_one v x HLF.out ?_
          rw [List.length_eq_zero_iff.1 (by rw [← ba_size]; omega : x.data.toList.length = 0)]
          simp
        go_wp2_with fail
        refine (zzunfold_any v _ _ (by have e : (⟨#[32]⟩ : ByteArray).size = 1 := rfl; rw [ByteArray.size_append, e]; omega)).mono ?_
        rintro e w3 ⟨HUE, hb3⟩
        cases hbad : hasBad x with
        | true =>
          rcases HUE with ⟨HU, rfl⟩ | ⟨a, b, rfl, HU⟩
          · go_wp2_with fail
            refine (zzfield_any x _ (by omega)).mono ?_
            rintro e w4 ⟨(⟨h, rfl⟩ | ⟨h, t, rfl, HT⟩), hb4⟩
            · have hbf := hb3.trans (hb4.mono hb3.size)
              go_wp2
              go_ret
              exact ⟨rfl, hbf⟩
            · rw [hbad] at h; cases h
          · have := HU1.out.symm.trans HU.out
            rw [if_pos hbad] at this
            cases this
        | false =>
          rcases HUE with ⟨HU, rfl⟩ | ⟨a, b, rfl, HU⟩
          · have := HU1.out.symm.trans HU.out
            rw [if_neg (by rw [hbad]; simp)] at this
            cases this
          · have HU2 : Hid (some (join v.data.toList (trim x.data.toList), []) = some (a.data.toList, b.data.toList)) := by
              have := HU1.out.symm.trans HU.out
              rw [if_neg (by rw [hbad]; simp)] at this
              exact this
            have HA : Hid (a.data.toList = join v.data.toList (trim x.data.toList)) := by
              have := HU2.out
              injection this with this
              injection this with h1 h2
              exact h1.symm
            have hbe : b.toList.isEmpty = true := by
              have := HU2.out
              injection this with this
              injection this with h1 h2
              rw [ByteArray.toList_eq, ← h2]
              rfl
            clear HU HU1 HU2
            go_wp2_with fail
            refine (zzfield_any x _ (by omega)).mono ?_
            rintro e w4 ⟨(⟨h, rfl⟩ | ⟨h, t, rfl, HT⟩), hb4⟩
            · rw [hbad] at h; cases h
            have hbf := hb3.trans (hb4.mono hb3.size)
            have hts : t.size ≤ x.size := by rw [ba_size, ba_size, HT.out]; exact trim_len _
            clear hb3 hb4 h
            by_cases hte : t.toList.isEmpty = true
            · have heq : (a.toList == v.toList) = true := by
                rw [ByteArray.toList_eq] at hte
                rw [ByteArray.toList_eq, ByteArray.toList_eq, HA.out, ← HT.out]
                unfold join
                rw [if_pos (List.isEmpty_iff.1 hte)]
                simp
              go_wp2
              go_ret
              exact ⟨rfl, hbf⟩
            have hte' : t.toList.isEmpty = false := by simpa using hte
            have HTN : Hid (t.data.toList ≠ []) := by
              unfold Hid
              rw [ByteArray.toList_eq] at hte
              simpa using hte
            clear hte
            by_cases hve : v.toList.isEmpty = true
            · have heq : (a.toList == t.toList) = true := by
                rw [ByteArray.toList_eq] at hve
                rw [ByteArray.toList_eq, ByteArray.toList_eq, HA.out, ← HT.out]
                unfold join
                rw [if_neg HTN.out, if_pos (List.isEmpty_iff.1 hve)]
                simp
              go_wp2
              go_ret
              exact ⟨rfl, hbf⟩
            have hve' : v.toList.isEmpty = false := by simpa using hve
            have HVN : Hid (v.data.toList ≠ []) := by
              unfold Hid
              rw [ByteArray.toList_eq] at hve
              simpa using hve
            clear hve
            have HEQ : Hid (a.data.toList = v.data.toList ++ 32 :: t.data.toList) := by
              unfold Hid
              rw [HA.out, ← HT.out]
              unfold join
              rw [if_neg HTN.out, if_neg HVN.out]
            have heq : (a.toList == (v ++ ⟨#[32]⟩ ++ t).toList) = true := by
              rw [ByteArray.toList_eq, ByteArray.toList_eq, HEQ.out]
              simp
            go_wp2
            go_ret
            refine ⟨?_, hbf⟩
            first | rfl | exact ret_bool (by rw [ByteArray.toList_eq, HEQ.out]; simp)
end Go.Proofs.Qxb6600698aDoor
