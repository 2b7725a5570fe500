import Derived.Test.Qxb6600698aDoorWalks
namespace Go.Proofs.Qxb6600698aDoor
open Go.Shelf Go.RowKit
set_option linter.unusedVariables false
set_option maxRecDepth 100000

theorem unfoldL_more : ∀ (n m : Nat) (v l : List UInt8), l.length < n → l.length < m → unfoldL n v l = unfoldL m v l :=
  fun n m v l hn hm => (unfold_law n v l hn).trans (unfold_law m v l hm).symm
def unf (v l : ByteArray) : Option (List UInt8 × List UInt8) := unfoldL (l.data.toList.length + 1) v.data.toList l.data.toList
def unfS (wh : List UInt8) (l : ByteArray) : Option (List UInt8 × List UInt8) := unfoldL (l.data.toList.length + 1) wh l.data.toList
theorem unf_stop (wh : List UInt8) (l : ByteArray) (h : starts l.data.toList = false) : unfS wh l = some (wh, l.data.toList) := by
  unfold unfS
  rw [unfoldL, if_neg (by rw [h]; simp)]
theorem unf_bad (wh : List UInt8) (l line : ByteArray) (h : starts l.data.toList = true) (hl : line.data.toList = noCR (lineOf l.data.toList)) (hb : hasBad line = true) : unfS wh l = none := by
  unfold unfS
  unfold hasBad at hb
  rw [unfoldL, if_pos h, ← hl, if_pos hb]
theorem unf_step (wh : List UInt8) (l line rest : ByteArray) (h : starts l.data.toList = true) (hl : line.data.toList = noCR (lineOf l.data.toList)) (hr : rest.data.toList = restOf l.data.toList) (hb : hasBad line = false) :
    unfS wh l = unfS (join wh (trim line.data.toList)) rest := by
  have hne : l.data.toList ≠ [] := fun e => by rw [e] at h; cases h
  have hlen := line_rest_len l.data.toList hne
  unfold unfS
  rw [unfoldL, if_pos h, ← hl, if_neg (by unfold hasBad at hb; rw [hb]; simp), ← hr]
  exact unfoldL_more _ _ _ _ (by rw [hr]; omega) (by omega)
theorem step_sizes (l line rest t : ByteArray) (h : starts l.data.toList = true) (hl : line.data.toList = noCR (lineOf l.data.toList)) (hr : rest.data.toList = restOf l.data.toList) (ht : t.data.toList = trim line.data.toList) :
    t.size + 1 + 2 * rest.size ≤ 2 * l.size ∧ rest.size < l.size ∧ line.size ≤ l.size := by
  have hne : l.data.toList ≠ [] := fun e => by rw [e] at h; cases h
  have h1 := line_rest_len l.data.toList hne
  have h2 := noCR_len (lineOf l.data.toList)
  have h3 := trim_len line.data.toList
  rw [ba_size t, ba_size rest, ba_size l, ba_size line, ht, hr]
  rw [hl] at h3 ⊢
  omega

theorem builder_kept {B b : Nat} {bs : List Value} {w w' : World} (h : Lib.IsBuilder 37 5 B b bs w) (hb : Below w.heap.size w w') : Lib.IsBuilder 37 5 B b bs w' := by
  have key : ∀ p, Lib.BuilderAt 37 5 B b p bs w → Lib.BuilderAt 37 5 B b p bs w' := by
    intro p h
    have hlt := h.lt
    obtain ⟨hB, v, hbk, hown, hne⟩ := h
    refine ⟨hB, v, by rw [hb.block b hlt]; exact hbk, ?_, hne⟩
    exact hown.kept (row := none) ⟨hb.os, hb.tape, hb.output, hb.size, fun k hk _ => hb.block k hk⟩ (by cases h : v.ownBlock with | none => exact Or.inl rfl | some x => exact Or.inr (by simp))
  rcases h with h | h
  · exact Or.inl (key _ h)
  · exact Or.inr (key _ h)

def strLen : Value → Nat | .string u => u.size | _ => 0

set_option maxHeartbeats 4000000 in
theorem unfold_any (v l : ByteArray) (w : World) (hv : v.size + l.size ≤ 1048577) :
    Calls Tryd.prog 22 #[.string v, .string l] w fun e w' => ((Hid (unf v l = none) ∧ e = .returned (.tuple #[.string ⟨#[]⟩, .string ⟨#[]⟩, .bool false])) ∨
      (∃ a b : ByteArray, e = .returned (.tuple #[.string a, .string b, .bool true]) ∧ Hid (unf v l = some (a.data.toList, b.data.toList)))) ∧ Below w.heap.size w w' := by
  have hfresh := Lib.fresh_isBuilder 37 5 w
  go_enter Tryd.func22, Tryd.ntmps22
  go_wp2_with fail
  refine (writeString_any w.heap.size w.heap.size [] v _ hfresh (by simp; omega) (by simp)).mono ?_
  rintro e w1 ⟨rfl, hb1, hbel1⟩
  have hbel : Below w.heap.size w w1 := ((Below.refl _ _).alloc (Nat.le_refl _) _).trans hbel1
  have hz1 : w.heap.size ≤ w1.heap.size := hbel.size
  have HB1 : Lib.IsBuilder 37 5 w.heap.size w.heap.size (Lib.byteCells v.data.toList) w1 := Or.inr (by simpa [Lib.strCells_eq] using hb1)
  clear hfresh hb1 hbel1
  go_wp2_with fail
  go_loopw [1] (fun t wr => ∃ (ln : ByteArray) (wh : List UInt8), t = .string ln ∧ Lib.IsBuilder 37 5 w.heap.size w.heap.size (Lib.byteCells wh) wr ∧ Below w.heap.size w wr ∧ Hid (unfS wh ln = unf v l) ∧ wh.length + 2 * ln.size ≤ 3145731 ∧ ln.size ≤ 1048577) (fun t _ => strLen t)
  case atStart => exact ⟨l, v.data.toList, rfl, HB1, hbel, rfl, by rw [← ba_size]; omega, by omega⟩
  case round =>
    obtain ⟨ln, wh, rfl, HB, hbw, HU, hlen1, hlen2⟩ := hrel
    have hzr : w.heap.size ≤ wr.heap.size := hbw.size
    go_wp2_with fail
    refine (starts_any ln _ hlen2).mono ?_
    rintro e w2 ⟨rfl, rfl⟩
    by_cases hst : starts ln.data.toList = true
    · have HST : Hid (starts ln.data.toList = true) := hst
      go_wp2_with fail
      refine (nextLine_any ln _ hlen2).mono ?_
      rintro e w3 ⟨⟨line, rest, rfl, HL, HR⟩, hb3⟩
      have HB3 := builder_kept HB hb3
      have hbw3 := hbw.trans (hb3.mono hzr)
      have hz3 : w.heap.size ≤ w3.heap.size := hbw3.size
      have hls : line.size ≤ 1048577 := by
        have := step_sizes ln line rest ⟨(trim line.data.toList).toArray⟩ HST.out HL.out HR.out rfl
        omega
      clear HB hb3 hbw hzr
      go_wp2_with fail
      refine (fieldValue_any line _ hls).mono ?_
      rintro e w4 ⟨(⟨hbad, rfl⟩ | ⟨hbad, t, rfl, HT⟩), hb4⟩
      · have HF : Hid (unf v l = none) := HU.out.symm.trans (unf_bad wh ln line HST.out HL.out hbad)
        have hbw4 := hbw3.trans (hb4.mono hz3)
        clear HB3 HU HL HR hbad
        go_wp2
        go_ret3
        exact ⟨Or.inl ⟨HF, rfl⟩, hbw4⟩
      · have HB4 := builder_kept HB3 hb4
        have hbw4 := hbw3.trans (hb4.mono hz3)
        have hz4 : w.heap.size ≤ w4.heap.size := hbw4.size
        have HS : Hid (unfS (join wh t.data.toList) rest = unf v l) := by
          unfold Hid
          rw [HT.out, ← unf_step wh ln line rest HST.out HL.out HR.out hbad]
          exact HU.out
        have hsz := step_sizes ln line rest t HST.out HL.out HR.out HT.out
        clear HB3 hb4 hbw3 hz3 HL HR hbad HU HST hst
        by_cases hte : t.toList.isEmpty = true
        · have HJ : Hid (join wh t.data.toList = wh) := by
            unfold Hid join
            rw [ByteArray.toList_eq] at hte
            rw [if_pos (List.isEmpty_iff.1 hte)]
          go_wp2
          go_roundw
          case rel => exact ⟨rest, wh, rfl, HB4, hbw4, by have := HS.out; rw [HJ.out] at this; exact this, by omega, by omega⟩
          case measure => simp [strLen]; omega
        · have hte' : t.toList.isEmpty = false := by simpa using hte
          have HTN : Hid (t.data.toList ≠ []) := by
            unfold Hid
            rw [ByteArray.toList_eq] at hte
            simpa using hte
          clear hte
          go_wp2_with fail
          refine (Tryd.Builder_Len w.heap.size w.heap.size _ _ HB4).mono ?_
          rintro e w5 ⟨rfl, rfl⟩
          rw [Lib.byteCells_length]
          by_cases hwl : (0 : Int) < wh.length
          · have HJ : Hid (join wh t.data.toList = wh ++ 32 :: t.data.toList) := by
              unfold Hid join
              rw [if_neg HTN.out, if_neg (fun e => by rw [e] at hwl; simp at hwl)]
            go_wp2_with fail
            refine (writeByte_any w.heap.size w.heap.size _ 32 _ HB4 (by rw [Lib.byteCells_length]; omega) hz4).mono ?_
            rintro e w6 ⟨rfl, hB6, hb6⟩
            have hbw6 := hbw4.trans hb6
            have hz6 : w.heap.size ≤ w6.heap.size := hbw6.size
            have HB6 : Lib.IsBuilder 37 5 w.heap.size w.heap.size (Lib.byteCells (wh ++ [32])) w6 := Or.inr (by rw [Lib.byteCells_append]; exact hB6)
            clear HB4 hB6 hb6 hbw4 hz4
            go_wp2_with fail
            refine (writeString_any w.heap.size w.heap.size _ t _ HB6 (by rw [Lib.byteCells_length]; simp; omega) hz6).mono ?_
            rintro e w7 ⟨rfl, hB7, hb7⟩
            have hbw7 := hbw6.trans hb7
            have HB7 : Lib.IsBuilder 37 5 w.heap.size w.heap.size (Lib.byteCells (wh ++ 32 :: t.data.toList)) w7 := Or.inr (by
              rw [Lib.strCells_eq, ← Lib.byteCells_append, List.append_assoc] at hB7
              exact hB7)
            clear HB6 hB7 hb7 hbw6 hz6
            go_wp2
            go_roundw
            case rel => exact ⟨rest, wh ++ 32 :: t.data.toList, rfl, HB7, hbw7, by have := HS.out; rw [HJ.out] at this; exact this, by rw [List.length_append, List.length_cons, ← ba_size]; omega, by omega⟩
            case measure => simp [strLen]; omega
          · have HJ : Hid (join wh t.data.toList = t.data.toList) := by
              unfold Hid join
              rw [if_neg HTN.out, if_pos (List.length_eq_zero_iff.1 (by omega))]
            have HWN : Hid (wh = []) := List.length_eq_zero_iff.1 (by omega)
            go_wp2_with fail
            refine (writeString_any w.heap.size w.heap.size _ t _ HB4 (by rw [Lib.byteCells_length]; omega) hz4).mono ?_
            rintro e w7 ⟨rfl, hB7, hb7⟩
            have hbw7 := hbw4.trans hb7
            have HB7 : Lib.IsBuilder 37 5 w.heap.size w.heap.size (Lib.byteCells t.data.toList) w7 := Or.inr (by
              rw [Lib.strCells_eq, ← Lib.byteCells_append, HWN.out] at hB7
              exact hB7)
            clear HB4 hB7 hb7 hbw4 hz4
            go_wp2
            go_roundw
            case rel => exact ⟨rest, t.data.toList, rfl, HB7, hbw7, by have := HS.out; rw [HJ.out] at this; exact this, by rw [← ba_size]; omega, by omega⟩
            case measure => simp [strLen]; omega
    · have hst' : starts ln.data.toList = false := by simpa using hst
      have HF : Hid (unf v l = some (wh, ln.data.toList)) := HU.out.symm.trans (unf_stop wh ln hst')
      clear hst HU
      go_wp2_with fail
      refine (Tryd.Builder_String_any w.heap.size w.heap.size wh _ HB hzr).mono ?_
      rintro e w5 ⟨rfl, hb5⟩
      have hbw5 := hbw.trans hb5
      clear HB hb5 hbw
      go_wp2
      go_ret3
      exact ⟨Or.inr ⟨⟨wh.toArray⟩, ln, rfl, HF⟩, hbw5⟩
end Go.Proofs.Qxb6600698aDoor
