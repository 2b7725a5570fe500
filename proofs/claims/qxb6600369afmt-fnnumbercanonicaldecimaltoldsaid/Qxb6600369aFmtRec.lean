import Derived.Test.Qxb6600369aFmtBase
import Derived.Maps.OwnSet
namespace Go.Proofs.Qxb6600369aFmt
open Go.RowKit Go.Maps

def placeV (fn : ByteArray) (len dec off : Int) : Value := .agg #[.string fn, .int .u8 78, .int .i64 len, .int .i64 dec, .int .i64 off, .int .i64 0]
def oneMap (nm fn : ByteArray) (len dec off : Int) : Obj := .map #[{ key := .string nm, val := placeV fn len dec off, born := 0 }] 1

theorem keyed9 : Keyed Tryf.prog 9 := string_keyed Tryf.underlying9

theorem run_insert_fresh (W : World) (b : Nat) (hb : W.heap.size = b) (nm : ByteArray) (hn : nm.size ≤ maxLen) (v : Value) :
    (Instr.mapUpdate 24 (.map (some b)) (.string nm) v).run Tryf.prog (W.alloc (.map #[] 0)) = .ok () (W.alloc (.map #[{ key := .string nm, val := v, born := 0 }] 1)) := by
  subst hb
  have hkey := WideMaps.keyOf_string_mk (P := Tryf.prog) Tryf.underlying9 hn
  have hblk : (W.alloc (.map #[] 0)).heap[W.heap.size]? = some (.map #[] 0) := (MapKept.heap_alloc W _).1
  rcases keyed9.find (W.alloc (.map #[] 0)) hkey [] (by simp) with ⟨h1, _⟩ | ⟨j, e0, _, h2, _⟩
  · have hset : (W.alloc (.map #[] 0)).heap.setIfInBounds W.heap.size (.map #[{ key := .string nm, val := v, born := 0 }] 1) = W.heap.push (.map #[{ key := .string nm, val := v, born := 0 }] 1) := by
      show (W.heap.push (.map #[] 0)).setIfInBounds W.heap.size _ = _
      apply Array.ext_getElem?
      intro i
      simp only [Array.getElem?_setIfInBounds, Array.getElem?_push, Array.size_push]
      by_cases hi : i = W.heap.size
      · subst hi; simp
      · have hi' : ¬ W.heap.size = i := fun e => hi e.symm
        simp [hi, hi']
    simp [Instr.mapUpdate, run_underlying Tryf.underlying24, MapKept.run_getObj_map hblk, keyed9.check _ false hkey, h1, MapKept.run_setObj_map _ hblk, Result.andThen, hset]
    rfl
  · simp at h2

theorem run_look_same (W : World) (b : Nat) (nm fn : ByteArray) (len dec off : Int) (hn : nm.size ≤ maxLen) (hb : W.heap[b]? = some (oneMap nm fn len dec off)) :
    (Instr.lookup 24 (.map (some b)) (.string nm) true).run Tryf.prog W = .ok (.tuple #[placeV fn len dec off, .bool true]) W := by
  have hkey := WideMaps.keyOf_string_mk (P := Tryf.prog) Tryf.underlying9 hn
  unfold oneMap at hb
  rcases keyed9.find W hkey [{ key := .string nm, val := placeV fn len dec off, born := 0 }] (by simp [hkey]) with ⟨_, h2⟩ | ⟨j, e0, h1, h2, _⟩
  · exact absurd rfl (h2 _ (List.mem_singleton.2 rfl))
  · have : e0 = { key := .string nm, val := placeV fn len dec off, born := 0 } := by
      have := List.mem_of_getElem? h2
      simpa using this
    subst this
    simp [Instr.lookup, run_underlying Tryf.underlying24, MapKept.run_getObj_map hb, keyed9.check _ _ hkey, h1, Result.andThen]

theorem new_block {W : World} {n : Nat} (h : W.heap.size = n) (o : Obj) : (W.alloc o).heap[n]? = some o := h ▸ (MapKept.heap_alloc W o).1

theorem run_look_other (W : World) (b : Nat) (nm fn ot : ByteArray) (len dec off : Int) (hn : nm.size ≤ maxLen) (ho : ot.size ≤ maxLen) (hne : ot ≠ nm) (hb : W.heap[b]? = some (oneMap nm fn len dec off)) :
    (Instr.lookup 24 (.map (some b)) (.string ot) true).run Tryf.prog W = .ok (.tuple #[.agg #[.string ⟨#[]⟩, .int .u8 0, .int .i64 0, .int .i64 0, .int .i64 0, .int .i64 0], .bool false]) W := by
  have hkey := WideMaps.keyOf_string_mk (P := Tryf.prog) Tryf.underlying9 ho
  have hkey' := WideMaps.keyOf_string_mk (P := Tryf.prog) Tryf.underlying9 hn
  unfold oneMap at hb
  rcases keyed9.find W hkey [{ key := .string nm, val := placeV fn len dec off, born := 0 }] (by simp [hkey']) with ⟨h1, _⟩ | ⟨j, e0, h1, h2, h3⟩
  · simp [Instr.lookup, run_underlying Tryf.underlying24, MapKept.run_getObj_map hb, keyed9.check _ _ hkey, h1, Result.andThen]
  · have : e0 = { key := .string nm, val := placeV fn len dec off, born := 0 } := by
      have := List.mem_of_getElem? h2
      simpa using this
    subst this
    exact absurd (by simpa using h3.symm) hne

set_option maxHeartbeats 400000 in
theorem numberField_any (nm : ByteArray) (len dec : Int) (w : World) :
    Calls Tryf.prog 9 #[.string nm, .int .i64 len, .int .i64 dec] w fun e w' => e = .returned (.agg #[.string nm, .int .u8 78, .int .i64 len, .int .i64 dec]) ∧ Below w.heap.size w w' := by
  go_enter Tryf.func9, Tryf.ntmps9
  go_wp2
  exact bodyPost_ret (v := .agg #[.string nm, .int .u8 78, .int .i64 len, .int .i64 dec]) (by simp [results, Tryf.results9, go_sem]) rfl ⟨rfl, (Below.refl _ _).alloc (Nat.le_refl _) _⟩

set_option maxHeartbeats 400000 in
theorem record_any (data nm fn : ByteArray) (len dec off : Int) (w : World) (hn : nm.size ≤ maxLen) :
    Calls Tryf.prog 8 #[.string data, .string nm, .agg #[.string fn, .int .u8 78, .int .i64 len, .int .i64 dec], .int .i64 off] w fun e w' =>
      ∃ b, e = .returned (.agg #[.int .i64 0, .string data, .map (some b)]) ∧ w'.heap[b]? = some (oneMap nm fn len dec off) ∧ Below w.heap.size w w' := by
  have hmm := @run_makeMap Tryf.prog
  have hin := fun W b hb v => run_insert_fresh W b hb nm hn v
  go_enter Tryf.func8, Tryf.ntmps8
  go_wp2
  refine bodyPost_ret (v := .agg #[.int .i64 0, .string data, .map (some (w.heap.size + 1 + 1))]) (by simp [results, Tryf.results8, go_sem]) rfl ⟨_, rfl, ?_, ?_⟩
  · exact new_block (by simp) _
  · exact (((Below.refl _ _).alloc (Nat.le_refl _) _).alloc (by simp) _).alloc (by simp; omega) _

set_option maxHeartbeats 400000 in
theorem value_other (data nm fn ot : ByteArray) (len dec off : Int) (b : Nat) (w : World) (hn : nm.size ≤ maxLen) (ho : ot.size ≤ maxLen) (hne : ot ≠ nm) (hb : w.heap[b]? = some (oneMap nm fn len dec off)) :
    Calls Tryf.prog 17 #[.agg #[.int .i64 0, .string data, .map (some b)], .string ot] w fun e w' => e = .returned (.string ⟨#[]⟩) ∧ Below w.heap.size w w' := by
  have hlt : b < w.heap.size := by
    rcases Nat.lt_or_ge b w.heap.size with h | h
    · exact h
    · rw [Array.getElem?_eq_none h] at hb; cases hb
  have hl : ∀ o, (Instr.lookup 24 (.map (some b)) (.string ot) true).run Tryf.prog (w.alloc o) = .ok (.tuple #[.agg #[.string ⟨#[]⟩, .int .u8 0, .int .i64 0, .int .i64 0, .int .i64 0, .int .i64 0], .bool false]) (w.alloc o) :=
    fun o => run_look_other _ b nm fn ot len dec off hn ho hne (by rw [Below.heap_alloc _ _ _ hlt]; exact hb)
  clear hb
  go_enter Tryf.func17, Tryf.ntmps17
  go_wp2
  go_ret
  exact ⟨rfl, ((Below.refl _ _).alloc (Nat.le_refl _) _).alloc (by simp) _⟩

set_option maxHeartbeats 400000 in
theorem value_same (data nm fn : ByteArray) (len dec off : Nat) (b : Nat) (w : World) (hn : nm.size ≤ maxLen) (hb : w.heap[b]? = some (oneMap nm fn len dec off)) (hd : data.size ≤ 1048576) (hlen : off + len ≤ data.size) :
    Calls Tryf.prog 17 #[.agg #[.int .i64 0, .string data, .map (some b)], .string nm] w fun e w' => e = .returned (.string (data.extract off (off + len))) ∧ Below w.heap.size w w' := by
  have hlt : b < w.heap.size := by
    rcases Nat.lt_or_ge b w.heap.size with h | h
    · exact h
    · rw [Array.getElem?_eq_none h] at hb; cases hb
  have hl : ∀ o, (Instr.lookup 24 (.map (some b)) (.string nm) true).run Tryf.prog (w.alloc o) = .ok (.tuple #[.agg #[.string fn, .int .u8 78, .int .i64 len, .int .i64 dec, .int .i64 off, .int .i64 0], .bool true]) (w.alloc o) :=
    fun o => run_look_same _ b nm fn len dec off hn (by rw [Below.heap_alloc _ _ _ hlt]; exact hb)
  clear hb
  go_enter Tryf.func17, Tryf.ntmps17
  go_wp2
  go_ret
  exact ⟨rfl, ((Below.refl _ _).alloc (Nat.le_refl _) _).alloc (by simp) _⟩
end Go.Proofs.Qxb6600369aFmt
