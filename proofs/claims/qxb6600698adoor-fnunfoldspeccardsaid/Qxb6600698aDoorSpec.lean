import Derived.Test.Qxb6600698aDoorModel2
import Derived.Test.Qxb6600698aDoorOne
namespace Go.Proofs.Qxb6600698aDoor
open Go.Shelf Go.RowKit
set_option linter.unusedVariables false
set_option maxRecDepth 100000

theorem unf_mdl (v l : ByteArray) : unf v l = mdl v l := unfold_law _ _ _ (by omega)

set_option maxHeartbeats 4000000 in
theorem law5 (v l : ByteArray) (w : World) (ha : v.size ≤ maxLen) (hb : l.size ≤ maxLen) :
    Calls Tryd.prog 5 #[.string v, .string l] w fun e w' => e = .returned (.bool true) ∧ Below w.heap.size w w' := by
  go_enter Tryd.func5, Tryd.ntmps5
  go_wp2_with fail
  refine (zz12 v l _ ha hb).mono ?_
  rintro e w1 ⟨⟨bb, rfl, hbb⟩, rfl⟩
  cases bb with
  | false =>
    clear hbb
    go_wp2
    go_ret
    exact ⟨rfl, Below.refl _ _⟩
  | true =>
    have hsum := hbb rfl
    clear hbb
    go_wp2_with fail
    refine (zzunfold_any v l _ (by omega)).mono ?_
    rintro e w2 ⟨HUE, hb2⟩
    rcases HUE with ⟨HU, rfl⟩ | ⟨a, b, rfl, HU⟩
    · go_wp2_with fail
      refine (model_any v l _ (by omega)).mono ?_
      rintro e w3 ⟨HME, hb3⟩
      have hbf := hb2.trans (hb3.mono hb2.size)
      rcases HME with ⟨HM, rfl⟩ | ⟨c, d, rfl, HM⟩
      · go_wp2
        go_ret
        exact ⟨rfl, hbf⟩
      · have := HU.out.symm.trans ((unf_mdl v l).trans HM.out)
        cases this
    · go_wp2_with fail
      refine (model_any v l _ (by omega)).mono ?_
      rintro e w3 ⟨HME, hb3⟩
      have hbf := hb2.trans (hb3.mono hb2.size)
      rcases HME with ⟨HM, rfl⟩ | ⟨c, d, rfl, HM⟩
      · have := HU.out.symm.trans ((unf_mdl v l).trans HM.out)
        cases this
      · have h := HU.out.symm.trans ((unf_mdl v l).trans HM.out)
        injection h with h
        injection h with h1 h2
        have e1 : (a.toList == c.toList) = true := by rw [ByteArray.toList_eq, ByteArray.toList_eq, h1]; simp
        have e2 : (b.toList == d.toList) = true := by rw [ByteArray.toList_eq, ByteArray.toList_eq, h2]; simp
        clear h1 h2 HU HM
        go_wp2
        go_ret
        exact ⟨rfl, hbf⟩
end Go.Proofs.Qxb6600698aDoor
