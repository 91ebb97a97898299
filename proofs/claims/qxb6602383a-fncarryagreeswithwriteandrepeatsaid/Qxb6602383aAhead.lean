/-
  sameStateAhead.
-/
import Derived.Test.Qxb6602383aOutside
import Derived.Test.Qxb6602383aAux
set_option linter.unusedVariables false
namespace Go.Proofs.Qxb6602383a
open Go.RowKit

set_option maxRecDepth 100000 in
set_option maxHeartbeats 2000000 in
theorem stateAhead_calls (w : World) (b1 bb1 b2 bb2 L : Nat) (z : Int) (q : Nat) (u l t y : Int) (g m : List Int) (H1 : IsWin w b1 bb1 L z q u l t y) (H2 : IsWin w b2 bb2 L z q u l t y) (h1 : IsBytes w bb1 g) (h2 : IsBytes w bb2 m) (hA : Ring.Agree L q g m) (hL : L ≤ 1048576) (hq : q < L) :
    Calls Try.prog 33 #[.pointer (some ⟨b1, 0, none⟩), .pointer (some ⟨b2, 0, none⟩)] w fun e w' => e = .returned (.bool true) ∧ ∃ n, w' = w.drewN n := by
  go_enter Try.func33, Try.ntmps33
  go_wp2_with fail
  refine (state_calls _ _ _ _ _ _ _ _ _ _ H1).mono ?_
  rintro e w1 ⟨rfl, n1, rfl⟩
  go_wp2_with fail
  refine (state_calls _ _ _ _ _ _ _ _ _ _ (H2.drewN n1)).mono ?_
  rintro e w2 ⟨rfl, n2, rfl⟩
  go_wp2_with fail
  refine (sameOutside_calls bb1 bb2 L q g m _ (h1.drewN _) (h2.drewN _) hA hL hq).mono ?_
  rintro e w3 ⟨rfl, n3, rfl⟩
  go_wp2
  go_ret
  exact ⟨rfl, _, rfl⟩

end Go.Proofs.Qxb6602383a
