/-
  sameOutside.
-/
import Derived.Test.Qxb6602383aModel
set_option linter.unusedVariables false
namespace Go.Proofs.Qxb6602383a
open Go.RowKit

set_option maxRecDepth 100000 in
set_option maxHeartbeats 2000000 in
theorem sameOutside_calls (b1 b2 L p : Nat) (g m : List Int) (w : World) (h1 : IsBytes w b1 g) (h2 : IsBytes w b2 m) (hA : Ring.Agree L p g m) (hL : L ≤ 1048576) (hp : p < L) :
    Calls Try.prog 27 #[.slice (some ⟨b1, 0, none⟩) L L, .slice (some ⟨b2, 0, none⟩) L L, .int .i64 p] w fun e w' => e = .returned (.bool true) ∧ ∃ n, w' = w.drewN n := by
  have HA : Hid (Ring.Agree L p g m) := hA
  clear hA
  go_enter Try.func27, Try.ntmps27
  go_wp2_with fail
  go_loopw [8] (fun v8 wr => ∃ q n : Nat, wr = w.drewN n ∧ q ≤ L ∧ v8 = .int .i64 q) (fun v8 _ => L - (intOf v8).toNat)
  case atStart => exact ⟨0, 0, rfl, Nat.zero_le _, rfl⟩
  case round =>
    obtain ⟨q, n, rfl, hq, rfl⟩ := hrel
    by_cases hlt : q < L
    · obtain ⟨d, hd⟩ : ∃ d, d = Ring.dist L p q := ⟨_, rfl⟩
      have hdL : d < L := by rw [hd]; unfold Ring.dist; split <;> omega
      have e1 := h1.cell q (by have := HA.out.1; omega)
      have e2 := h2.cell q (by have := HA.out.2.1; omega)
      obtain ⟨x, hx⟩ : ∃ x, x = g.getD q 0 := ⟨_, rfl⟩
      obtain ⟨x', hx'⟩ : ∃ x', x' = m.getD q 0 := ⟨_, rfl⟩
      rw [← hx] at e1
      rw [← hx'] at e2
      have HX : Hid (16 ≤ d → x = x') := fun h => by rw [hx, hx']; exact HA.out.2.2 q hlt (by rw [← hd]; exact h)
      have HD : Hid (d = Ring.dist L p q) := hd
      clear hx hx' hd
      go_upto_if 26 with fail
      go_cut [9] (fun v9 wx => v9 = .int .i64 d ∧ wx = w.drewN n)
      case first =>
        by_cases hqp : q < p
        · go_wp2
          go_meet
          case rel => exact ⟨by rw [show (d : Int) = (q : Int) - p + L by rw [HD.out]; unfold Ring.dist; rw [if_pos hqp]; omega], rfl⟩
        · go_wp2
          go_meet
          case rel => exact ⟨by rw [show (d : Int) = (q : Int) - p by rw [HD.out]; unfold Ring.dist; rw [if_neg hqp]; omega], rfl⟩
      case rest =>
        obtain ⟨rfl, rfl⟩ := hcut
        by_cases h16 : d < 16
        · go_wp2
          go_roundw
          case rel => exact ⟨q + 1, n, rfl, by omega, by go_num⟩
          case measure => simp [intOf]; omega
        · have hxx := HX.out (by omega)
          subst hxx
          go_wp2
          go_quiet (fail)
          go_wp2
          go_roundw
          case rel => exact ⟨q + 1, _, rfl, by omega, by go_num⟩
          case measure => simp [intOf]; omega
    · go_wp2
      go_ret
      exact ⟨rfl, _, rfl⟩

end Go.Proofs.Qxb6602383a
