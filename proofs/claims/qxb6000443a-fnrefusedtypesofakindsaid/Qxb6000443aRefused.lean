/-
  FnRefusedTypesOfAKind, WALKED.
-/
import Derived.Test.Qxb6000443aWalks
set_option linter.unusedVariables false
namespace Go.Proofs.Qxb6000443a
open Go.RowKit

/-- How many session types lie below k. -/
def cnt (k : Nat) : Nat := (if 4 < k then 1 else 0) + (if 6 < k then 1 else 0) + (if 7 < k then 1 else 0) + (if 8 < k then 1 else 0) + (if 9 < k then 1 else 0)

theorem cnt_le (k : Nat) : cnt k ≤ 5 := by unfold cnt; split <;> split <;> split <;> split <;> split <;> omega
theorem cnt_end : cnt 256 = 5 := by decide
theorem cnt_yes {k : Nat} (h : sess (k : Int) = true) : cnt (k + 1) = cnt k + 1 := by
  simp only [sess, Bool.or_eq_true, beq_iff_eq] at h
  have hk : k = 4 ∨ k = 6 ∨ k = 7 ∨ k = 8 ∨ k = 9 := by omega
  rcases hk with rfl | rfl | rfl | rfl | rfl <;> decide
theorem cnt_no {k : Nat} (h : sess (k : Int) = false) : cnt (k + 1) = cnt k := by
  simp only [sess, Bool.or_eq_false_iff, beq_eq_false_iff_ne] at h
  unfold cnt
  obtain ⟨⟨⟨⟨h4, h6⟩, h7⟩, h8⟩, h9⟩ := h
  have e : ∀ j : Nat, j ≠ k → (if j < k + 1 then 1 else 0) = (if j < k then 1 else (0 : Nat)) := by
    intro j hj
    by_cases h : j < k
    · rw [if_pos h, if_pos (by omega)]
    · rw [if_neg h, if_neg (by omega)]
  rw [e 4 (by omega), e 6 (by omega), e 7 (by omega), e 8 (by omega), e 9 (by omega)]

set_option maxRecDepth 100000 in
set_option maxHeartbeats 1000000 in
theorem refused_existing (w : World) : Calls Try.prog 8 #[.int .i64 3] w fun e w' => e = .returned (.bool true) ∧ w = w' := by
  go_enter Try.func8, Try.ntmps8
  go_wp2_with fail
  go_loopw [4, 5, 6] (fun v4 v5 v6 wr => ∃ k : Nat, w = wr ∧ k ≤ 256 ∧ v4 = .int .i64 0 ∧ v5 = .int .i64 0 ∧ v6 = .int .i64 k) (fun _ _ v6 _ => 256 - (intOf v6).toNat)
  case atStart => exact ⟨0, rfl, Nat.zero_le _, rfl, rfl, rfl⟩
  case round =>
    obtain ⟨k, rfl, hk, rfl, rfl, rfl⟩ := hrel
    by_cases hlt : k < 256
    · go_wp2_with fail
      refine (allows_calls 3 _ _).mono ?_
      rintro e w' ⟨rfl, rfl⟩
      have e : allowed 3 (k : Int) = true := by simp [allowed]
      rw [e]
      clear e
      go_wp2
      go_roundw
      case rel => exact ⟨k + 1, trivial, by omega, rfl, rfl, by go_num⟩
      case measure => simp [intOf]; omega
    · go_wp2
      go_ret
      exact ⟨rfl, rfl⟩

set_option maxRecDepth 100000 in
set_option maxHeartbeats 1000000 in
theorem refused_other (kind : Int) (w : World) (hne : (kind == 3) = false) : Calls Try.prog 8 #[.int .i64 kind] w fun e w' => e = .returned (.bool true) ∧ w = w' := by
  go_enter Try.func8, Try.ntmps8
  go_wp2_with fail
  go_loopw [4, 5, 6] (fun v4 v5 v6 wr => ∃ k c : Nat, w = wr ∧ k ≤ 256 ∧ c ≤ 5 ∧ v4 = .int .i64 c ∧ v5 = .int .i64 c ∧ v6 = .int .i64 k ∧ Hid (c = cnt k)) (fun _ _ v6 _ => 256 - (intOf v6).toNat)
  case atStart => exact ⟨0, 0, rfl, Nat.zero_le _, Nat.zero_le _, rfl, rfl, rfl, rfl⟩
  case round =>
    obtain ⟨k, c, rfl, hk, hc, rfl, rfl, rfl, HC⟩ := hrel
    by_cases hlt : k < 256
    · cases hs : sess (k : Int) with
      | true =>
        have HS : Hid (sess (k : Int) = true) := hs
        clear hs
        have hc1 : c + 1 ≤ 5 := by have := cnt_le (k + 1); rw [cnt_yes HS.out, ← HC.out] at this; exact this
        go_wp2_with fail
        refine (allows_calls kind _ _).mono ?_
        rintro e w' ⟨rfl, rfl⟩
        have e : allowed kind (k : Int) = false := by simp [allowed, HS.out, hne]
        rw [e]
        clear e
        go_wp2_with fail
        refine (session_calls _ _).mono ?_
        rintro e w' ⟨rfl, rfl⟩
        rw [HS.out]
        go_wp2
        go_roundw
        case rel => exact ⟨k + 1, c + 1, trivial, by omega, hc1, by go_num, by go_num, by go_num, by show _ = _; rw [cnt_yes HS.out, HC.out]⟩
        case measure => simp [intOf]; omega
      | false =>
        have HS : Hid (sess (k : Int) = false) := hs
        clear hs
        go_wp2_with fail
        refine (allows_calls kind _ _).mono ?_
        rintro e w' ⟨rfl, rfl⟩
        have e : allowed kind (k : Int) = true := by simp [allowed, HS.out]
        rw [e]
        clear e
        go_wp2
        go_roundw
        case rel => exact ⟨k + 1, c, trivial, by omega, hc, rfl, rfl, by go_num, by show _ = _; rw [cnt_no HS.out, HC.out]⟩
        case measure => simp [intOf]; omega
    · have hc5 : c = 5 := by rw [HC.out, show k = 256 by omega]; exact cnt_end
      subst hc5
      go_wp2
      go_ret
      exact ⟨rfl, rfl⟩

theorem refused_calls (kind : Int) (w : World) : Calls Try.prog 8 #[.int .i64 kind] w fun e w' => e = .returned (.bool true) ∧ w = w' := by
  by_cases h : kind = 3
  · subst h; exact refused_existing w
  · exact refused_other kind w (by simpa using h)

end Go.Proofs.Qxb6000443a
