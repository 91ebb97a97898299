/-
  THE SMALL FUNCTIONS OF blocks, WALKED.
-/
import Derived.Test.Qxb6000443aProg
import Derived.WalkKit
import Derived.WalkLawsBesides
import Derived.OpenShut
set_option linter.unusedVariables false
namespace Go.Proofs.Qxb6000443a
open Go.RowKit

/-! ### The delivery flag's two bits -/
def fourWays (x y m : Int) : Bool := (x == 0 && y == 0 && m == 0) || (x == 0 && y == 64 && m == 64) || (x == 32 && y == 0 && m == 32) || (x == 32 && y == 64 && m == 96)

theorem ways_all : ∀ n : Fin 256, fourWays (bits .and .u8 (n.val : Int) 32) (bits .and .u8 (n.val : Int) 64) (bits .and .u8 (n.val : Int) 96) = true := by decide +kernel

theorem ways (d : Int) (h0 : 0 ≤ d) (h1 : d ≤ 255) :
    (bits .and .u8 d 32 = 0 ∧ bits .and .u8 d 64 = 0 ∧ bits .and .u8 d 96 = 0) ∨ (bits .and .u8 d 32 = 0 ∧ bits .and .u8 d 64 = 64 ∧ bits .and .u8 d 96 = 64) ∨
    (bits .and .u8 d 32 = 32 ∧ bits .and .u8 d 64 = 0 ∧ bits .and .u8 d 96 = 32) ∨ (bits .and .u8 d 32 = 32 ∧ bits .and .u8 d 64 = 64 ∧ bits .and .u8 d 96 = 96) := by
  have h := ways_all ⟨d.toNat, by omega⟩
  have e : ((⟨d.toNat, by omega⟩ : Fin 256).val : Int) = d := by show (d.toNat : Int) = d; omega
  rw [e] at h
  simp only [fourWays, Bool.or_eq_true, Bool.and_eq_true, beq_iff_eq] at h
  rcases h with ((h | h) | h) | h
  · exact .inl ⟨h.1.1, h.1.2, h.2⟩
  · exact .inr (.inl ⟨h.1.1, h.1.2, h.2⟩)
  · exact .inr (.inr (.inl ⟨h.1.1, h.1.2, h.2⟩))
  · exact .inr (.inr (.inr ⟨h.1.1, h.1.2, h.2⟩))

set_option maxHeartbeats 400000 in
theorem parts_calls (d : Int) (w : World) (h0 : 0 ≤ d) (h1 : d ≤ 255) :
    Calls Try.prog 4 #[.int .u8 d] w fun e w' => e = .returned (.bool true) ∧ w = w' := by
  rcases ways d h0 h1 with ⟨e1, e2, e3⟩ | ⟨e1, e2, e3⟩ | ⟨e1, e2, e3⟩ | ⟨e1, e2, e3⟩
  all_goals
    go_enter Try.func4, Try.ntmps4
    go_wp2
    go_ret
    exact ⟨rfl, rfl⟩

/-! ### Which types a kind allows -/
/-- Is t one of the five session types? -/
def sess (t : Int) : Bool := t == 4 || t == 6 || t == 7 || t == 8 || t == 9
def allowed (k t : Int) : Bool := !sess t || k == 3

theorem sess_cases (t : Int) : t = 4 ∨ t = 6 ∨ t = 7 ∨ t = 8 ∨ t = 9 ∨ (t ≠ 4 ∧ t ≠ 6 ∧ t ≠ 7 ∧ t ≠ 8 ∧ t ≠ 9) := by omega
theorem sess_no {t : Int} (h : t ≠ 4 ∧ t ≠ 6 ∧ t ≠ 7 ∧ t ≠ 8 ∧ t ≠ 9) : sess t = false := by simp [sess, h]

set_option maxHeartbeats 400000 in
theorem allows_calls (k t : Int) (w : World) : Calls Try.prog 10 #[.int .i64 k, .int .u8 t] w fun e w' => e = .returned (.bool (allowed k t)) ∧ w = w' := by
  rcases sess_cases t with h | h | h | h | h | h
  · subst h
    go_enter Try.func10, Try.ntmps10
    go_wp2
    go_ret
    exact ⟨rfl, rfl⟩
  · subst h
    go_enter Try.func10, Try.ntmps10
    go_wp2
    go_ret
    exact ⟨rfl, rfl⟩
  · subst h
    go_enter Try.func10, Try.ntmps10
    go_wp2
    go_ret
    exact ⟨rfl, rfl⟩
  · subst h
    go_enter Try.func10, Try.ntmps10
    go_wp2
    go_ret
    exact ⟨rfl, rfl⟩
  · subst h
    go_enter Try.func10, Try.ntmps10
    go_wp2
    go_ret
    exact ⟨rfl, rfl⟩
  · have e : allowed k t = true := by simp [allowed, sess_no h]
    rw [e]
    clear e
    obtain ⟨n4, n6, n7, n8, n9⟩ := h
    have b4 : (t == 4) = false := by simpa using n4
    have b6 : (t == 6) = false := by simpa using n6
    have b7 : (t == 7) = false := by simpa using n7
    have b8 : (t == 8) = false := by simpa using n8
    have b9 : (t == 9) = false := by simpa using n9
    clear n4 n6 n7 n8 n9
    go_enter Try.func10, Try.ntmps10
    go_wp2
    go_ret
    exact ⟨rfl, rfl⟩

set_option maxHeartbeats 400000 in
theorem session_calls (t : Int) (w : World) : Calls Try.prog 11 #[.int .u8 t] w fun e w' => e = .returned (.bool (sess t)) ∧ w = w' := by
  rcases sess_cases t with h | h | h | h | h | h
  · subst h
    go_enter Try.func11, Try.ntmps11
    go_wp2
    go_ret
    exact ⟨rfl, rfl⟩
  · subst h
    go_enter Try.func11, Try.ntmps11
    go_wp2
    go_ret
    exact ⟨rfl, rfl⟩
  · subst h
    go_enter Try.func11, Try.ntmps11
    go_wp2
    go_ret
    exact ⟨rfl, rfl⟩
  · subst h
    go_enter Try.func11, Try.ntmps11
    go_wp2
    go_ret
    exact ⟨rfl, rfl⟩
  · subst h
    go_enter Try.func11, Try.ntmps11
    go_wp2
    go_ret
    exact ⟨rfl, rfl⟩
  · rw [sess_no h]
    obtain ⟨n4, n6, n7, n8, n9⟩ := h
    have b4 : (t == 4) = false := by simpa using n4
    have b6 : (t == 6) = false := by simpa using n6
    have b7 : (t == 7) = false := by simpa using n7
    have b8 : (t == 8) = false := by simpa using n8
    have b9 : (t == 9) = false := by simpa using n9
    clear n4 n6 n7 n8 n9
    go_enter Try.func11, Try.ntmps11
    go_wp2
    go_ret
    exact ⟨rfl, rfl⟩

set_option maxHeartbeats 400000 in
theorem existing_calls (t : Int) (w : World) : Calls Try.prog 6 #[.int .u8 t] w fun e w' => e = .returned (.bool true) ∧ w = w' := by
  go_enter Try.func6, Try.ntmps6
  go_wp2_with fail
  refine (allows_calls 3 t w).mono ?_
  rintro e w' ⟨rfl, rfl⟩
  have e : allowed 3 t = true := by simp [allowed]
  rw [e]
  clear e
  go_wp2
  go_ret
  exact ⟨rfl, rfl⟩

end Go.Proofs.Qxb6000443a
