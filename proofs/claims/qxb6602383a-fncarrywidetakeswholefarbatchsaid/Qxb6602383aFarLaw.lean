/-
  FnCarryWideTakesWholeFarBatch, WALKED OUT OF CONTRACTS.
-/
import Derived.Test.Qxb6602383aFarMain
set_option linter.unusedVariables false
namespace Go.Proofs.Qxb6602383a
open Go.RowKit

set_option maxRecDepth 100000 in
set_option maxHeartbeats 1000000 in
theorem far_out0 (a0 : Option Addr) (n0 c0 : Nat) (z P u l t y : Int) (sa : Option Addr) (slen scap : Nat) (la : Option Addr) (nl lcap : Nat) (w : World) (m0 : (n0 : Int) ≤ 9223372036854775807) (m2 : (slen : Int) ≤ 9223372036854775807) (m3 : (nl : Int) ≤ 9223372036854775807)  (hbad : 1048576 < (n0 : Int) + slen + nl) :
    Calls Try.prog 6 #[.slice a0 n0 c0, .int .i64 z, .int .i64 P, .int .i64 u, .int .i64 l, .int .i64 t, .int .i64 y, .slice sa slen scap, .slice la nl lcap] w fun e w' => e = .returned (.bool true) ∧ Below w.heap.size w w' := by
  have hdec : decide (n0 + slen + nl ≤ 1048576) = false := decide_eq_false (by omega)
  go_enter Try.func6, Try.ntmps6
  go_wp2_with (go_at_call 28; refine (zz28_calls _ _ _ _ _ _ _ _ _ _ _ _ _ _ _ _ (by omega) (by omega) (by omega)).mono ?_; rintro e w' ⟨rfl, rfl⟩)
  go_ret
  exact ⟨rfl, Below.refl _ _⟩

set_option maxRecDepth 100000 in
set_option maxHeartbeats 1000000 in
theorem far_out1 (a0 : Option Addr) (n0 c0 : Nat) (z P u l t y : Int) (sa : Option Addr) (slen scap : Nat) (la : Option Addr) (nl lcap : Nat) (w : World) (m0 : (n0 : Int) ≤ 9223372036854775807) (m2 : (slen : Int) ≤ 9223372036854775807) (m3 : (nl : Int) ≤ 9223372036854775807) (g0 : ¬ 1048576 < (n0 : Int) + slen + nl) (hbad : 524288 < (n0 : Int)) :
    Calls Try.prog 6 #[.slice a0 n0 c0, .int .i64 z, .int .i64 P, .int .i64 u, .int .i64 l, .int .i64 t, .int .i64 y, .slice sa slen scap, .slice la nl lcap] w fun e w' => e = .returned (.bool true) ∧ Below w.heap.size w w' := by
  have hdec : decide (n0 + slen + nl ≤ 1048576) = true := decide_eq_true (by omega)
  go_enter Try.func6, Try.ntmps6
  go_wp2_with (go_at_call 28; refine (zz28_calls _ _ _ _ _ _ _ _ _ _ _ _ _ _ _ _ (by omega) (by omega) (by omega)).mono ?_; rintro e w' ⟨rfl, rfl⟩)
  go_ret
  exact ⟨rfl, Below.refl _ _⟩

set_option maxRecDepth 100000 in
set_option maxHeartbeats 1000000 in
theorem far_out2 (a0 : Option Addr) (n0 c0 : Nat) (z P u l t y : Int) (sa : Option Addr) (slen scap : Nat) (la : Option Addr) (nl lcap : Nat) (w : World) (m0 : (n0 : Int) ≤ 9223372036854775807) (m2 : (slen : Int) ≤ 9223372036854775807) (m3 : (nl : Int) ≤ 9223372036854775807) (g0 : ¬ 1048576 < (n0 : Int) + slen + nl) (g1 : ¬ 524288 < (n0 : Int)) (hbad : 262144 < (nl : Int)) :
    Calls Try.prog 6 #[.slice a0 n0 c0, .int .i64 z, .int .i64 P, .int .i64 u, .int .i64 l, .int .i64 t, .int .i64 y, .slice sa slen scap, .slice la nl lcap] w fun e w' => e = .returned (.bool true) ∧ Below w.heap.size w w' := by
  have hdec : decide (n0 + slen + nl ≤ 1048576) = true := decide_eq_true (by omega)
  go_enter Try.func6, Try.ntmps6
  go_wp2_with (go_at_call 28; refine (zz28_calls _ _ _ _ _ _ _ _ _ _ _ _ _ _ _ _ (by omega) (by omega) (by omega)).mono ?_; rintro e w' ⟨rfl, rfl⟩)
  go_ret
  exact ⟨rfl, Below.refl _ _⟩

set_option maxRecDepth 100000 in
set_option maxHeartbeats 1000000 in
theorem far_out3 (a0 : Option Addr) (n0 c0 : Nat) (z P u l t y : Int) (sa : Option Addr) (slen scap : Nat) (la : Option Addr) (nl lcap : Nat) (w : World) (m0 : (n0 : Int) ≤ 9223372036854775807) (m2 : (slen : Int) ≤ 9223372036854775807) (m3 : (nl : Int) ≤ 9223372036854775807) (g0 : ¬ 1048576 < (n0 : Int) + slen + nl) (g1 : ¬ 524288 < (n0 : Int)) (g2 : ¬ 262144 < (nl : Int)) (hbad : 16384 < (slen : Int)) :
    Calls Try.prog 6 #[.slice a0 n0 c0, .int .i64 z, .int .i64 P, .int .i64 u, .int .i64 l, .int .i64 t, .int .i64 y, .slice sa slen scap, .slice la nl lcap] w fun e w' => e = .returned (.bool true) ∧ Below w.heap.size w w' := by
  have hdec : decide (n0 + slen + nl ≤ 1048576) = true := decide_eq_true (by omega)
  go_enter Try.func6, Try.ntmps6
  go_wp2_with (go_at_call 28; refine (zz28_calls _ _ _ _ _ _ _ _ _ _ _ _ _ _ _ _ (by omega) (by omega) (by omega)).mono ?_; rintro e w' ⟨rfl, rfl⟩)
  go_ret
  exact ⟨rfl, Below.refl _ _⟩

set_option maxRecDepth 100000 in
set_option maxHeartbeats 1000000 in
theorem far_out4 (a0 : Option Addr) (n0 c0 : Nat) (z P u l t y : Int) (sa : Option Addr) (slen scap : Nat) (la : Option Addr) (nl lcap : Nat) (w : World) (m0 : (n0 : Int) ≤ 9223372036854775807) (m2 : (slen : Int) ≤ 9223372036854775807) (m3 : (nl : Int) ≤ 9223372036854775807) (g0 : ¬ 1048576 < (n0 : Int) + slen + nl) (g1 : ¬ 524288 < (n0 : Int)) (g2 : ¬ 262144 < (nl : Int)) (g3 : ¬ 16384 < (slen : Int)) (hbad : P < 0) :
    Calls Try.prog 6 #[.slice a0 n0 c0, .int .i64 z, .int .i64 P, .int .i64 u, .int .i64 l, .int .i64 t, .int .i64 y, .slice sa slen scap, .slice la nl lcap] w fun e w' => e = .returned (.bool true) ∧ Below w.heap.size w w' := by
  have hdec : decide (n0 + slen + nl ≤ 1048576) = true := decide_eq_true (by omega)
  go_enter Try.func6, Try.ntmps6
  go_wp2_with (go_at_call 28; refine (zz28_calls _ _ _ _ _ _ _ _ _ _ _ _ _ _ _ _ (by omega) (by omega) (by omega)).mono ?_; rintro e w' ⟨rfl, rfl⟩)
  go_ret
  exact ⟨rfl, Below.refl _ _⟩

set_option maxRecDepth 100000 in
set_option maxHeartbeats 1000000 in
theorem far_out5 (a0 : Option Addr) (n0 c0 : Nat) (z P u l t y : Int) (sa : Option Addr) (slen scap : Nat) (la : Option Addr) (nl lcap : Nat) (w : World) (m0 : (n0 : Int) ≤ 9223372036854775807) (m2 : (slen : Int) ≤ 9223372036854775807) (m3 : (nl : Int) ≤ 9223372036854775807) (g0 : ¬ 1048576 < (n0 : Int) + slen + nl) (g1 : ¬ 524288 < (n0 : Int)) (g2 : ¬ 262144 < (nl : Int)) (g3 : ¬ 16384 < (slen : Int)) (g4 : ¬ P < 0) (hbad : (n0 : Int) < P) :
    Calls Try.prog 6 #[.slice a0 n0 c0, .int .i64 z, .int .i64 P, .int .i64 u, .int .i64 l, .int .i64 t, .int .i64 y, .slice sa slen scap, .slice la nl lcap] w fun e w' => e = .returned (.bool true) ∧ Below w.heap.size w w' := by
  have hdec : decide (n0 + slen + nl ≤ 1048576) = true := decide_eq_true (by omega)
  go_enter Try.func6, Try.ntmps6
  go_wp2_with (go_at_call 28; refine (zz28_calls _ _ _ _ _ _ _ _ _ _ _ _ _ _ _ _ (by omega) (by omega) (by omega)).mono ?_; rintro e w' ⟨rfl, rfl⟩)
  go_ret
  exact ⟨rfl, Below.refl _ _⟩

theorem far_walk (a0 : Option Addr) (n0 c0 b0 o0 : Nat) (zs : List Int) (z P u l t y : Int) (sa : Option Addr) (slen scap bs so : Nat) (S : List Sq) (la : Option Addr) (nl lcap bl lo : Nat) (xs : List Int) (w : World)
    (hI : BIn w a0 n0 c0 b0 o0 zs) (hJ : SIn w sa slen scap bs so S) (hX : BIn w la nl lcap bl lo xs) (k0 : n0 ≤ maxLen) (k7 : slen ≤ maxLen) (k8 : nl ≤ maxLen)
    (h1 : -9223372036854775808 ≤ z ∧ z ≤ 9223372036854775807) (h2 : -9223372036854775808 ≤ P ∧ P ≤ 9223372036854775807) (h3 : -9223372036854775808 ≤ u ∧ u ≤ 9223372036854775807) (h4 : -9223372036854775808 ≤ l ∧ l ≤ 9223372036854775807) (h5 : -9223372036854775808 ≤ t ∧ t ≤ 9223372036854775807) (h6 : -9223372036854775808 ≤ y ∧ y ≤ 9223372036854775807) :
    Calls Try.prog 6 #[.slice a0 n0 c0, .int .i64 z, .int .i64 P, .int .i64 u, .int .i64 l, .int .i64 t, .int .i64 y, .slice sa slen scap, .slice la nl lcap] w fun e w' => e = .returned (.bool true) ∧ Below w.heap.size w w' := by
  unfold maxLen at k0 k7 k8
  have m0 : (n0 : Int) ≤ 9223372036854775807 := by omega
  have m2 : (slen : Int) ≤ 9223372036854775807 := by omega
  have m3 : (nl : Int) ≤ 9223372036854775807 := by omega
  by_cases g0 : 1048576 < (n0 : Int) + slen + nl
  · exact far_out0 a0 n0 c0 z P u l t y sa slen scap la nl lcap w m0 m2 m3  g0
  by_cases g1 : 524288 < (n0 : Int)
  · exact far_out1 a0 n0 c0 z P u l t y sa slen scap la nl lcap w m0 m2 m3 g0 g1
  by_cases g2 : 262144 < (nl : Int)
  · exact far_out2 a0 n0 c0 z P u l t y sa slen scap la nl lcap w m0 m2 m3 g0 g1 g2
  by_cases g3 : 16384 < (slen : Int)
  · exact far_out3 a0 n0 c0 z P u l t y sa slen scap la nl lcap w m0 m2 m3 g0 g1 g2 g3
  by_cases g4 : P < 0
  · exact far_out4 a0 n0 c0 z P u l t y sa slen scap la nl lcap w m0 m2 m3 g0 g1 g2 g3 g4
  by_cases g5 : (n0 : Int) < P
  · exact far_out5 a0 n0 c0 z P u l t y sa slen scap la nl lcap w m0 m2 m3 g0 g1 g2 g3 g4 g5
  obtain ⟨p, rfl⟩ := Int.eq_ofNat_of_zero_le (a := P) (by omega)
  exact far_main a0 n0 c0 b0 o0 zs z p u l t y sa slen scap bs so S la nl lcap bl lo xs w hI hJ hX (by omega) (by omega) (by omega) (by omega) (by omega)

end Go.Proofs.Qxb6602383a
