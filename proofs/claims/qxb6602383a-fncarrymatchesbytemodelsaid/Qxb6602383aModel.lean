/-
  THE LAWS' OWN MODEL: ringState, carryDomain, ringModel, bytesWritten, sameOutside.
-/
import Derived.Test.Qxb6602383aLawIn
set_option linter.unusedVariables false
namespace Go.Proofs.Qxb6602383a
open Go.RowKit

/-- The documented state of a window. -/
def RingOk (L z p u y : Int) : Prop := 0 ≤ p ∧ p < L ∧ 0 ≤ u ∧ u ≤ L ∧ 0 ≤ y ∧ y ≤ z ∧ z ≤ L - 16

theorem ringState_yes (L z p u y : Int) (w : World) (hL0 : 0 ≤ L) (hL : L ≤ 1048576) (h : RingOk L z p u y) :
    Calls Try.prog 20 #[.int .i64 L, .int .i64 z, .int .i64 p, .int .i64 u, .int .i64 y] w fun e w' => e = .returned (.bool true) ∧ w = w' := by
  obtain ⟨h1, h2, h3, h4, h5, h6, h7⟩ := h
  go_enter Try.func20, Try.ntmps20
  go_wp2
  go_ret
  exact ⟨rfl, rfl⟩

theorem ringState_no0 (L z p u y : Int) (w : World) (hL0 : 0 ≤ L) (hL : L ≤ 1048576)  (hb : p < 0) :
    Calls Try.prog 20 #[.int .i64 L, .int .i64 z, .int .i64 p, .int .i64 u, .int .i64 y] w fun e w' => e = .returned (.bool false) ∧ w = w' := by
  go_enter Try.func20, Try.ntmps20
  go_wp2
  go_ret
  exact ⟨rfl, rfl⟩

theorem ringState_no1 (L z p u y : Int) (w : World) (hL0 : 0 ≤ L) (hL : L ≤ 1048576) (g0 : ¬ p < 0) (hb : L ≤ p) :
    Calls Try.prog 20 #[.int .i64 L, .int .i64 z, .int .i64 p, .int .i64 u, .int .i64 y] w fun e w' => e = .returned (.bool false) ∧ w = w' := by
  go_enter Try.func20, Try.ntmps20
  go_wp2
  go_ret
  exact ⟨rfl, rfl⟩

theorem ringState_no2 (L z p u y : Int) (w : World) (hL0 : 0 ≤ L) (hL : L ≤ 1048576) (g0 : ¬ p < 0) (g1 : ¬ L ≤ p) (hb : u < 0) :
    Calls Try.prog 20 #[.int .i64 L, .int .i64 z, .int .i64 p, .int .i64 u, .int .i64 y] w fun e w' => e = .returned (.bool false) ∧ w = w' := by
  go_enter Try.func20, Try.ntmps20
  go_wp2
  go_ret
  exact ⟨rfl, rfl⟩

theorem ringState_no3 (L z p u y : Int) (w : World) (hL0 : 0 ≤ L) (hL : L ≤ 1048576) (g0 : ¬ p < 0) (g1 : ¬ L ≤ p) (g2 : ¬ u < 0) (hb : L < u) :
    Calls Try.prog 20 #[.int .i64 L, .int .i64 z, .int .i64 p, .int .i64 u, .int .i64 y] w fun e w' => e = .returned (.bool false) ∧ w = w' := by
  go_enter Try.func20, Try.ntmps20
  go_wp2
  go_ret
  exact ⟨rfl, rfl⟩

theorem ringState_no4 (L z p u y : Int) (w : World) (hL0 : 0 ≤ L) (hL : L ≤ 1048576) (g0 : ¬ p < 0) (g1 : ¬ L ≤ p) (g2 : ¬ u < 0) (g3 : ¬ L < u) (hb : y < 0) :
    Calls Try.prog 20 #[.int .i64 L, .int .i64 z, .int .i64 p, .int .i64 u, .int .i64 y] w fun e w' => e = .returned (.bool false) ∧ w = w' := by
  go_enter Try.func20, Try.ntmps20
  go_wp2
  go_ret
  exact ⟨rfl, rfl⟩

theorem ringState_no5 (L z p u y : Int) (w : World) (hL0 : 0 ≤ L) (hL : L ≤ 1048576) (g0 : ¬ p < 0) (g1 : ¬ L ≤ p) (g2 : ¬ u < 0) (g3 : ¬ L < u) (g4 : ¬ y < 0) (hb : z < y) :
    Calls Try.prog 20 #[.int .i64 L, .int .i64 z, .int .i64 p, .int .i64 u, .int .i64 y] w fun e w' => e = .returned (.bool false) ∧ w = w' := by
  go_enter Try.func20, Try.ntmps20
  go_wp2
  go_ret
  exact ⟨rfl, rfl⟩

theorem ringState_no6 (L z p u y : Int) (w : World) (hL0 : 0 ≤ L) (hL : L ≤ 1048576) (g0 : ¬ p < 0) (g1 : ¬ L ≤ p) (g2 : ¬ u < 0) (g3 : ¬ L < u) (g4 : ¬ y < 0) (g5 : ¬ z < y) (hb : L - 16 < z) :
    Calls Try.prog 20 #[.int .i64 L, .int .i64 z, .int .i64 p, .int .i64 u, .int .i64 y] w fun e w' => e = .returned (.bool false) ∧ w = w' := by
  have hd : decide (z ≤ L - 16) = false := decide_eq_false (by omega)
  go_enter Try.func20, Try.ntmps20
  go_wp2
  go_ret
  exact ⟨rfl, rfl⟩

theorem ringState_calls (L z p u y : Int) (w : World) (hL0 : 0 ≤ L) (hL : L ≤ 1048576) :
    Calls Try.prog 20 #[.int .i64 L, .int .i64 z, .int .i64 p, .int .i64 u, .int .i64 y] w fun e w' => ∃ B, e = .returned (.bool B) ∧ (B = true → RingOk L z p u y) ∧ w = w' := by
  by_cases g0 : p < 0
  · exact (ringState_no0 L z p u y w hL0 hL  g0).mono fun e w' ⟨he, hw⟩ => ⟨false, he, (fun h => by cases h), hw⟩
  by_cases g1 : L ≤ p
  · exact (ringState_no1 L z p u y w hL0 hL g0 g1).mono fun e w' ⟨he, hw⟩ => ⟨false, he, (fun h => by cases h), hw⟩
  by_cases g2 : u < 0
  · exact (ringState_no2 L z p u y w hL0 hL g0 g1 g2).mono fun e w' ⟨he, hw⟩ => ⟨false, he, (fun h => by cases h), hw⟩
  by_cases g3 : L < u
  · exact (ringState_no3 L z p u y w hL0 hL g0 g1 g2 g3).mono fun e w' ⟨he, hw⟩ => ⟨false, he, (fun h => by cases h), hw⟩
  by_cases g4 : y < 0
  · exact (ringState_no4 L z p u y w hL0 hL g0 g1 g2 g3 g4).mono fun e w' ⟨he, hw⟩ => ⟨false, he, (fun h => by cases h), hw⟩
  by_cases g5 : z < y
  · exact (ringState_no5 L z p u y w hL0 hL g0 g1 g2 g3 g4 g5).mono fun e w' ⟨he, hw⟩ => ⟨false, he, (fun h => by cases h), hw⟩
  by_cases g6 : L - 16 < z
  · exact (ringState_no6 L z p u y w hL0 hL g0 g1 g2 g3 g4 g5 g6).mono fun e w' ⟨he, hw⟩ => ⟨false, he, (fun h => by cases h), hw⟩
  have h : RingOk L z p u y := ⟨by omega, by omega, by omega, by omega, by omega, by omega, by omega⟩
  exact (ringState_yes L z p u y w hL0 hL h).mono fun e w' ⟨he, hw⟩ => ⟨true, he, fun _ => h, hw⟩

/-- What carryDomain's yes gives. -/
structure DomOk (S : List Sq) (nl room size : Nat) : Prop where
  lits : Ring.sumN S ≤ nl
  bytes : Ring.sumW S ≤ room
  offs : ∀ s ∈ S, 1 ≤ s.o ∧ s.o ≤ size

structure DState (S : List Sq) (size k N W : Nat) : Prop where
  eN : N = Ring.sumN (S.take k)
  eW : W = Ring.sumW (S.take k)
  offs : ∀ s ∈ S.take k, 1 ≤ s.o ∧ s.o ≤ size

theorem DState.next {S : List Sq} {size k N W : Nat} (h : DState S size k N W) {s : Sq} (hs : S[k]? = some s) (h1 : 1 ≤ s.o) (h2 : s.o ≤ size) : DState S size (k + 1) (N + s.n) (W + (s.n + s.l)) := by
  refine ⟨by rw [Ring.sumN_take hs, h.eN], by rw [Ring.sumW_take hs, h.eW], fun x hx => ?_⟩
  rw [Ring.take_snoc hs] at hx
  rcases List.mem_append.1 hx with hx | hx
  · exact h.offs x hx
  · simp at hx; subst hx; exact ⟨h1, h2⟩

/-- carryDomain's answer. -/
def DomAns (S : List Sq) (nl room z : Nat) (w : World) (e : Ending) (w' : World) : Prop := ∃ B, e = .returned (.bool B) ∧ (B = true → DomOk S nl room z) ∧ w = w'

set_option maxRecDepth 100000 in
set_option maxHeartbeats 4000000 in
theorem carryDomain_calls (sa : Option Addr) (slen scap bs so : Nat) (S : List Sq) (nl room y z : Nat) (w : World) (hJ : SIn w sa slen scap bs so S) (hslm : slen ≤ 1048576) (hnl : nl ≤ 1048576) (hroom : room ≤ 1048576) (hyz : y ≤ z) (hz : z ≤ 1048576) :
    Calls Try.prog 21 #[.slice sa slen scap, .int .i64 nl, .int .i64 room, .int .i64 y, .int .i64 z] w fun e w' => DomAns S nl room z w e w' := by
  go_enter Try.func21, Try.ntmps21
  go_wp2_with fail
  go_loopw [11, 12, 13, 14] (fun v11 v12 v13 v14 wr => ∃ k N W h : Nat, w = wr ∧ k ≤ slen ∧ N ≤ nl ∧ W ≤ room ∧ h ≤ z ∧ v11 = .int .u64 N ∧ v12 = .int .u64 W ∧ v13 = .int .i64 h ∧ v14 = .int .i64 k ∧ DState S z k N W) (fun _ _ _ v14 _ => slen - (intOf v14).toNat)
  case atStart => exact ⟨0, 0, 0, y, rfl, Nat.zero_le _, Nat.zero_le _, Nat.zero_le _, hyz, rfl, rfl, rfl, rfl, rfl, rfl, fun s hs => by simp at hs⟩
  case round =>
    obtain ⟨k, N, W, h, rfl, hk, hN, hW, hh, rfl, rfl, rfl, rfl, hD⟩ := hrel
    by_cases hlt : k < slen
    · obtain ⟨s, hs'⟩ : ∃ s, S[k]? = some s := ⟨_, List.getElem?_eq_getElem (by have := hJ.len; omega)⟩
      obtain ⟨hsa, hbs⟩ := hJ.at0 (by omega)
      subst hsa
      obtain ⟨e0, e1, e2⟩ := hJ.seqs k s hs'
      have hmem : s ∈ S := List.mem_of_getElem? hs'
      have hn32 := (hJ.small s hmem).1
      have ho32 := (hJ.small s hmem).2.1
      have hl32 := (hJ.small s hmem).2.2
      have HSK : Hid (S[k]? = some s) := hs'
      clear hs' hmem
      by_cases h1 : nl < N + s.n
      · go_wp2
        go_ret
        exact ⟨false, rfl, (fun h => by cases h), rfl⟩
      by_cases h2 : room < W + (s.n + s.l)
      · go_wp2
        go_ret
        exact ⟨false, rfl, (fun h => by cases h), rfl⟩
      obtain ⟨h', hh'⟩ : ∃ h', h' = min (h + s.n) z := ⟨_, rfl⟩
      obtain ⟨h'', hh''⟩ : ∃ h'', h'' = min (h' + s.l) z := ⟨_, rfl⟩
      have b1 : h' ≤ z := by omega
      have b2 : h'' ≤ z := by omega
      have HH1 : Hid (h' = min (h + s.n) z) := hh'
      have HH2 : Hid (h'' = min (h' + s.l) z) := hh''
      clear hh' hh''
      go_upto_if 59 with fail
      go_cut [13] (fun v13 wx => v13 = .int .i64 h' ∧ w = wx)
      case first =>
        by_cases h3 : z < h + s.n
        · go_wp2
          go_meet
          case rel => exact ⟨by rw [show h' = z by have := HH1.out; omega], rfl⟩
        · go_wp2
          go_meet
          case rel => exact ⟨by rw [show (h' : Int) = (h : Int) + s.n by have := HH1.out; omega], rfl⟩
      case rest =>
        obtain ⟨rfl, rfl⟩ := hcut
        by_cases h4 : s.o < 1
        · go_wp2
          go_ret
          exact ⟨false, rfl, (fun h => by cases h), rfl⟩
        by_cases h5 : h' < s.o
        · go_wp2
          go_ret
          exact ⟨false, rfl, (fun h => by cases h), rfl⟩
        have HD := hD.next HSK.out (by omega) (by omega)
        by_cases h6 : z < h' + s.l
        · go_wp2
          go_roundw
          case rel => exact ⟨k + 1, _, _, h'', trivial, by omega, by omega, by omega, b2, by go_num, by go_num, by rw [show h'' = z by have := HH2.out; omega], by go_num, HD⟩
          case measure => simp [intOf]; omega
        · go_wp2
          go_roundw
          case rel => exact ⟨k + 1, _, _, h'', trivial, by omega, by omega, by omega, b2, by go_num, by go_num, by rw [show (h'' : Int) = (h' : Int) + s.l by have := HH2.out; omega], by go_num, HD⟩
          case measure => simp [intOf]; omega
    · go_wp2
      go_ret
      refine ⟨true, rfl, fun _ => ?_, rfl⟩
      have hkl : S.take k = S := List.take_of_length_le (by have := hJ.len; omega)
      exact ⟨by rw [← hkl, ← hD.eN]; exact hN, by rw [← hkl, ← hD.eW]; exact hW, fun s hs => hD.offs s (by rw [hkl]; exact hs)⟩

set_option maxHeartbeats 1000000 in
theorem bytesWritten_calls (sa : Option Addr) (slen scap bs so : Nat) (S : List Sq) (cnt : Nat) (w : World) (hJ : SIn w sa slen scap bs so S) (hslm : slen ≤ 1048576) (hc : cnt ≤ slen) (hW : Ring.sumW S ≤ 1048576) :
    Calls Try.prog 26 #[.slice sa slen scap, .int .i64 cnt] w fun e w' => e = .returned (.int .i64 (Ring.sumW (S.take cnt))) ∧ ∃ n, w' = w.drewN n := by
  have HWS : Hid (Ring.sumW S ≤ 1048576) := hW
  clear hW
  go_enter Try.func26, Try.ntmps26
  go_wp2_with fail
  go_loopw [5, 6] (fun v5 v6 wr => ∃ k W n : Nat, wr = w.drewN n ∧ k ≤ cnt ∧ W ≤ 1048576 ∧ v5 = .int .i64 W ∧ v6 = .int .i64 k ∧ Hid (W = Ring.sumW (S.take k))) (fun _ v6 _ => cnt - (intOf v6).toNat)
  case atStart => exact ⟨0, 0, 0, rfl, Nat.zero_le _, Nat.zero_le _, rfl, rfl, rfl⟩
  case round =>
    obtain ⟨k, W, n, rfl, hk, hWl, rfl, rfl, HW⟩ := hrel
    by_cases hlt : k < cnt
    · obtain ⟨s, hs'⟩ : ∃ s, S[k]? = some s := ⟨_, List.getElem?_eq_getElem (by have := hJ.len; omega)⟩
      obtain ⟨hsa, hbs⟩ := hJ.at0 (by omega)
      subst hsa
      obtain ⟨e0, e1, e2⟩ := hJ.seqs k s hs'
      have hmem : s ∈ S := List.mem_of_getElem? hs'
      have hn32 := (hJ.small s hmem).1
      have hl32 := (hJ.small s hmem).2.2
      have HSK : Hid (S[k]? = some s) := hs'
      have hW2 : W + (s.n + s.l) ≤ 1048576 := by
        have h1 := Ring.sumW_take hs'
        have h2 := Ring.sumW_take_le S (k + 1)
        have h3 := HWS.out
        have h4 := HW.out
        omega
      clear hs' hmem
      go_wp2
      go_quiet (fail)
      go_wp2
      go_roundw
      case rel => exact ⟨k + 1, W + (s.n + s.l), _, rfl, by omega, by omega, by go_num, by go_num, by show _ = _; rw [Ring.sumW_take HSK.out, HW.out]⟩
      case measure => simp [intOf]; omega
    · go_wp2
      go_ret
      exact ⟨congrArg (fun x : Int => Ending.returned (.int .i64 x)) (by rw [HW.out, show k = cnt by omega]), _, rfl⟩

end Go.Proofs.Qxb6602383a
