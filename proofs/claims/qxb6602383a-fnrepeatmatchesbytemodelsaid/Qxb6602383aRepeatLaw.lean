/-
  FnRepeatMatchesByteModel, WALKED OUT OF CONTRACTS.
-/
import Derived.Test.Qxb6602383aRepeat
import Derived.Test.Qxb6602383aAux
import Derived.OpenShut
set_option linter.unusedVariables false
namespace Go.Proofs.Qxb6602383a
open Go.RowKit

theorem zz9_calls (a : Option Addr) (len cap : Nat) (x1 x2 x3 x4 x5 x6 x7 x8 : Int) (w : World) (hm : (len : Int) ≤ 9223372036854775807) :
    Calls Try.prog 9 #[.slice a len cap, .int .i64 x1, .int .i64 x2, .int .i64 x3, .int .i64 x4, .int .i64 x5, .int .i64 x6, .int .i64 x7, .int .i64 x8] w fun e w' => e = .returned (.bool (decide (len ≤ 1048576))) ∧ w = w' := by
  by_cases h : len ≤ 1048576
  · rw [decide_eq_true h]
    go_enter Try.func9, Try.ntmps9
    go_wp2
    go_ret
    exact ⟨rfl, rfl⟩
  · rw [decide_eq_false h]
    go_enter Try.func9, Try.ntmps9
    go_wp2
    go_ret
    exact ⟨rfl, rfl⟩

/-- The first j bytes of the model. -/
structure MState (w4 : World) (Bm L off p : Nat) (m : List Int) (j q : Nat) (mj : List Int) (wr : World) : Prop where
  eq : Ring.rep off L j (m, p) = (mj, q)
  bytes : IsBytes wr Bm mj
  turn : Turn (fun k => k = Bm) w4 wr

theorem MState.step {w4 wr : World} {Bm L off p : Nat} {m : List Int} {j q : Nat} {mj : List Int} (h : MState w4 Bm L off p m j q mj wr) (x : Int) (hx : x = mj.getD (Ring.bk L q off) 0) :
    MState w4 Bm L off p m (j + 1) (Ring.nxt L q) (mj.set q x) (wr.setCell ⟨Bm, q, none⟩ (.int .u8 x)) := by
  refine ⟨?_, h.bytes.set q x, h.turn.setCell (p := ⟨Bm, q, none⟩) rfl _⟩
  rw [Ring.rep_succ, h.eq, hx]
  rfl

set_option maxRecDepth 100000 in
set_option maxHeartbeats 2000000 in
theorem repeat_main (b o len cap : Nat) (zs : List Int) (z : Int) (p : Nat) (u l t y : Int) (off n : Nat) (w : World)
    (hb : b < w.heap.size) (hz : len ≤ zs.length) (hl : len ≤ 1048576) (hc : ∀ i, i < len → w.cell? ⟨b, o + i, none⟩ = some (.int .u8 (zs.getD i 0)))
    (hp : p < len) (hu0 : 0 ≤ u) (huL : u ≤ len) (hy0 : 0 ≤ y) (hyz : y ≤ z) (hzL : z ≤ len) (ho1 : 1 ≤ off) (hoy : (off : Int) ≤ y) (hn : (n : Int) ≤ 9223372036854775807)
    (ht : wrap64 t = t) :
    Calls Try.prog 3 #[.slice (some ⟨b, o, none⟩) len cap, .int .i64 z, .int .i64 p, .int .i64 u, .int .i64 l, .int .i64 t, .int .i64 y, .int .i64 off, .int .i64 n] w fun e w' => e = .returned (.bool true) ∧ Below w.heap.size w w' := by
  have HT : Hid (wrap64 t = t) := ht
  have HC : Hid (∀ i, i < len → w.cell? ⟨b, o + i, none⟩ = some (.int .u8 (zs.getD i 0))) := hc
  clear ht hc
  obtain ⟨k, hk⟩ : ∃ k : Nat, (k : Int) = min (n : Int) (len - u) := ⟨(min (n : Int) (len - u)).toNat, by omega⟩
  have HK : Hid ((k : Int) = min (n : Int) (len - u)) := hk
  have hkL : k ≤ len := by omega
  clear hk
  have hdec : decide (len ≤ 1048576) = true := decide_eq_true hl
  have HM : Hid ((zs.take len).length = len) := by show _ = _; simp; omega
  go_enter Try.func3, Try.ntmps3
  go_wp2_with (go_at_call 9; refine (zz9_calls _ _ _ _ _ _ _ _ _ _ _ _ (by omega)).mono ?_; rintro e w' ⟨rfl, rfl⟩)
  refine (clone_any b o len cap zs _ hb hz hl HC.out).mono ?_
  rintro e w1 ⟨rfl, hB1, hs1, hT1⟩
  have HS1 : Hid (w1.heap.size = w.heap.size + 1) := hs1
  clear hs1
  go_wp2_with fail
  refine (clone_any w.heap.size 0 len len (zs.take len) _ hB1.lt (Nat.le_of_eq HM.out.symm) hl (fun i hi => by rw [Nat.zero_add]; exact hB1.cell i (by have := HM.out; omega))).mono ?_
  rintro e w2 ⟨rfl, hB2, hs2, hT2⟩
  have HS2 : Hid (w2.heap.size = w1.heap.size + 1) := hs2
  clear hs2
  go_wp2_with fail
  refine (new_calls _ w.heap.size len z p u l t y).mono ?_
  rintro e w3 ⟨rfl, hW3, hs3, hT3⟩
  have HS3 : Hid (w3.heap.size = w2.heap.size + 1) := hs3
  clear hs3
  go_wp2_with fail
  refine (room_calls _ _ _ _ _ _ _ _ _ _ hW3 hl hu0 huL).mono ?_
  rintro e w' ⟨rfl, nq, rfl⟩
  go_upto_if 109 with fail
  go_cut [22] (fun v22 wx => v22 = .int .i64 k ∧ wx = w3.drewN nq)
  case first =>
    by_cases hc : (n : Int) ≤ len - u
    · go_wp2
      go_meet
      case rel => exact ⟨by rw [show (k : Int) = n by have := HK.out; omega], rfl⟩
    · go_wp2
      go_meet
      case rel => exact ⟨by rw [show (k : Int) = len - u by have := HK.out; omega], rfl⟩
  case rest =>
    obtain ⟨rfl, rfl⟩ := hcut
    have hB3 : IsBytes w3 w.heap.size (zs.take len) := (hB1.turn hT2 (fun h => h)).turn hT3 (fun h => h)
    have hne : w2.heap.size ≠ w.heap.size := by have := HS1.out; have := HS2.out; omega
    have HNE : Hid (w2.heap.size ≠ w.heap.size) := hne
    clear hne
    go_wp2_with fail
    refine (repeat_calls (w3.drewN nq) w2.heap.size w.heap.size len z p u l t y off n k (zs.take len) (hW3.drewN nq) (hB3.drewN nq) HNE.out HM.out hl hp hu0 huL hy0 hyz hzL ho1 (by omega) hn HT.out HK.out).mono ?_
    rintro e w4 ⟨rfl, hW4, hB4, hT4⟩
    have hB2' : IsBytes w4 w1.heap.size (zs.take len) := by
      have := ((hB2.turn hT3 (fun h => h)).drewN nq).turn hT4 (by have := HS1.out; have := HS2.out; omega)
      rw [List.take_take, Nat.min_self] at this
      exact this
    go_wp2_with fail
    go_loopw [25, 26] (fun v25 v26 wr => ∃ (j q : Nat) (mj : List Int), j ≤ k ∧ q < len ∧ v25 = .int .i64 q ∧ v26 = .int .i64 j ∧ MState w4 w1.heap.size len off p (zs.take len) j q mj wr) (fun _ v26 _ => k - (intOf v26).toNat)
    case atStart => exact ⟨0, p, _, Nat.zero_le _, hp, rfl, rfl, rfl, hB2', Turn.refl _ _⟩
    case round =>
      obtain ⟨j, q, mj, hj, hqL, rfl, rfl, hS⟩ := hrel
      have hmj : mj.length = len := by
        have := Ring.rep_len off len j (zs.take len, p)
        rw [hS.eq] at this
        exact this.trans HM.out
      by_cases hlt : j < k
      · obtain ⟨g, hg⟩ : ∃ g, g = Ring.bk len q off := ⟨_, rfl⟩
        have hgL : g < len := by rw [hg]; unfold Ring.bk; split <;> omega
        have e1 := hS.bytes.cell g (by omega)
        have e0 := hS.bytes.cell q (by omega)
        have ef := hS.bytes.thaw q
        obtain ⟨x, hx⟩ : ∃ x, x = mj.getD g 0 := ⟨_, rfl⟩
        obtain ⟨x', hx'⟩ : ∃ x', x' = mj.getD q 0 := ⟨_, rfl⟩
        rw [← hx] at e1
        rw [← hx'] at e0
        have HS := hS.step x (by rw [hx, hg])
        have HG : Hid (g = Ring.bk len q off) := hg
        clear hx hx' hg hmj
        go_upto_if 125 with fail
        go_cut [27] (fun v27 wx => v27 = .int .i64 g ∧ wx = wr)
        case first =>
          by_cases hqo : q < off
          · go_wp2
            go_meet
            case rel => exact ⟨by rw [show (g : Int) = (q : Int) - off + len by rw [HG.out]; unfold Ring.bk; rw [if_pos hqo]; omega], rfl⟩
          · go_wp2
            go_meet
            case rel => exact ⟨by rw [show (g : Int) = (q : Int) - off by rw [HG.out]; unfold Ring.bk; rw [if_neg hqo]; omega], rfl⟩
        case rest =>
          obtain ⟨rfl, rfl⟩ := hcut
          by_cases hq1 : q + 1 = len
          · have hq2 : ((q : Int) + 1 == len) = true := by simp; omega
            have hq3 : (q : Int) + 1 ≤ len := by omega
            have HQ : Hid (q + 1 = len) := hq1
            clear hq1
            go_wp2
            go_roundw
            case rel => exact ⟨j + 1, _, _, by omega, Ring.nxt_lt hqL, by rw [show Ring.nxt len q = 0 by unfold Ring.nxt; rw [if_pos HQ.out]]; rfl, by go_num, HS⟩
            case measure => simp [intOf]; omega
          · have hq2 : ((q : Int) + 1 == len) = false := by simp; omega
            go_wp2
            go_roundw
            case rel => exact ⟨j + 1, _, _, by omega, Ring.nxt_lt hqL, by rw [show Ring.nxt len q = q + 1 by unfold Ring.nxt; rw [if_neg hq1]]; go_num, by go_num, HS⟩
            case measure => simp [intOf]; omega
      · have hjk : j = k := by omega
        subst hjk
        have n12 : w2.heap.size ≠ w1.heap.size := by have := HS1.out; have := HS2.out; omega
        have n01 : w.heap.size ≠ w1.heap.size := by have := HS1.out; omega
        have eR := hS.eq
        rw [eR] at hW4 hB4
        have hW5 := hW4.turn hS.turn n12
        have hB5 := hB4.turn hS.turn n01
        have hB6 := hS.bytes
        have TT : Turn (fun i => w.heap.size ≤ i) w wr :=
          ((((hT1.mono fun _ h => h.elim).trans (hT2.mono fun _ h => h.elim)).trans (hT3.mono fun _ h => h.elim)).trans ((Turn.refl _ w3).drewN nq)).trans ((hT4.mono (fun i h => by have := HS1.out; have := HS2.out; omega)).trans (hS.turn.mono (fun i h => by have := HS1.out; omega)))
        have HR : Hid (mj.length = len) := hmj
        clear eR hmj n12 n01 hS hB2' hT4 hT1 hT2 hT3 hB1 hB2 hB3 hW3 hW4 hB4
        go_wp2_with fail
        refine (state_calls _ _ _ _ _ _ _ _ _ _ hW5).mono ?_
        rintro e w' ⟨rfl, n1, rfl⟩
        go_wp2_with fail
        refine (same_any w.heap.size 0 w1.heap.size 0 len len len (fun i => mj.getD i 0) _ hl (fun i hi => by rw [Nat.zero_add]; exact hB5.cell i (by have := HR.out; omega)) (fun i hi => by rw [Nat.zero_add]; exact hB6.cell i (by have := HR.out; omega))).mono ?_
        rintro e w' ⟨rfl, n2, rfl⟩
        go_wp2_with fail
        refine (fields_calls _ _ _ _ _ _ _ _ _ _ u t y j (hW5.drewN _) (wrap_small (by omega) (by omega)).symm rfl (by rw [wrap_small (by omega) (by omega)])).mono ?_
        rintro e w' ⟨rfl, n3, rfl⟩
        go_wp2
        go_ret
        exact ⟨rfl, (TT.drewN _).below (Nat.le_refl _) (fun _ h => h)⟩

set_option maxRecDepth 100000 in
set_option maxHeartbeats 1000000 in
theorem repeat_out0 (a0 : Option Addr) (len0 cap0 : Nat) (a1 a2 a3 a4 a5 a6 a7 a8 : Int) (w : World) (hm : (len0 : Int) ≤ 9223372036854775807)  (hbad : 1048576 < (len0 : Int)) :
    Calls Try.prog 3 #[.slice a0 len0 cap0, .int .i64 a1, .int .i64 a2, .int .i64 a3, .int .i64 a4, .int .i64 a5, .int .i64 a6, .int .i64 a7, .int .i64 a8] w fun e w' => e = .returned (.bool true) ∧ Below w.heap.size w w' := by
  have hdec : decide (len0 ≤ 1048576) = false := decide_eq_false (by omega)
  go_enter Try.func3, Try.ntmps3
  go_wp2_with (go_at_call 9; refine (zz9_calls _ _ _ _ _ _ _ _ _ _ _ _ (by omega)).mono ?_; rintro e w' ⟨rfl, rfl⟩)
  go_ret
  exact ⟨rfl, Below.refl _ _⟩

set_option maxRecDepth 100000 in
set_option maxHeartbeats 1000000 in
theorem repeat_out1 (a0 : Option Addr) (len0 cap0 : Nat) (a1 a2 a3 a4 a5 a6 a7 a8 : Int) (w : World) (hm : (len0 : Int) ≤ 9223372036854775807) (g0 : ¬ 1048576 < (len0 : Int)) (hbad : a2 < 0) :
    Calls Try.prog 3 #[.slice a0 len0 cap0, .int .i64 a1, .int .i64 a2, .int .i64 a3, .int .i64 a4, .int .i64 a5, .int .i64 a6, .int .i64 a7, .int .i64 a8] w fun e w' => e = .returned (.bool true) ∧ Below w.heap.size w w' := by
  have hdec : decide (len0 ≤ 1048576) = true := decide_eq_true (by omega)
  go_enter Try.func3, Try.ntmps3
  go_wp2_with (go_at_call 9; refine (zz9_calls _ _ _ _ _ _ _ _ _ _ _ _ (by omega)).mono ?_; rintro e w' ⟨rfl, rfl⟩)
  go_ret
  exact ⟨rfl, Below.refl _ _⟩

set_option maxRecDepth 100000 in
set_option maxHeartbeats 1000000 in
theorem repeat_out2 (a0 : Option Addr) (len0 cap0 : Nat) (a1 a2 a3 a4 a5 a6 a7 a8 : Int) (w : World) (hm : (len0 : Int) ≤ 9223372036854775807) (g0 : ¬ 1048576 < (len0 : Int)) (g1 : ¬ a2 < 0) (hbad : (len0 : Int) ≤ a2) :
    Calls Try.prog 3 #[.slice a0 len0 cap0, .int .i64 a1, .int .i64 a2, .int .i64 a3, .int .i64 a4, .int .i64 a5, .int .i64 a6, .int .i64 a7, .int .i64 a8] w fun e w' => e = .returned (.bool true) ∧ Below w.heap.size w w' := by
  have hdec : decide (len0 ≤ 1048576) = true := decide_eq_true (by omega)
  go_enter Try.func3, Try.ntmps3
  go_wp2_with (go_at_call 9; refine (zz9_calls _ _ _ _ _ _ _ _ _ _ _ _ (by omega)).mono ?_; rintro e w' ⟨rfl, rfl⟩)
  go_ret
  exact ⟨rfl, Below.refl _ _⟩

set_option maxRecDepth 100000 in
set_option maxHeartbeats 1000000 in
theorem repeat_out3 (a0 : Option Addr) (len0 cap0 : Nat) (a1 a2 a3 a4 a5 a6 a7 a8 : Int) (w : World) (hm : (len0 : Int) ≤ 9223372036854775807) (g0 : ¬ 1048576 < (len0 : Int)) (g1 : ¬ a2 < 0) (g2 : ¬ (len0 : Int) ≤ a2) (hbad : a3 < 0) :
    Calls Try.prog 3 #[.slice a0 len0 cap0, .int .i64 a1, .int .i64 a2, .int .i64 a3, .int .i64 a4, .int .i64 a5, .int .i64 a6, .int .i64 a7, .int .i64 a8] w fun e w' => e = .returned (.bool true) ∧ Below w.heap.size w w' := by
  have hdec : decide (len0 ≤ 1048576) = true := decide_eq_true (by omega)
  go_enter Try.func3, Try.ntmps3
  go_wp2_with (go_at_call 9; refine (zz9_calls _ _ _ _ _ _ _ _ _ _ _ _ (by omega)).mono ?_; rintro e w' ⟨rfl, rfl⟩)
  go_ret
  exact ⟨rfl, Below.refl _ _⟩

set_option maxRecDepth 100000 in
set_option maxHeartbeats 1000000 in
theorem repeat_out4 (a0 : Option Addr) (len0 cap0 : Nat) (a1 a2 a3 a4 a5 a6 a7 a8 : Int) (w : World) (hm : (len0 : Int) ≤ 9223372036854775807) (g0 : ¬ 1048576 < (len0 : Int)) (g1 : ¬ a2 < 0) (g2 : ¬ (len0 : Int) ≤ a2) (g3 : ¬ a3 < 0) (hbad : (len0 : Int) < a3) :
    Calls Try.prog 3 #[.slice a0 len0 cap0, .int .i64 a1, .int .i64 a2, .int .i64 a3, .int .i64 a4, .int .i64 a5, .int .i64 a6, .int .i64 a7, .int .i64 a8] w fun e w' => e = .returned (.bool true) ∧ Below w.heap.size w w' := by
  have hdec : decide (len0 ≤ 1048576) = true := decide_eq_true (by omega)
  go_enter Try.func3, Try.ntmps3
  go_wp2_with (go_at_call 9; refine (zz9_calls _ _ _ _ _ _ _ _ _ _ _ _ (by omega)).mono ?_; rintro e w' ⟨rfl, rfl⟩)
  go_ret
  exact ⟨rfl, Below.refl _ _⟩

set_option maxRecDepth 100000 in
set_option maxHeartbeats 1000000 in
theorem repeat_out5 (a0 : Option Addr) (len0 cap0 : Nat) (a1 a2 a3 a4 a5 a6 a7 a8 : Int) (w : World) (hm : (len0 : Int) ≤ 9223372036854775807) (g0 : ¬ 1048576 < (len0 : Int)) (g1 : ¬ a2 < 0) (g2 : ¬ (len0 : Int) ≤ a2) (g3 : ¬ a3 < 0) (g4 : ¬ (len0 : Int) < a3) (hbad : a6 < 0) :
    Calls Try.prog 3 #[.slice a0 len0 cap0, .int .i64 a1, .int .i64 a2, .int .i64 a3, .int .i64 a4, .int .i64 a5, .int .i64 a6, .int .i64 a7, .int .i64 a8] w fun e w' => e = .returned (.bool true) ∧ Below w.heap.size w w' := by
  have hdec : decide (len0 ≤ 1048576) = true := decide_eq_true (by omega)
  go_enter Try.func3, Try.ntmps3
  go_wp2_with (go_at_call 9; refine (zz9_calls _ _ _ _ _ _ _ _ _ _ _ _ (by omega)).mono ?_; rintro e w' ⟨rfl, rfl⟩)
  go_ret
  exact ⟨rfl, Below.refl _ _⟩

set_option maxRecDepth 100000 in
set_option maxHeartbeats 1000000 in
theorem repeat_out6 (a0 : Option Addr) (len0 cap0 : Nat) (a1 a2 a3 a4 a5 a6 a7 a8 : Int) (w : World) (hm : (len0 : Int) ≤ 9223372036854775807) (g0 : ¬ 1048576 < (len0 : Int)) (g1 : ¬ a2 < 0) (g2 : ¬ (len0 : Int) ≤ a2) (g3 : ¬ a3 < 0) (g4 : ¬ (len0 : Int) < a3) (g5 : ¬ a6 < 0) (hbad : a1 < a6) :
    Calls Try.prog 3 #[.slice a0 len0 cap0, .int .i64 a1, .int .i64 a2, .int .i64 a3, .int .i64 a4, .int .i64 a5, .int .i64 a6, .int .i64 a7, .int .i64 a8] w fun e w' => e = .returned (.bool true) ∧ Below w.heap.size w w' := by
  have hdec : decide (len0 ≤ 1048576) = true := decide_eq_true (by omega)
  go_enter Try.func3, Try.ntmps3
  go_wp2_with (go_at_call 9; refine (zz9_calls _ _ _ _ _ _ _ _ _ _ _ _ (by omega)).mono ?_; rintro e w' ⟨rfl, rfl⟩)
  go_ret
  exact ⟨rfl, Below.refl _ _⟩

set_option maxRecDepth 100000 in
set_option maxHeartbeats 1000000 in
theorem repeat_out7 (a0 : Option Addr) (len0 cap0 : Nat) (a1 a2 a3 a4 a5 a6 a7 a8 : Int) (w : World) (hm : (len0 : Int) ≤ 9223372036854775807) (g0 : ¬ 1048576 < (len0 : Int)) (g1 : ¬ a2 < 0) (g2 : ¬ (len0 : Int) ≤ a2) (g3 : ¬ a3 < 0) (g4 : ¬ (len0 : Int) < a3) (g5 : ¬ a6 < 0) (g6 : ¬ a1 < a6) (hbad : (len0 : Int) < a1) :
    Calls Try.prog 3 #[.slice a0 len0 cap0, .int .i64 a1, .int .i64 a2, .int .i64 a3, .int .i64 a4, .int .i64 a5, .int .i64 a6, .int .i64 a7, .int .i64 a8] w fun e w' => e = .returned (.bool true) ∧ Below w.heap.size w w' := by
  have hdec : decide (len0 ≤ 1048576) = true := decide_eq_true (by omega)
  go_enter Try.func3, Try.ntmps3
  go_wp2_with (go_at_call 9; refine (zz9_calls _ _ _ _ _ _ _ _ _ _ _ _ (by omega)).mono ?_; rintro e w' ⟨rfl, rfl⟩)
  go_ret
  exact ⟨rfl, Below.refl _ _⟩

set_option maxRecDepth 100000 in
set_option maxHeartbeats 1000000 in
theorem repeat_out8 (a0 : Option Addr) (len0 cap0 : Nat) (a1 a2 a3 a4 a5 a6 a7 a8 : Int) (w : World) (hm : (len0 : Int) ≤ 9223372036854775807) (g0 : ¬ 1048576 < (len0 : Int)) (g1 : ¬ a2 < 0) (g2 : ¬ (len0 : Int) ≤ a2) (g3 : ¬ a3 < 0) (g4 : ¬ (len0 : Int) < a3) (g5 : ¬ a6 < 0) (g6 : ¬ a1 < a6) (g7 : ¬ (len0 : Int) < a1) (hbad : a7 < 1) :
    Calls Try.prog 3 #[.slice a0 len0 cap0, .int .i64 a1, .int .i64 a2, .int .i64 a3, .int .i64 a4, .int .i64 a5, .int .i64 a6, .int .i64 a7, .int .i64 a8] w fun e w' => e = .returned (.bool true) ∧ Below w.heap.size w w' := by
  have hdec : decide (len0 ≤ 1048576) = true := decide_eq_true (by omega)
  go_enter Try.func3, Try.ntmps3
  go_wp2_with (go_at_call 9; refine (zz9_calls _ _ _ _ _ _ _ _ _ _ _ _ (by omega)).mono ?_; rintro e w' ⟨rfl, rfl⟩)
  go_ret
  exact ⟨rfl, Below.refl _ _⟩

set_option maxRecDepth 100000 in
set_option maxHeartbeats 1000000 in
theorem repeat_out9 (a0 : Option Addr) (len0 cap0 : Nat) (a1 a2 a3 a4 a5 a6 a7 a8 : Int) (w : World) (hm : (len0 : Int) ≤ 9223372036854775807) (g0 : ¬ 1048576 < (len0 : Int)) (g1 : ¬ a2 < 0) (g2 : ¬ (len0 : Int) ≤ a2) (g3 : ¬ a3 < 0) (g4 : ¬ (len0 : Int) < a3) (g5 : ¬ a6 < 0) (g6 : ¬ a1 < a6) (g7 : ¬ (len0 : Int) < a1) (g8 : ¬ a7 < 1) (hbad : a6 < a7) :
    Calls Try.prog 3 #[.slice a0 len0 cap0, .int .i64 a1, .int .i64 a2, .int .i64 a3, .int .i64 a4, .int .i64 a5, .int .i64 a6, .int .i64 a7, .int .i64 a8] w fun e w' => e = .returned (.bool true) ∧ Below w.heap.size w w' := by
  have hdec : decide (len0 ≤ 1048576) = true := decide_eq_true (by omega)
  go_enter Try.func3, Try.ntmps3
  go_wp2_with (go_at_call 9; refine (zz9_calls _ _ _ _ _ _ _ _ _ _ _ _ (by omega)).mono ?_; rintro e w' ⟨rfl, rfl⟩)
  go_ret
  exact ⟨rfl, Below.refl _ _⟩

set_option maxRecDepth 100000 in
set_option maxHeartbeats 1000000 in
theorem repeat_out10 (a0 : Option Addr) (len0 cap0 : Nat) (a1 a2 a3 a4 a5 a6 a7 a8 : Int) (w : World) (hm : (len0 : Int) ≤ 9223372036854775807) (g0 : ¬ 1048576 < (len0 : Int)) (g1 : ¬ a2 < 0) (g2 : ¬ (len0 : Int) ≤ a2) (g3 : ¬ a3 < 0) (g4 : ¬ (len0 : Int) < a3) (g5 : ¬ a6 < 0) (g6 : ¬ a1 < a6) (g7 : ¬ (len0 : Int) < a1) (g8 : ¬ a7 < 1) (g9 : ¬ a6 < a7) (hbad : a8 < 0) :
    Calls Try.prog 3 #[.slice a0 len0 cap0, .int .i64 a1, .int .i64 a2, .int .i64 a3, .int .i64 a4, .int .i64 a5, .int .i64 a6, .int .i64 a7, .int .i64 a8] w fun e w' => e = .returned (.bool true) ∧ Below w.heap.size w w' := by
  have hdec : decide (len0 ≤ 1048576) = true := decide_eq_true (by omega)
  go_enter Try.func3, Try.ntmps3
  go_wp2_with (go_at_call 9; refine (zz9_calls _ _ _ _ _ _ _ _ _ _ _ _ (by omega)).mono ?_; rintro e w' ⟨rfl, rfl⟩)
  go_ret
  exact ⟨rfl, Below.refl _ _⟩

theorem repeat_walk (a0 : Option Addr) (len0 cap0 : Nat) (z0 : List Int) (a1 a2 a3 a4 a5 a6 a7 a8 : Int) (w : World)
    (w0 : (a0 = none ∧ len0 = 0 ∧ cap0 = 0 ∧ z0 = []) ∨
      ∃ x, a0 = some x ∧ len0 ≤ cap0 ∧ cap0 ≤ maxLen ∧ z0.length = cap0 ∧ (∀ i, i < z0.length → w.cell? (x.add i) = some (.int .u8 (z0.getD i 0))) ∧ ∀ n ∈ z0, (Lit.int .u8 n).wf = true)
    (h1 : -9223372036854775808 ≤ a1 ∧ a1 ≤ 9223372036854775807) (h2 : -9223372036854775808 ≤ a2 ∧ a2 ≤ 9223372036854775807) (h3 : -9223372036854775808 ≤ a3 ∧ a3 ≤ 9223372036854775807) (h4 : -9223372036854775808 ≤ a4 ∧ a4 ≤ 9223372036854775807)
    (h5 : -9223372036854775808 ≤ a5 ∧ a5 ≤ 9223372036854775807) (h6 : -9223372036854775808 ≤ a6 ∧ a6 ≤ 9223372036854775807) (h7 : -9223372036854775808 ≤ a7 ∧ a7 ≤ 9223372036854775807) (h8 : -9223372036854775808 ≤ a8 ∧ a8 ≤ 9223372036854775807) :
    Calls Try.prog 3 #[.slice a0 len0 cap0, .int .i64 a1, .int .i64 a2, .int .i64 a3, .int .i64 a4, .int .i64 a5, .int .i64 a6, .int .i64 a7, .int .i64 a8] w fun e w' => e = .returned (.bool true) ∧ Below w.heap.size w w' := by
  have hm : (len0 : Int) ≤ 9223372036854775807 := by
    rcases w0 with ⟨_, h, _, _⟩ | ⟨x, _, h, h', _⟩
    · omega
    · unfold maxLen at h'; omega
  by_cases g0 : 1048576 < (len0 : Int)
  · exact repeat_out0 a0 len0 cap0 a1 a2 a3 a4 a5 a6 a7 a8 w hm  g0
  by_cases g1 : a2 < 0
  · exact repeat_out1 a0 len0 cap0 a1 a2 a3 a4 a5 a6 a7 a8 w hm g0 g1
  by_cases g2 : (len0 : Int) ≤ a2
  · exact repeat_out2 a0 len0 cap0 a1 a2 a3 a4 a5 a6 a7 a8 w hm g0 g1 g2
  by_cases g3 : a3 < 0
  · exact repeat_out3 a0 len0 cap0 a1 a2 a3 a4 a5 a6 a7 a8 w hm g0 g1 g2 g3
  by_cases g4 : (len0 : Int) < a3
  · exact repeat_out4 a0 len0 cap0 a1 a2 a3 a4 a5 a6 a7 a8 w hm g0 g1 g2 g3 g4
  by_cases g5 : a6 < 0
  · exact repeat_out5 a0 len0 cap0 a1 a2 a3 a4 a5 a6 a7 a8 w hm g0 g1 g2 g3 g4 g5
  by_cases g6 : a1 < a6
  · exact repeat_out6 a0 len0 cap0 a1 a2 a3 a4 a5 a6 a7 a8 w hm g0 g1 g2 g3 g4 g5 g6
  by_cases g7 : (len0 : Int) < a1
  · exact repeat_out7 a0 len0 cap0 a1 a2 a3 a4 a5 a6 a7 a8 w hm g0 g1 g2 g3 g4 g5 g6 g7
  by_cases g8 : a7 < 1
  · exact repeat_out8 a0 len0 cap0 a1 a2 a3 a4 a5 a6 a7 a8 w hm g0 g1 g2 g3 g4 g5 g6 g7 g8
  by_cases g9 : a6 < a7
  · exact repeat_out9 a0 len0 cap0 a1 a2 a3 a4 a5 a6 a7 a8 w hm g0 g1 g2 g3 g4 g5 g6 g7 g8 g9
  by_cases g10 : a8 < 0
  · exact repeat_out10 a0 len0 cap0 a1 a2 a3 a4 a5 a6 a7 a8 w hm g0 g1 g2 g3 g4 g5 g6 g7 g8 g9 g10
  rcases w0 with ⟨rfl, rfl, _, _⟩ | ⟨x, rfl, hlc, hcm, hzl, hcell, _⟩
  · omega
  obtain ⟨p, rfl⟩ := Int.eq_ofNat_of_zero_le (a := a2) (by omega)
  obtain ⟨off, rfl⟩ := Int.eq_ofNat_of_zero_le (a := a7) (by omega)
  obtain ⟨n, rfl⟩ := Int.eq_ofNat_of_zero_le (a := a8) (by omega)
  obtain ⟨b, o, hx, hc⟩ := ints_at hcell (by omega)
  subst hx
  have c0 := hc 0 (by omega)
  have hb : b < w.heap.size := by
    apply Classical.byContradiction
    intro h
    rw [World.cell?] at c0
    have e : w.heap[b]? = none := Array.getElem?_eq_none (by omega)
    simp [e] at c0
  exact repeat_main b o len0 cap0 z0 a1 p a3 a4 a5 a6 off n w hb (by omega) (by omega) (fun i hi => hc i (by omega)) (by omega) (by omega) (by omega) (by omega) (by omega) (by omega) (by omega) (by omega) (by omega) (wrap_small h5.1 h5.2)

end Go.Proofs.Qxb6602383a
