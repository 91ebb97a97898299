/-
  FnCarryWideMatchesByteModel, WALKED OUT OF CONTRACTS.
-/
import Derived.Test.Qxb6602383aModel2
import Derived.Test.Qxb6602383aOutside
set_option linter.unusedVariables false
namespace Go.Proofs.Qxb6602383a
open Go.RowKit

theorem carryDomain_at (sa : Option Addr) (slen scap bs so : Nat) (S : List Sq) (nl room y z : Nat) (R : Int) (w : World) (hJ : SIn w sa slen scap bs so S) (hslm : slen ≤ 1048576) (hnl : nl ≤ 1048576) (hroom : room ≤ 1048576) (hyz : y ≤ z) (hz : z ≤ 1048576) (hR : R = room) :
    Calls Try.prog 21 #[.slice sa slen scap, .int .i64 nl, .int .i64 R, .int .i64 y, .int .i64 z] w fun e w' => DomAns S nl room z w e w' := by
  subst hR
  exact carryDomain_calls sa slen scap bs so S nl room y z w hJ hslm hnl hroom hyz hz

theorem SIn.turnS {w w' : World} {X : Nat → Prop} {a : Option Addr} {n c b o : Nat} {S : List Sq} (h : SIn w a n c b o S) (T : Turn X w w') (hb : 0 < n → ¬ X b) : SIn w' a n c b o S := by
  refine ⟨h.nil, fun hn => ⟨(h.at0 hn).1, Nat.lt_of_lt_of_le (h.at0 hn).2 T.size⟩, h.len, ?_, h.small⟩
  by_cases h0 : n = 0
  · intro i s hi
    have e : S = [] := List.eq_nil_of_length_eq_zero (h.len.trans h0)
    rw [e] at hi
    simp at hi
  · exact h.seqs.turn T (h.at0 (by omega)).2 (hb (by omega))

theorem SIn.drewN {w : World} {a : Option Addr} {n c b o : Nat} {S : List Sq} (h : SIn w a n c b o S) (k : Nat) : SIn (w.drewN k) a n c b o S := ⟨h.nil, h.at0, h.len, h.seqs, h.small⟩

set_option maxRecDepth 100000 in
set_option maxHeartbeats 8000000 in
theorem wide_main (a0 : Option Addr) (n0 c0 b0 o0 : Nat) (zs : List Int) (z P u l t y : Int) (sa : Option Addr) (slen scap bs so : Nat) (S : List Sq) (la : Option Addr) (nl lcap bl lo : Nat) (xs : List Int) (w : World)
    (hI : BIn w a0 n0 c0 b0 o0 zs) (hJ : SIn w sa slen scap bs so S) (hX : BIn w la nl lcap bl lo xs) (g0 : n0 + slen + nl ≤ 1048576) (g1 : n0 ≤ 524288) (g2 : nl ≤ 262144) (g3 : slen ≤ 16384) (ht : -9223372036854775808 ≤ t ∧ t ≤ 9223372036854775807) :
    Calls Try.prog 5 #[.slice a0 n0 c0, .int .i64 z, .int .i64 P, .int .i64 u, .int .i64 l, .int .i64 t, .int .i64 y, .slice sa slen scap, .slice la nl lcap] w fun e w' => e = .returned (.bool true) ∧ Below w.heap.size w w' := by
  have hdec : decide (n0 + slen + nl ≤ 1048576) = true := decide_eq_true g0
  go_enter Try.func5, Try.ntmps5
  go_wp2_with (go_at_call 19; refine (zz19_calls _ _ _ _ _ _ _ _ _ _ _ _ _ _ _ _ (by omega) (by omega) (by omega)).mono ?_; rintro e w' ⟨rfl, rfl⟩)
  refine (ringState_calls _ _ _ _ _ _ (by omega) (by omega)).mono ?_
  rintro e w' ⟨B, rfl, hRB, rfl⟩
  cases B with
  | false =>
    go_wp2
    go_ret
    exact ⟨rfl, Below.refl _ _⟩
  | true =>
    obtain ⟨r1, r2, r3, r4, r5, r6, r7⟩ := hRB rfl
    obtain ⟨p, rfl⟩ := Int.eq_ofNat_of_zero_le r1
    obtain ⟨u', rfl⟩ := Int.eq_ofNat_of_zero_le r3
    obtain ⟨y', rfl⟩ := Int.eq_ofNat_of_zero_le r5
    obtain ⟨z', rfl⟩ := Int.eq_ofNat_of_zero_le (show 0 ≤ z by omega)
    clear hRB
    go_wp2_with fail
    refine (carryDomain_at sa slen scap bs so S nl (n0 - u') y' z' _ _ hJ (by omega) (by omega) (by omega) (by omega) (by omega) (by omega)).mono ?_
    rintro e w' ⟨B, rfl, hDB, rfl⟩
    cases B with
    | false =>
      go_wp2
      go_ret
      exact ⟨rfl, Below.refl _ _⟩
    | true =>
      obtain ⟨d1, d2, d3⟩ := hDB rfl
      have HD1 : Hid (Ring.sumN S ≤ nl) := d1
      have HD2 : Hid (Ring.sumW S ≤ n0 - u') := d2
      have HD3 : Hid (∀ s ∈ S, 1 ≤ s.o ∧ s.o ≤ z') := d3
      clear hDB d1 d2 d3
      have hl0 : (zs.take n0).length = n0 := by have := hI.len; simp; omega
      have Hl0 : Hid ((zs.take n0).length = n0) := hl0
      have hlx : (xs.take nl).length = nl := by have := hX.len; simp; omega
      have Hlx : Hid ((xs.take nl).length = nl) := hlx
      clear hl0 hlx hdec
      go_wp2_with fail
      refine (clone_all a0 b0 o0 n0 c0 zs w hI.nil hI.at0 hI.len (by omega) hI.cell).mono ?_
      rintro e w1 ⟨x1, rfl, hq1, hT1⟩
      obtain ⟨hx1, hB1⟩ := hq1 (by omega)
      subst hx1
      clear hq1
      have hJ1 := hJ.turn hT1
      have hX1 := hX.turn hT1
      go_wp2_with fail
      refine (cloneSeqs_all sa bs so slen scap S w1 hJ1.nil hJ1.at0 hJ1.len (by omega) hJ1.seqs).mono ?_
      rintro e w2 ⟨x2, rfl, hA2, hS2, hT2⟩
      have hX2 := hX1.turn hT2
      have HA2 : Hid (0 < slen → x2 = some ⟨w1.heap.size, 0, none⟩ ∧ w1.heap.size < w2.heap.size) := hA2
      clear hA2
      have hJ2 : SIn w2 x2 slen slen w1.heap.size 0 S := ⟨fun h => by
          by_cases h0 : 0 < slen
          · have := (HA2.out h0).1; rw [h] at this; cases this
          · omega, fun h => HA2.out h, hJ.len, hS2, hJ.small⟩
      go_wp2_with fail
      refine (clone_all la bl lo nl lcap xs w2 hX2.nil hX2.at0 hX2.len (by omega) hX2.cell).mono ?_
      rintro e w3 ⟨x3, rfl, hq3, hT3⟩
      have HQ3 : Hid (0 < nl → x3 = some ⟨w2.heap.size, 0, none⟩ ∧ IsBytes w3 w2.heap.size (xs.take nl)) := hq3
      clear hq3
      have hB3 : IsBytes w3 w.heap.size (zs.take n0) := (hB1.turn hT2 (fun x => x)).turn hT3 (fun x => x)
      have hz1 := hB1.lt
      have hz2 := hT2.size
      have hz3 := hT3.size
      go_wp2_with fail
      refine (clone_any w.heap.size 0 n0 n0 (zs.take n0) w3 hB3.lt (Nat.le_of_eq Hl0.out.symm) (by omega) (fun i hi => by rw [Nat.zero_add]; exact hB3.cell i (by have := Hl0.out; omega))).mono ?_
      rintro e w4 ⟨rfl, hB4', hs4, hT4⟩
      have HS4 : Hid (w4.heap.size = w3.heap.size + 1) := hs4
      clear hs4
      have hB4 : IsBytes w4 w3.heap.size (zs.take n0) := by
        rw [List.take_take, Nat.min_self] at hB4'
        exact hB4'
      clear hB4'
      go_wp2_with fail
      refine (new_calls w4 w.heap.size n0 z' p u' l t y').mono ?_
      rintro e w5 ⟨rfl, hW5, hs5, hT5⟩
      have HS5 : Hid (w5.heap.size = w4.heap.size + 1) := hs5
      clear hs5
      have hJ5 := ((hJ2.turn hT3).turn hT4).turn hT5
      go_wp2_with fail
      refine (toSequences_all x2 w1.heap.size 0 slen slen S w5 hJ5.at0 hJ5.len (by omega) hJ5.seqs).mono ?_
      rintro e w6 ⟨rfl, hz6, hS6, hT6⟩
      have hW6 := hW5.turn hT6 (fun x => x)
      have hJ6 := hJ5.turn hT6
      have hB6 : IsBytes w6 w.heap.size (zs.take n0) := ((hB3.turn hT4 (fun x => x)).turn hT5 (fun x => x)).turn hT6 (fun x => x)
      have hM6 : IsBytes w6 w3.heap.size (zs.take n0) := (hB4.turn hT5 (fun x => x)).turn hT6 (fun x => x)
      have HX6 : Hid (0 < nl → x3 = some ⟨w2.heap.size, 0, none⟩ ∧ IsBytes w6 w2.heap.size (xs.take nl) ∧ w2.heap.size < w3.heap.size) := fun h =>
        ⟨(HQ3.out h).1, ((((HQ3.out h).2.turn hT4 (fun x => x)).turn hT5 (fun x => x)).turn hT6 (fun x => x)), (HQ3.out h).2.lt⟩
      have T6 : Turn (fun j => w.heap.size ≤ j) w w6 :=
        (hT1.mono fun _ h => h.elim).trans ((hT2.mono fun _ h => h.elim).trans ((hT3.mono fun _ h => h.elim).trans ((hT4.mono fun _ h => h.elim).trans ((hT5.mono fun _ h => h.elim).trans (hT6.mono fun _ h => h.elim)))))
      have HSZ : Hid (w.heap.size < w1.heap.size ∧ w1.heap.size ≤ w2.heap.size ∧ w2.heap.size ≤ w3.heap.size ∧ w4.heap.size = w3.heap.size + 1 ∧ w5.heap.size = w4.heap.size + 1 ∧ w5.heap.size < w6.heap.size) := ⟨hz1, hz2, hz3, HS4.out, HS5.out, hz6⟩
      have HSB : Hid (0 < slen → w1.heap.size < w2.heap.size) := fun h => (HA2.out h).2
      clear HQ3 HA2 hz1 hz2 hz3 HS4 HS5 hz6 hJ1 hJ2 hJ5 hX1 hX2 hB1 hB3 hB4 hW5 hS2 hT1 hT2 hT3 hT4 hT5 hT6
      go_wp2_with fail
      refine (zzCarryWide_calls w6 w4.heap.size w.heap.size n0 z' p u' l t y' (zs.take n0) (some ⟨w5.heap.size, 0, none⟩) w5.heap.size 0 slen slen S x3 w2.heap.size 0 nl nl (xs.take nl) (xs.take nl)
        hW6 hB6 (by have := HSZ.out; omega) Hl0.out (by omega) (by omega) hJ.len (by omega) (fun _ => ⟨rfl, by have := HSZ.out; omega, by have := HSZ.out; omega⟩) hS6 hJ.small (fun s hs => by have := HD3.out s hs; omega)
        (fun h => ⟨(HX6.out h).1, (HX6.out h).2.1, by have := Hlx.out; omega, by have := HSZ.out; omega, by rw [List.drop_zero, List.take_take, Nat.min_self]⟩) Hlx.out (Nat.le_refl _) (by omega)).mono ?_
      rintro e w7 ⟨i, la', g', rfl, hi, hla, hstop, hW7, hB7, hg7, hrun, hfit, hT7⟩
      obtain ⟨N, hN⟩ : ∃ N, N = Ring.sumN (S.take i) := ⟨_, rfl⟩
      obtain ⟨W, hW⟩ : ∃ W, W = Ring.sumW (S.take i) := ⟨_, rfl⟩
      have hNl : N ≤ nl := by have := Ring.sumN_take_le S i; have := HD1.out; omega
      have hWl : W ≤ n0 - u' := by have := Ring.sumW_take_le S i; have := HD2.out; omega
      have hpW : p + W < n0 := by
        by_cases h0 : i = 0
        · have : W = 0 := by rw [hW, h0]; rfl
          omega
        · have := (hfit (by omega)).1
          omega
      rw [← hN] at hla ⊢
      rw [← hW, if_neg (by omega)] at hW7
      have hoff : ∀ s ∈ S, 1 ≤ s.o ∧ s.o + 16 ≤ n0 := fun s hs => by have := HD3.out s hs; omega
      have hAg := Ring.wrun_agree hrun (Ring.Agree.refl p Hl0.out) (by rw [Hlx.out, ← hN]; exact hNl) (by omega) (fun s hs => hoff s (List.mem_of_mem_take hs))
      have hpos := Ring.run_pos n0 (S.take i) (xs.take nl) (zs.take n0, p) (by show p < n0; omega) (by rw [← hW]; omega) (by rw [Hlx.out, ← hN]; exact hNl)
      rw [← hW] at hpos
      have hpos' : (Ring.run n0 (S.take i) (xs.take nl) (zs.take n0, p)).2 = p + W := by rw [hpos]; unfold Ring.adv; rw [if_pos (by show p + W < n0; omega)]
      obtain ⟨q, hq⟩ : ∃ q, q = p + W := ⟨_, rfl⟩
      obtain ⟨mm, hmm⟩ : ∃ mm, mm = (Ring.run n0 (S.take i) (xs.take nl) (zs.take n0, p)).1 := ⟨_, rfl⟩
      have hql : q < n0 := by omega
      rw [hpos', ← hq, ← hmm] at hAg
      rw [show (p : Int) + (W : Int) = q by omega] at hW7
      have HAG : Hid (Ring.Agree n0 q g' mm) := hAg
      have HPQ : Hid ((Ring.run n0 (S.take i) (xs.take nl) (zs.take n0, p)).2 = q) := by show _ = _; rw [hpos', hq]
      have HMM : Hid (mm = (Ring.run n0 (S.take i) (xs.take nl) (zs.take n0, p)).1) := hmm
      have HNN : Hid (N = Ring.sumN (S.take i)) := hN
      have HWW : Hid (W = Ring.sumW (S.take i)) := hW
      have HOF : Hid (∀ s ∈ S, 1 ≤ s.o ∧ s.o + 16 ≤ n0) := hoff
      have HLA : Hid (0 < nl - N → la' = some ⟨w2.heap.size, 0 + N, none⟩) := hla
      have hM7 : IsBytes w7 w3.heap.size (zs.take n0) := hM6.turn hT7 (by have := HSZ.out; omega)
      have hJ7 : SIn w7 x2 slen slen w1.heap.size 0 S := hJ6.turnS hT7 (fun h => by have := HSZ.out; have := HSB.out h; omega)
      have HX7 : Hid (0 < nl → x3 = some ⟨w2.heap.size, 0, none⟩ ∧ IsBytes w7 w2.heap.size (xs.take nl) ∧ w2.heap.size < w3.heap.size) := fun h =>
        ⟨(HX6.out h).1, (HX6.out h).2.1.turn hT7 (by have := HSZ.out; have := (HX6.out h).2.2; omega), (HX6.out h).2.2⟩
      have T7 : Turn (fun j => w.heap.size ≤ j) w w7 := T6.trans (hT7.mono fun j h => by have := HSZ.out; omega)
      clear hN hW hmm hq hoff hAg hpos hpos' hla hfit hstop hrun hB6 hM6 hW6 hJ6 HX6 hS6 hT7 T6
      go_wp2_with fail
      refine (ringModel_calls w3.heap.size n0 p (zs.take n0) x2 slen slen w1.heap.size 0 S i x3 nl nl w2.heap.size (xs.take nl) w7 hM7 Hl0.out (by omega) (by omega) hJ7 (fun h => by have := HSZ.out; have := HSB.out h; omega) (by omega) hi (fun s hs => by have := HOF.out s hs; omega) (fun s hs => (HOF.out s hs).1)
        (fun h => ⟨(HX7.out h).1, (HX7.out h).2.1, by have := (HX7.out h).2.2; omega⟩) Hlx.out (by omega) HD1.out).mono ?_
      rintro e w8 ⟨rfl, hM8, hT8⟩
      rw [HPQ.out, ← HNN.out]
      rw [← HMM.out] at hM8
      have hJ8 : SIn w8 x2 slen slen w1.heap.size 0 S := hJ7.turnS hT8 (fun h => by have := HSZ.out; have := HSB.out h; omega)
      have HX8 : Hid (0 < nl → x3 = some ⟨w2.heap.size, 0, none⟩ ∧ IsBytes w8 w2.heap.size (xs.take nl)) := fun h =>
        ⟨(HX7.out h).1, (HX7.out h).2.1.turn hT8 (by have := (HX7.out h).2.2; omega)⟩
      have hW8 := hW7.turn hT8 (by have := HSZ.out; omega)
      have hB8 := hB7.turn hT8 (by have := HSZ.out; omega)
      have T8 : Turn (fun j => w.heap.size ≤ j) w w8 := T7.trans (hT8.mono fun j h => by have := HSZ.out; omega)
      clear hM7 hJ7 HX7 hW7 hB7 hT8 T7
      go_wp2_with fail
      refine (bytesWritten_calls x2 slen slen w1.heap.size 0 S i w8 hJ8 (by omega) hi (by have := HD2.out; omega)).mono ?_
      rintro e w9 ⟨rfl, n9, rfl⟩
      rw [← HWW.out]
      go_wp2_with fail
      refine (state_calls _ _ _ _ _ _ _ _ _ _ (hW8.drewN n9)).mono ?_
      rintro e w10 ⟨rfl, n10, rfl⟩
      by_cases hlt : N < nl
      · obtain ⟨hx3, hY8⟩ := HX8.out (by omega)
        have hlx := HLA.out (by omega)
        rw [Nat.zero_add] at hlx
        subst hx3
        subst hlx
        go_wp2_with fail
        refine (same_any w2.heap.size N w2.heap.size N (nl - N) _ _ (fun j => (xs.take nl).getD (N + j) 0) _ (by omega) (fun j hj => (hY8.drewN (n9 + n10)).cell (N + j) (by have := Hlx.out; omega)) (fun j hj => (hY8.drewN (n9 + n10)).cell (N + j) (by have := Hlx.out; omega))).mono ?_
        rintro e w11 ⟨rfl, n11, rfl⟩
        go_wp2_with fail
        refine (sameOutside_calls w.heap.size w3.heap.size n0 q g' mm _ (hB8.drewN _) (hM8.drewN _) HAG.out (by omega) (by omega)).mono ?_
        rintro e w12 ⟨rfl, n12, rfl⟩
        go_wp2_with fail
        refine (fields_calls _ w4.heap.size w.heap.size n0 z' q _ l _ _ u' t y' W (hW8.drewN _) rfl rfl rfl).mono ?_
        rintro e w13 ⟨rfl, n13, rfl⟩
        go_wp2
        go_ret
        exact ⟨rfl, (T8.drewN _).below (Nat.le_refl _) (fun _ h => h)⟩
      · have hNe : N = nl := by omega
        subst hNe
        go_wp2_with fail
        refine (same_zero _ _ _ _ _).mono ?_
        rintro e w11 ⟨rfl, n11, rfl⟩
        go_wp2_with fail
        refine (sameOutside_calls w.heap.size w3.heap.size n0 q g' mm _ (hB8.drewN _) (hM8.drewN _) HAG.out (by omega) (by omega)).mono ?_
        rintro e w12 ⟨rfl, n12, rfl⟩
        go_wp2_with fail
        refine (fields_calls _ w4.heap.size w.heap.size n0 z' q _ l _ _ u' t y' W (hW8.drewN _) rfl rfl rfl).mono ?_
        rintro e w13 ⟨rfl, n13, rfl⟩
        go_wp2
        go_ret
        exact ⟨rfl, (T8.drewN _).below (Nat.le_refl _) (fun _ h => h)⟩

set_option maxRecDepth 100000 in
set_option maxHeartbeats 1000000 in
theorem wide_out0 (a0 : Option Addr) (n0 c0 : Nat) (z P u l t y : Int) (sa : Option Addr) (slen scap : Nat) (la : Option Addr) (nl lcap : Nat) (w : World) (m0 : (n0 : Int) ≤ 9223372036854775807) (m2 : (slen : Int) ≤ 9223372036854775807) (m3 : (nl : Int) ≤ 9223372036854775807)  (hbad : 1048576 < (n0 : Int) + slen + nl) :
    Calls Try.prog 5 #[.slice a0 n0 c0, .int .i64 z, .int .i64 P, .int .i64 u, .int .i64 l, .int .i64 t, .int .i64 y, .slice sa slen scap, .slice la nl lcap] w fun e w' => e = .returned (.bool true) ∧ Below w.heap.size w w' := by
  have hdec : decide (n0 + slen + nl ≤ 1048576) = false := decide_eq_false (by omega)
  go_enter Try.func5, Try.ntmps5
  go_wp2_with (go_at_call 19; refine (zz19_calls _ _ _ _ _ _ _ _ _ _ _ _ _ _ _ _ (by omega) (by omega) (by omega)).mono ?_; rintro e w' ⟨rfl, rfl⟩)
  go_ret
  exact ⟨rfl, Below.refl _ _⟩

set_option maxRecDepth 100000 in
set_option maxHeartbeats 1000000 in
theorem wide_out1 (a0 : Option Addr) (n0 c0 : Nat) (z P u l t y : Int) (sa : Option Addr) (slen scap : Nat) (la : Option Addr) (nl lcap : Nat) (w : World) (m0 : (n0 : Int) ≤ 9223372036854775807) (m2 : (slen : Int) ≤ 9223372036854775807) (m3 : (nl : Int) ≤ 9223372036854775807) (g0 : ¬ 1048576 < (n0 : Int) + slen + nl) (hbad : 524288 < (n0 : Int)) :
    Calls Try.prog 5 #[.slice a0 n0 c0, .int .i64 z, .int .i64 P, .int .i64 u, .int .i64 l, .int .i64 t, .int .i64 y, .slice sa slen scap, .slice la nl lcap] w fun e w' => e = .returned (.bool true) ∧ Below w.heap.size w w' := by
  have hdec : decide (n0 + slen + nl ≤ 1048576) = true := decide_eq_true (by omega)
  go_enter Try.func5, Try.ntmps5
  go_wp2_with (go_at_call 19; refine (zz19_calls _ _ _ _ _ _ _ _ _ _ _ _ _ _ _ _ (by omega) (by omega) (by omega)).mono ?_; rintro e w' ⟨rfl, rfl⟩)
  go_ret
  exact ⟨rfl, Below.refl _ _⟩

set_option maxRecDepth 100000 in
set_option maxHeartbeats 1000000 in
theorem wide_out2 (a0 : Option Addr) (n0 c0 : Nat) (z P u l t y : Int) (sa : Option Addr) (slen scap : Nat) (la : Option Addr) (nl lcap : Nat) (w : World) (m0 : (n0 : Int) ≤ 9223372036854775807) (m2 : (slen : Int) ≤ 9223372036854775807) (m3 : (nl : Int) ≤ 9223372036854775807) (g0 : ¬ 1048576 < (n0 : Int) + slen + nl) (g1 : ¬ 524288 < (n0 : Int)) (hbad : 262144 < (nl : Int)) :
    Calls Try.prog 5 #[.slice a0 n0 c0, .int .i64 z, .int .i64 P, .int .i64 u, .int .i64 l, .int .i64 t, .int .i64 y, .slice sa slen scap, .slice la nl lcap] w fun e w' => e = .returned (.bool true) ∧ Below w.heap.size w w' := by
  have hdec : decide (n0 + slen + nl ≤ 1048576) = true := decide_eq_true (by omega)
  go_enter Try.func5, Try.ntmps5
  go_wp2_with (go_at_call 19; refine (zz19_calls _ _ _ _ _ _ _ _ _ _ _ _ _ _ _ _ (by omega) (by omega) (by omega)).mono ?_; rintro e w' ⟨rfl, rfl⟩)
  go_ret
  exact ⟨rfl, Below.refl _ _⟩

set_option maxRecDepth 100000 in
set_option maxHeartbeats 1000000 in
theorem wide_out3 (a0 : Option Addr) (n0 c0 : Nat) (z P u l t y : Int) (sa : Option Addr) (slen scap : Nat) (la : Option Addr) (nl lcap : Nat) (w : World) (m0 : (n0 : Int) ≤ 9223372036854775807) (m2 : (slen : Int) ≤ 9223372036854775807) (m3 : (nl : Int) ≤ 9223372036854775807) (g0 : ¬ 1048576 < (n0 : Int) + slen + nl) (g1 : ¬ 524288 < (n0 : Int)) (g2 : ¬ 262144 < (nl : Int)) (hbad : 16384 < (slen : Int)) :
    Calls Try.prog 5 #[.slice a0 n0 c0, .int .i64 z, .int .i64 P, .int .i64 u, .int .i64 l, .int .i64 t, .int .i64 y, .slice sa slen scap, .slice la nl lcap] w fun e w' => e = .returned (.bool true) ∧ Below w.heap.size w w' := by
  have hdec : decide (n0 + slen + nl ≤ 1048576) = true := decide_eq_true (by omega)
  go_enter Try.func5, Try.ntmps5
  go_wp2_with (go_at_call 19; refine (zz19_calls _ _ _ _ _ _ _ _ _ _ _ _ _ _ _ _ (by omega) (by omega) (by omega)).mono ?_; rintro e w' ⟨rfl, rfl⟩)
  go_ret
  exact ⟨rfl, Below.refl _ _⟩

theorem wide_walk (a0 : Option Addr) (n0 c0 b0 o0 : Nat) (zs : List Int) (z P u l t y : Int) (sa : Option Addr) (slen scap bs so : Nat) (S : List Sq) (la : Option Addr) (nl lcap bl lo : Nat) (xs : List Int) (w : World)
    (hI : BIn w a0 n0 c0 b0 o0 zs) (hJ : SIn w sa slen scap bs so S) (hX : BIn w la nl lcap bl lo xs) (k0 : n0 ≤ maxLen) (k7 : slen ≤ maxLen) (k8 : nl ≤ maxLen)
    (h1 : -9223372036854775808 ≤ z ∧ z ≤ 9223372036854775807) (h2 : -9223372036854775808 ≤ P ∧ P ≤ 9223372036854775807) (h3 : -9223372036854775808 ≤ u ∧ u ≤ 9223372036854775807) (h4 : -9223372036854775808 ≤ l ∧ l ≤ 9223372036854775807) (h5 : -9223372036854775808 ≤ t ∧ t ≤ 9223372036854775807) (h6 : -9223372036854775808 ≤ y ∧ y ≤ 9223372036854775807) :
    Calls Try.prog 5 #[.slice a0 n0 c0, .int .i64 z, .int .i64 P, .int .i64 u, .int .i64 l, .int .i64 t, .int .i64 y, .slice sa slen scap, .slice la nl lcap] w fun e w' => e = .returned (.bool true) ∧ Below w.heap.size w w' := by
  unfold maxLen at k0 k7 k8
  have m0 : (n0 : Int) ≤ 9223372036854775807 := by omega
  have m2 : (slen : Int) ≤ 9223372036854775807 := by omega
  have m3 : (nl : Int) ≤ 9223372036854775807 := by omega
  by_cases g0 : 1048576 < (n0 : Int) + slen + nl
  · exact wide_out0 a0 n0 c0 z P u l t y sa slen scap la nl lcap w m0 m2 m3  g0
  by_cases g1 : 524288 < (n0 : Int)
  · exact wide_out1 a0 n0 c0 z P u l t y sa slen scap la nl lcap w m0 m2 m3 g0 g1
  by_cases g2 : 262144 < (nl : Int)
  · exact wide_out2 a0 n0 c0 z P u l t y sa slen scap la nl lcap w m0 m2 m3 g0 g1 g2
  by_cases g3 : 16384 < (slen : Int)
  · exact wide_out3 a0 n0 c0 z P u l t y sa slen scap la nl lcap w m0 m2 m3 g0 g1 g2 g3
  exact wide_main a0 n0 c0 b0 o0 zs z P u l t y sa slen scap bs so S la nl lcap bl lo xs w hI hJ hX (by omega) (by omega) (by omega) (by omega) h5

end Go.Proofs.Qxb6602383a
