/-
  FnCarryWideTakesWholeFarBatch INSIDE ITS GUARD.
-/
import Derived.Test.Qxb6602383aLawIn
set_option linter.unusedVariables false
namespace Go.Proofs.Qxb6602383a
open Go.RowKit

/-- The first k sequences lie wholly inside and reach far back. -/
structure FState (L p nl : Nat) (S : List Sq) (k q N : Nat) : Prop where
  eq : q = p + Ring.sumW (S.take k)
  eN : N = Ring.sumN (S.take k)
  far : ∀ j s, j < k → S[j]? = some s → 16 ≤ s.o ∧ s.o ≤ p + Ring.sumW (S.take j) + s.n

theorem FState.next {L p nl : Nat} {S : List Sq} {k q N : Nat} (h : FState L p nl S k q N) {s : Sq} (hs : S[k]? = some s) (h1 : 16 ≤ s.o) (h2 : s.o ≤ q + s.n) : FState L p nl S (k + 1) (q + (s.n + s.l)) (N + s.n) := by
  refine ⟨by rw [Ring.sumW_take hs, h.eq]; omega, by rw [Ring.sumN_take hs, h.eN], fun j x hj hx => ?_⟩
  by_cases e : j = k
  · subst e
    rw [hs] at hx
    cases hx
    exact ⟨h1, by rw [← h.eq]; exact h2⟩
  · exact h.far j x (by omega) hx

/-- Then carryWide takes them all. -/
theorem FState.all {L p nl : Nat} {S : List Sq} {q N i : Nat} (h : FState L p nl S S.length q N) (hq : q + 16 ≤ L) (hN : N + 16 ≤ nl) (hi : i ≤ S.length)
    (hstop : ∀ s, S[i]? = some s → ¬ Wide L (p + Ring.sumW (S.take i)) (nl - Ring.sumN (S.take i)) s) : i = S.length := by
  apply Classical.byContradiction
  intro hne
  have hlt : i < S.length := by omega
  have hs := List.getElem?_eq_getElem hlt
  refine hstop _ hs ?_
  have hf := h.far i _ hlt hs
  have e1 := Ring.sumW_take hs
  have e2 := Ring.sumN_take hs
  have l1 := Ring.sumW_take_le S (i + 1)
  have l2 := Ring.sumN_take_le S (i + 1)
  have t1 := h.eq
  have t2 := h.eN
  rw [List.take_length] at t1 t2
  unfold Wide Ring.bk
  rw [if_neg (by omega)]
  omega

set_option maxRecDepth 100000 in
set_option maxHeartbeats 4000000 in
theorem far_main (a0 : Option Addr) (n0 c0 b0 o0 : Nat) (zs : List Int) (z : Int) (p : Nat) (u l t y : Int) (sa : Option Addr) (slen scap bs so : Nat) (S : List Sq) (la : Option Addr) (nl lcap bl lo : Nat) (xs : List Int) (w : World)
    (hI : BIn w a0 n0 c0 b0 o0 zs) (hJ : SIn w sa slen scap bs so S) (hX : BIn w la nl lcap bl lo xs) (g0 : n0 + slen + nl ≤ 1048576) (g1 : n0 ≤ 524288) (g2 : nl ≤ 262144) (g3 : slen ≤ 16384) (g4 : p ≤ n0) :
    Calls Try.prog 6 #[.slice a0 n0 c0, .int .i64 z, .int .i64 p, .int .i64 u, .int .i64 l, .int .i64 t, .int .i64 y, .slice sa slen scap, .slice la nl lcap] w fun e w' => e = .returned (.bool true) ∧ Below w.heap.size w w' := by
  have hdec : decide (n0 + slen + nl ≤ 1048576) = true := decide_eq_true g0
  go_enter Try.func6, Try.ntmps6
  go_upto_region 9 with (go_at_call 28; refine (zz28_calls _ _ _ _ _ _ _ _ _ _ _ _ _ _ _ _ (by omega) (by omega) (by omega)).mono ?_; rintro e w' ⟨rfl, rfl⟩)
  go_cut [20, 21] (fun v20 v21 wx => v20 = .int .u64 p ∧ v21 = .int .u64 0 ∧ w = wx)
  case first =>
    go_wp2
    go_meet
    case rel => exact ⟨rfl, rfl, rfl⟩
  case rest =>
    obtain ⟨rfl, rfl, rfl⟩ := hcut
    clear hdec
    go_wp2_with fail
    go_loopw [20, 21, 22] (fun v20 v21 v22 wr => ∃ k q N : Nat, wr = w ∧ k ≤ slen ∧ q ≤ n0 ∧ N ≤ nl ∧ v20 = .int .u64 q ∧ v21 = .int .u64 N ∧ v22 = .int .i64 k ∧ FState n0 p nl S k q N) (fun _ _ v22 _ => slen - (intOf v22).toNat)
    case atStart => exact ⟨0, p, 0, rfl, Nat.zero_le _, g4, Nat.zero_le _, rfl, rfl, rfl, rfl, rfl, fun j s hj => absurd hj (by omega)⟩
    case round =>
      obtain ⟨k, q, N, rfl, hk, hq, hN, rfl, rfl, rfl, hF⟩ := hrel
      rename World => w
      by_cases hlt : k < slen
      · obtain ⟨s, hs'⟩ : ∃ s, S[k]? = some s := ⟨_, List.getElem?_eq_getElem (by have := hJ.len; omega)⟩
        obtain ⟨hsa, hbs⟩ := hJ.at0 (by omega)
        subst hsa
        obtain ⟨e0, e1, e2⟩ := hJ.seqs k s hs'
        have hmem : s ∈ S := List.mem_of_getElem? hs'
        have hn32 := (hJ.small s hmem).1
        have ho32 := (hJ.small s hmem).2.1
        have hl32 := (hJ.small s hmem).2.2
        have HSK : Hid (S[k]? = some s) := hs'
        clear hs' hmem
        by_cases h1 : s.o < 16
        · go_wp2
          go_ret
          exact ⟨rfl, Below.refl _ _⟩
        by_cases h2 : q + s.n < s.o
        · go_wp2
          go_ret
          exact ⟨rfl, Below.refl _ _⟩
        by_cases h3 : n0 < q + (s.n + s.l)
        · go_wp2
          go_ret
          exact ⟨rfl, Below.refl _ _⟩
        by_cases h4 : nl < N + s.n
        · go_wp2
          go_ret
          exact ⟨rfl, Below.refl _ _⟩
        have HN := hF.next HSK.out (by omega) (by omega)
        go_wp2
        go_roundw
        case rel => exact ⟨k + 1, _, _, trivial, by omega, by omega, by omega, by go_num, by go_num, by go_num, HN⟩
        case measure => simp [intOf]; omega
      · by_cases h5 : n0 < q + 16
        · go_wp2
          go_ret
          exact ⟨rfl, Below.refl _ _⟩
        by_cases h6 : nl < N + 16
        · go_wp2
          go_ret
          exact ⟨rfl, Below.refl _ _⟩
        have hkl : k = slen := by omega
        subst hkl
        go_wp2_with fail
        refine (clone_all a0 b0 o0 n0 c0 zs w hI.nil hI.at0 hI.len (by omega) hI.cell).mono ?_
        rintro e w1 ⟨x1, rfl, hq1, hT1⟩
        obtain ⟨hx1, hB1⟩ := hq1 (by omega)
        subst hx1
        clear hq1
        have hJ1 := hJ.turn hT1
        have hX1 := hX.turn hT1
        go_wp2_with fail
        refine (cloneSeqs_all sa bs so k scap S w1 hJ1.nil hJ1.at0 hJ1.len (by omega) hJ1.seqs).mono ?_
        rintro e w2 ⟨x2, rfl, hA2, hS2, hT2⟩
        have hX2 := hX1.turn hT2
        go_wp2_with fail
        refine (clone_all la bl lo nl lcap xs w2 hX2.nil hX2.at0 hX2.len (by omega) hX2.cell).mono ?_
        rintro e w3 ⟨x3, rfl, hq3, hT3⟩
        obtain ⟨hx3, hB3⟩ := hq3 (by omega)
        subst hx3
        clear hq3
        go_wp2_with fail
        refine (new_calls w3 w.heap.size n0 z p u l t y).mono ?_
        rintro e w4 ⟨rfl, hW4, hs4, hT4⟩
        have HS4 : Hid (w4.heap.size = w3.heap.size + 1) := hs4
        clear hs4
        have hz1 := hB1.lt
        have hz2 := hT2.size
        have hz3 := hB3.lt
        have hS4 : SeqAt w4 w1.heap.size 0 S := by
          by_cases h0 : k = 0
          · intro i s hi
            have e : S = [] := List.eq_nil_of_length_eq_zero (hJ.len.trans h0)
            rw [e] at hi
            simp at hi
          · have := (hA2 (by omega)).2
            exact (hS2.turn hT3 this (fun x => x)).turn hT4 (by omega) (fun x => x)
        go_wp2_with fail
        refine (toSequences_all x2 w1.heap.size 0 k k S w4 (fun h => ⟨(hA2 h).1, by have := (hA2 h).2; have := HS4.out; omega⟩) hJ.len (by omega) hS4).mono ?_
        rintro e w5 ⟨rfl, hz5, hS5, hT5⟩
        have hB5 : IsBytes w5 w.heap.size (zs.take n0) := ((((hB1.turn hT2 (fun x => x)).turn hT3 (fun x => x)).turn hT4 (fun x => x)).turn hT5 (fun x => x))
        have hX5 : IsBytes w5 w2.heap.size (xs.take nl) := (hB3.turn hT4 (fun x => x)).turn hT5 (fun x => x)
        have hl0 : (zs.take n0).length = n0 := by have := hI.len; simp; omega
        have hlx : (xs.take nl).length = nl := by have := hX.len; simp; omega
        have hz4 := HS4.out
        have Hso : Hid (∀ s ∈ S, s.o ≤ n0) := by
          intro s hs
          obtain ⟨i, hi⟩ := List.getElem?_of_mem hs
          have hil : i < k := by rw [← hJ.len]; exact (List.getElem?_eq_some_iff.1 hi).1
          have h1 := hF.far i s hil hi
          have h2 := Ring.sumW_take_le S (i + 1)
          rw [Ring.sumW_take hi] at h2
          have h3 := hF.eq
          rw [← hJ.len, List.take_length] at h3
          omega
        have Hlx : Hid ((xs.take nl).length = nl) := hlx
        have Hl0 : Hid ((zs.take n0).length = n0) := hl0
        clear hlx hl0 hz4
        go_wp2_with fail
        refine (zzCarryWide_calls w5 w3.heap.size w.heap.size n0 z p u l t y (zs.take n0) (some ⟨w4.heap.size, 0, none⟩) w4.heap.size 0 k k S (some ⟨w2.heap.size, 0, none⟩) w2.heap.size 0 nl nl (xs.take nl) (xs.take nl)
          (hW4.turn hT5 (fun x => x)) hB5 (by omega) Hl0.out (by omega) g4 hJ.len (by omega) (fun _ => ⟨rfl, hz5, by have := HS4.out; omega⟩) hS5 hJ.small Hso.out
          (fun _ => ⟨rfl, hX5, by have := Hlx.out; omega, by omega, by rw [List.drop_zero, List.take_take, Nat.min_self]⟩) Hlx.out (Nat.le_refl _) (by omega)).mono ?_
        rintro e w6 ⟨i, la', g', rfl, hi, hla, hstop, hW6, hB6, hg6, hrun, hfit, hT6⟩
        have hF' : FState n0 p nl S S.length q N := by rw [hJ.len]; exact hF
        have hie := hF'.all (by omega) (by omega) (by rw [hJ.len]; exact hi) hstop
        have hik : i = k := hie.trans hJ.len
        subst hik
        have eS : S.take i = S := List.take_of_length_le (by have := hJ.len; omega)
        have eq := hF.eq
        have eN := hF.eN
        rw [eS] at eq eN hla hW6 ⊢
        rw [← eN] at hla ⊢
        rw [Nat.zero_add] at hla
        have hla' := hla (by omega)
        subst hla'
        have ew : (Ring.sumW S : Int) = (q : Int) - p := by omega
        rw [ew, if_neg (by omega), show (p : Int) + ((q : Int) - p) = q by omega] at hW6
        have hX6 : IsBytes w6 w2.heap.size (xs.take nl) := hX5.turn hT6 (by omega)
        have TT : Turn (fun j => w.heap.size ≤ j) w w6 :=
          ((hT1.mono fun _ h => h.elim).trans ((hT2.mono fun _ h => h.elim).trans ((hT3.mono fun _ h => h.elim).trans ((hT4.mono fun _ h => h.elim).trans ((hT5.mono fun _ h => h.elim).trans (hT6.mono fun j h => by omega))))))
        clear hla eq eN ew hF' hie eS hB5 hX5 hS5 hS4 hB1 hB3 hS2 hA2 hJ1 hX1 hX2 hrun hfit hstop
        have hpq : p ≤ q := by have := hF.eq; omega
        go_wp2_with fail
        refine (same_any w2.heap.size N w2.heap.size N (nl - N) _ _ (fun i => (xs.take nl).getD (N + i) 0) w6 (by omega) (fun i hi => hX6.cell (N + i) (by have := Hlx.out; omega)) (fun i hi => hX6.cell (N + i) (by have := Hlx.out; omega))).mono ?_
        rintro e w7 ⟨rfl, n7, rfl⟩
        go_wp2_with fail
        refine (fields_calls _ _ _ _ _ _ _ _ _ _ u t y _ (hW6.drewN n7) rfl rfl rfl).mono ?_
        rintro e w8 ⟨rfl, n8, rfl⟩
        go_wp2
        go_ret
        exact ⟨rfl, (TT.drewN _).below (Nat.le_refl _) (fun _ h => h)⟩

end Go.Proofs.Qxb6602383a
