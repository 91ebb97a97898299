/-
  FnCarryAgreesWithWriteAndRepeat, WALKED OUT OF CONTRACTS.
-/
import Derived.Test.Qxb6602383aWideMain
import Derived.Test.Qxb6602383aCarry
import Derived.Test.Qxb6602383aAhead
set_option linter.unusedVariables false
namespace Go.Proofs.Qxb6602383a
open Go.RowKit

set_option maxRecDepth 100000 in
set_option maxHeartbeats 8000000 in
theorem agree_main (a0 : Option Addr) (n0 c0 b0 o0 : Nat) (zs : List Int) (z P u l t y : Int) (sa : Option Addr) (slen scap bs so : Nat) (S : List Sq) (la : Option Addr) (nl lcap bl lo : Nat) (xs : List Int) (w : World)
    (hI : BIn w a0 n0 c0 b0 o0 zs) (hJ : SIn w sa slen scap bs so S) (hX : BIn w la nl lcap bl lo xs) (g0 : n0 + slen + nl ≤ 1048576) (g1 : n0 ≤ 524288) (g2 : nl ≤ 262144) (g3 : slen ≤ 16384) (ht : -9223372036854775808 ≤ t ∧ t ≤ 9223372036854775807) :
    Calls Try.prog 8 #[.slice a0 n0 c0, .int .i64 z, .int .i64 P, .int .i64 u, .int .i64 l, .int .i64 t, .int .i64 y, .slice sa slen scap, .slice la nl lcap] w fun e w' => e = .returned (.bool true) ∧ Below w.heap.size w w' := by
  have hdec : decide (n0 + slen + nl ≤ 1048576) = true := decide_eq_true g0
  go_enter Try.func8, Try.ntmps8
  go_wp2_with (go_at_call 31; refine (zz31_calls _ _ _ _ _ _ _ _ _ _ _ _ _ _ _ _ (by omega) (by omega) (by omega)).mono ?_; rintro e w' ⟨rfl, rfl⟩)
  refine (ringState_calls _ _ _ _ _ _ (by omega) (by omega)).mono ?_
  rintro e w' ⟨B, rfl, hRB, rfl⟩
  cases B with
  | false =>
    go_wp2
    go_ret
    exact ⟨rfl, Below.refl _ _⟩
  | true =>
    obtain ⟨r1, r2, r3, r4, r5, r6, r7⟩ := hRB rfl
    obtain ⟨p, rfl⟩ := Int.eq_ofNat_of_zero_le r1
    obtain ⟨u', rfl⟩ := Int.eq_ofNat_of_zero_le r3
    obtain ⟨y', rfl⟩ := Int.eq_ofNat_of_zero_le r5
    obtain ⟨z', rfl⟩ := Int.eq_ofNat_of_zero_le (show 0 ≤ z by omega)
    clear hRB
    go_wp2_with fail
    refine (carryDomain_at sa slen scap bs so S nl (n0 - u') y' z' _ _ hJ (by omega) (by omega) (by omega) (by omega) (by omega) (by omega)).mono ?_
    rintro e w' ⟨B, rfl, hDB, rfl⟩
    cases B with
    | false =>
      go_wp2
      go_ret
      exact ⟨rfl, Below.refl _ _⟩
    | true =>
      obtain ⟨d1, d2, d3⟩ := hDB rfl
      have HD1 : Hid (Ring.sumN S ≤ nl) := d1
      have HD2 : Hid (Ring.sumW S ≤ n0 - u') := d2
      have HD3 : Hid (∀ s ∈ S, 1 ≤ s.o ∧ s.o ≤ z') := d3
      clear hDB d1 d2 d3
      have hl0 : (zs.take n0).length = n0 := by have := hI.len; simp; omega
      have Hl0 : Hid ((zs.take n0).length = n0) := hl0
      have hlx : (xs.take nl).length = nl := by have := hX.len; simp; omega
      have Hlx : Hid ((xs.take nl).length = nl) := hlx
      clear hl0 hlx hdec
      go_wp2_with fail
      refine (clone_all a0 b0 o0 n0 c0 zs w hI.nil hI.at0 hI.len (by omega) hI.cell).mono ?_
      rintro e w1 ⟨x1, rfl, hq1, hT1⟩
      obtain ⟨hx1, hB1⟩ := hq1 (by omega)
      subst hx1
      clear hq1
      have hJ1 := hJ.turn hT1
      have hX1 := hX.turn hT1
      go_wp2_with fail
      refine (cloneSeqs_all sa bs so slen scap S w1 hJ1.nil hJ1.at0 hJ1.len (by omega) hJ1.seqs).mono ?_
      rintro e w2 ⟨x2, rfl, hA2, hS2, hT2⟩
      have hX2 := hX1.turn hT2
      have HA2 : Hid (0 < slen → x2 = some ⟨w1.heap.size, 0, none⟩ ∧ w1.heap.size < w2.heap.size) := hA2
      clear hA2
      have hJ2 : SIn w2 x2 slen slen w1.heap.size 0 S := ⟨fun h => by
          by_cases h0 : 0 < slen
          · have := (HA2.out h0).1; rw [h] at this; cases this
          · omega, fun h => HA2.out h, hJ.len, hS2, hJ.small⟩
      go_wp2_with fail
      refine (clone_all la bl lo nl lcap xs w2 hX2.nil hX2.at0 hX2.len (by omega) hX2.cell).mono ?_
      rintro e w3 ⟨x3, rfl, hq3, hT3⟩
      have HQ3 : Hid (0 < nl → x3 = some ⟨w2.heap.size, 0, none⟩ ∧ IsBytes w3 w2.heap.size (xs.take nl)) := hq3
      clear hq3
      have hB3 : IsBytes w3 w.heap.size (zs.take n0) := (hB1.turn hT2 (fun x => x)).turn hT3 (fun x => x)
      have hz1 := hB1.lt
      have hz2 := hT2.size
      have hz3 := hT3.size
      go_wp2_with fail
      refine (clone_any w.heap.size 0 n0 n0 (zs.take n0) w3 hB3.lt (Nat.le_of_eq Hl0.out.symm) (by omega) (fun i hi => by rw [Nat.zero_add]; exact hB3.cell i (by have := Hl0.out; omega))).mono ?_
      rintro e w4 ⟨rfl, hB4', hs4, hT4⟩
      have HS4 : Hid (w4.heap.size = w3.heap.size + 1) := hs4
      clear hs4
      have hB4 : IsBytes w4 w3.heap.size (zs.take n0) := by
        rw [List.take_take, Nat.min_self] at hB4'
        exact hB4'
      clear hB4'
      go_wp2_with fail
      refine (new_calls w4 w.heap.size n0 z' p u' l t y').mono ?_
      rintro e w5 ⟨rfl, hW5, hs5, hT5⟩
      have HS5 : Hid (w5.heap.size = w4.heap.size + 1) := hs5
      clear hs5
      have hJ5 := ((hJ2.turn hT3).turn hT4).turn hT5
      go_wp2_with fail
      refine (toSequences_all x2 w1.heap.size 0 slen slen S w5 hJ5.at0 hJ5.len (by omega) hJ5.seqs).mono ?_
      rintro e w6 ⟨rfl, hz6, hS6, hT6⟩
      have hW6 := hW5.turn hT6 (fun x => x)
      have hJ6 := hJ5.turn hT6
      have hB6 : IsBytes w6 w.heap.size (zs.take n0) := ((hB3.turn hT4 (fun x => x)).turn hT5 (fun x => x)).turn hT6 (fun x => x)
      have hM6 : IsBytes w6 w3.heap.size (zs.take n0) := (hB4.turn hT5 (fun x => x)).turn hT6 (fun x => x)
      have HX6 : Hid (0 < nl → x3 = some ⟨w2.heap.size, 0, none⟩ ∧ IsBytes w6 w2.heap.size (xs.take nl) ∧ w2.heap.size < w3.heap.size) := fun h =>
        ⟨(HQ3.out h).1, ((((HQ3.out h).2.turn hT4 (fun x => x)).turn hT5 (fun x => x)).turn hT6 (fun x => x)), (HQ3.out h).2.lt⟩
      have T6 : Turn (fun j => w.heap.size ≤ j) w w6 :=
        (hT1.mono fun _ h => h.elim).trans ((hT2.mono fun _ h => h.elim).trans ((hT3.mono fun _ h => h.elim).trans ((hT4.mono fun _ h => h.elim).trans ((hT5.mono fun _ h => h.elim).trans (hT6.mono fun _ h => h.elim)))))
      have HSZ : Hid (w.heap.size < w1.heap.size ∧ w1.heap.size ≤ w2.heap.size ∧ w2.heap.size ≤ w3.heap.size ∧ w4.heap.size = w3.heap.size + 1 ∧ w5.heap.size = w4.heap.size + 1 ∧ w5.heap.size < w6.heap.size) := ⟨hz1, hz2, hz3, HS4.out, HS5.out, hz6⟩
      have HSB : Hid (0 < slen → w1.heap.size < w2.heap.size) := fun h => (HA2.out h).2
      clear HQ3 HA2 hz1 hz2 hz3 HS4 HS5 hz6 hJ1 hJ2 hJ5 hX1 hX2 hB1 hB3 hB4 hW5 hS2 hT1 hT2 hT3 hT4 hT5 hT6
      have G : CGiven w6 w4.heap.size w.heap.size n0 z' p u' y' S (xs.take nl) (xs.take nl) (zs.take n0) w2.heap.size 0 nl nl w5.heap.size 0 :=
        { ne := by have := HSZ.out; omega, hL := by omega, hp := by omega, u0 := by omega, y0 := by omega, yz := by omega, zL := by omega, mL := Hl0.out, sumN := HD1.out, sumW := by have := HD2.out; omega,
          offs := fun s hs => by have := HD3.out s hs; omega, small := hJ.small, slm := by have := hJ.len; omega, seqs := hS6, sat := fun _ => by have := HSZ.out; omega,
          lits := fun h => ⟨(HX6.out h).2.1, by have := Hlx.out; omega, by have := HSZ.out; omega, by have := HSZ.out; have := (HX6.out h).2.2; omega, by rw [List.drop_zero, List.take_take, Nat.min_self]⟩,
          Yl := Hlx.out, cap := Nat.le_refl _, capm := by omega, bw := by have := HSZ.out; omega }
      have HG : Hid (CGiven w6 w4.heap.size w.heap.size n0 z' p u' y' S (xs.take nl) (xs.take nl) (zs.take n0) w2.heap.size 0 nl nl w5.heap.size 0) := G
      clear G
      have HWT : Hid (wrap64 t = t) := wrap_small ht.1 ht.2
      go_wp2_with fail
      refine (carry_calls w6 w4.heap.size w.heap.size n0 z' p u' l t y' S (xs.take nl) (xs.take nl) (zs.take n0) w2.heap.size 0 nl nl w5.heap.size 0 slen x3 (some ⟨w5.heap.size, 0, none⟩)
        HG.out hW6 hB6 HWT.out (fun h => (HX6.out h).1) (fun _ => rfl) hJ.len rfl).mono ?_
      rintro e w7 ⟨N, W, q, r, rc, la7, sa7, gk, mk, rfl, C7⟩
      have hT7 := C7.turn
      have hq := C7.lt HG.out
      obtain ⟨hNl, hWl⟩ := C7.nle HG.out
      have hrr : rc = r := by have := C7.er; have := C7.erc; omega
      subst hrr
      have her : rc = nl - N := C7.er
      subst her
      have hM7 : IsBytes w7 w3.heap.size (zs.take n0) := hM6.turn hT7 (by have := HSZ.out; omega)
      have hJ7 : SIn w7 x2 slen slen w1.heap.size 0 S := hJ6.turnS hT7 (fun h => by have := HSZ.out; have := HSB.out h; omega)
      have HX7 : Hid (0 < nl → x3 = some ⟨w2.heap.size, 0, none⟩ ∧ IsBytes w7 w2.heap.size (xs.take nl) ∧ w2.heap.size < w3.heap.size) := fun h =>
        ⟨(HX6.out h).1, (HX6.out h).2.1.turn hT7 (by have := HSZ.out; have := (HX6.out h).2.2; omega), (HX6.out h).2.2⟩
      have T7 : Turn (fun j => w.heap.size ≤ j) w w7 := T6.trans (hT7.mono fun j h => by have := HSZ.out; omega)
      have hz7 := hT7.size
      clear hB6 hM6 hW6 hJ6 HX6 hS6 T6
      go_wp2_with fail
      refine (new_calls w7 w3.heap.size n0 z' p u' l t y').mono ?_
      rintro e w8 ⟨rfl, hV8, hs8, hT8⟩
      have HS8 : Hid (w8.heap.size = w7.heap.size + 1) := hs8
      clear hs8
      have hM8 : IsBytes w8 w3.heap.size (zs.take n0) := hM7.turn hT8 (fun h => h)
      have hJ8 : SIn w8 x2 slen slen w1.heap.size 0 S := hJ7.turn hT8
      have hW8 := C7.win.turn hT8 (fun h => h)
      have hB8 := C7.bytes.turn hT8 (fun h => h)
      have HX8 : Hid (0 < nl → x3 = some ⟨w2.heap.size, 0, none⟩ ∧ IsBytes w8 w2.heap.size (xs.take nl) ∧ w2.heap.size < w3.heap.size) := fun h =>
        ⟨(HX7.out h).1, (HX7.out h).2.1.turn hT8 (fun h => h), (HX7.out h).2.2⟩
      have T8 : Turn (fun j => w.heap.size ≤ j) w w8 := T7.trans (hT8.mono fun _ h => h.elim)
      have G2 : CGiven w8 w7.heap.size w3.heap.size n0 z' p u' y' S (xs.take nl) (xs.take nl) (zs.take n0) w2.heap.size 0 nl nl w1.heap.size 0 :=
        { ne := by have := HSZ.out; omega, hL := by omega, hp := by omega, u0 := by omega, y0 := by omega, yz := by omega, zL := by omega, mL := Hl0.out, sumN := HD1.out, sumW := by have := HD2.out; omega,
          offs := fun s hs => by have := HD3.out s hs; omega, small := hJ.small, slm := by have := hJ.len; omega, seqs := hJ8.seqs, sat := fun h => by have := HSZ.out; have := HSB.out (by have := hJ.len; omega); have := HS8.out; omega,
          lits := fun h => ⟨(HX8.out h).2.1, by have := Hlx.out; omega, by have := (HX8.out h).2.2; omega, by have := HSZ.out; omega, by rw [List.drop_zero, List.take_take, Nat.min_self]⟩,
          Yl := Hlx.out, cap := Nat.le_refl _, capm := by omega, bw := by have := HSZ.out; have := HS8.out; omega }
      have HG2 : Hid (CGiven w8 w7.heap.size w3.heap.size n0 z' p u' y' S (xs.take nl) (xs.take nl) (zs.take n0) w2.heap.size 0 nl nl w1.heap.size 0) := G2
      clear G2 hM7 hJ7 HX7 T7
      have C0 := cstate_start (l := l) (t := t) (la := some ⟨w2.heap.size, 0, none⟩) (sa := some ⟨w1.heap.size, 0, none⟩) HG2.out hV8 hM8 HWT.out (fun _ => rfl) (fun _ => rfl)
      go_wp2_with fail
      go_loopw [24, 25] (fun v24 v25 wr => ∃ (k N W q : Nat) (la sa : Option Addr) (gk : List Int), k ≤ slen ∧ N ≤ nl ∧ v24 = .int .i64 N ∧ v25 = .int .i64 k ∧ CState w8 w7.heap.size w3.heap.size n0 z' p u' l t y' S (xs.take nl) (zs.take n0) w2.heap.size 0 nl nl w1.heap.size 0 k N W q (nl - N) (nl - N) la sa gk gk wr)
        (fun _ v25 _ => slen - (intOf v25).toNat)
      case atStart => exact ⟨0, 0, 0, p, _, _, _, Nat.zero_le _, Nat.zero_le _, rfl, rfl, C0⟩
      case round =>
        rename World => wo
        clear C0 hV8 hM8
        obtain ⟨k, Nk, Wk, qk, lak, sak, gg, hk, hNk, rfl, rfl, C⟩ := hrel
        by_cases hlt : k < slen
        · obtain ⟨s, hs'⟩ : ∃ s, S[k]? = some s := ⟨_, List.getElem?_eq_getElem (by have := hJ.len; omega)⟩
          obtain ⟨hx2, hbs⟩ := hJ8.at0 (by omega)
          subst hx2
          obtain ⟨e0, e1, e2⟩ := (HG2.out.seqsAt C.turn) k s hs'
          simp only [Nat.zero_add] at e0 e1 e2
          have hmem : s ∈ S := List.mem_of_getElem? hs'
          have hn32 := (hJ.small s hmem).1
          have ho32 := (hJ.small s hmem).2.1
          have hl32 := (hJ.small s hmem).2.2
          obtain ⟨ho1, hoz⟩ := HD3.out s hmem
          have hqk := C.lt HG2.out
          have hnr : Nk + s.n ≤ nl := by
            have h1 := Ring.sumN_take hs'
            have h2 := Ring.sumN_take_le S (k + 1)
            have h3 := HD1.out
            have h4 := C.eN
            omega
          have hlr : (Wk : Int) + s.n + s.l ≤ n0 - u' := by
            have h1 := Ring.sumW_take hs'
            have h2 := Ring.sumW_take_le S (k + 1)
            have h3 := HD2.out
            have h4 := C.eW
            omega
          have HSK : Hid (S[k]? = some s) := hs'
          have HN2 : Hid ((((xs.take nl).drop Nk).take s.n).length = s.n) := by
            show _ = _
            have := Hlx.out
            rw [List.length_take, List.length_drop]
            omega
          clear hs' hmem
          have HWR : Hid (∀ (pa : Option Addr) (pcap : Nat), (0 < s.n → pa = some ⟨w2.heap.size, Nk, none⟩) → s.n ≤ pcap → pcap ≤ 1048576 → Calls Try.prog 32 #[.pointer (some ⟨w7.heap.size, 0, none⟩), .slice pa s.n pcap] wo fun e w' => e = .returned (.int .i64 s.n) ∧ ∃ q mq, LState wo w7.heap.size w3.heap.size n0 z' qk (u' + Wk) l (wrap64 (t + Wk)) (min (y' + Wk) z') (((xs.take nl).drop Nk).take s.n) gg s.n q mq w') :=
            fun pa pcap hpa hc1 hc2 => write_calls wo w7.heap.size w3.heap.size n0 z' qk (u' + Wk) l (wrap64 (t + Wk)) (min (y' + Wk) z') gg pa w2.heap.size Nk s.n pcap (xs.take nl) (((xs.take nl).drop Nk).take s.n) C.win C.bytes HG2.out.ne C.agree.1 (by omega) hqk (by omega) (by omega) (by omega) (by omega) (by omega) (wrap_wrap _)
              (fun h => ⟨hpa h, HG2.out.litsAt C.turn (by omega), by have := Hlx.out; omega, (HG2.out.lits (by omega)).2.2.1, (HG2.out.lits (by omega)).2.2.2.1, rfl⟩) HN2.out hc1 hc2
          by_cases hcs : Nk < nl
          · obtain ⟨hx3, _, _⟩ := HX8.out (by omega)
            subst hx3
            go_wp2_with fail
            refine (HWR.out _ _ (fun _ => rfl) (by omega) (by omega)).mono ?_
            rintro e wW ⟨rfl, q2, g2, L2⟩
            have hg2 : g2.length = n0 := by
              have := Ring.lay_len n0 ((((xs.take nl).drop Nk).take s.n).take s.n) (gg, qk)
              rw [L2.em] at this
              exact this.trans C.agree.1
            have HGG : Hid (g2.length = n0) := hg2
            have hq2 : q2 < n0 := by rw [L2.eq]; exact Ring.adv_lt hqk (by omega)
            obtain ⟨f0, f1, f2⟩ := (HG2.out.seqsAt (C.turn.trans L2.turn)) k s HSK.out
            simp only [Nat.zero_add] at f0 f1 f2
            clear hg2 e0 e1 e2 HWR
            go_upto_region 24 with fail
            refine region_tail 13 follows (by kernel_rfl) _ _ (by simp only [List.take_succ_cons, List.take_zero]; rfl) (by simp only [List.drop_succ_cons, List.drop_zero]; rfl) (fun KK hKK => ?_)
            repeat (go_big_quiet_step (fail))
            refine wpQuiet_nil (hKK.out _ ?_)
            clear hKK KK
            go_wp2_with fail
            refine (repeat_calls _ w7.heap.size w3.heap.size n0 z' q2 _ l _ _ s.o s.l s.l g2 L2.win.drew L2.bytes.drew HG2.out.ne HGG.out (by omega) hq2 (by omega) (by omega) (by omega) (by omega) (by omega) ho1 (by omega) (by omega) (wrap_wrap _) (by omega)).mono ?_
            rintro e wR ⟨rfl, hWR, hBR, hTR⟩
            have CN := C.one (la' := some ⟨w2.heap.size, 0 + Nk + s.n, none⟩) (sa' := some ⟨w1.heap.size, 0 + (k + 1) * 3, none⟩) HG2.out HSK.out (Turn.refl _ _) L2 hWR hBR ((Turn.refl _ wW).drew.trans hTR) (fun _ => rfl) (fun _ => rfl)
            have em := L2.em
            rw [List.take_take, Nat.min_self] at em
            rw [em] at CN
            rw [show nl - Nk - s.n = nl - (Nk + s.n) by omega] at CN
            clear em f0 f1 f2 L2 hWR hBR hTR C
            go_wp2
            go_roundw
            case rel => exact ⟨k + 1, Nk + s.n, _, _, _, _, _, by omega, by omega, by go_num, by go_num, CN⟩
            case measure => simp [intOf]; omega
          · have hNe : Nk = nl := by omega
            subst hNe
            have hn0 : s.n = 0 := by omega
            have HN0 : Hid (s.n = 0) := hn0
            clear hn0
            go_wp2_with fail
            have HW0 := HWR.out x3 0 (fun h => absurd h (by have := HN0.out; omega)) (by have := HN0.out; omega) (by omega)
            rw [show (#[Value.pointer (some ⟨w7.heap.size, 0, none⟩), .slice x3 s.n 0] : Array Value) = #[.pointer (some ⟨w7.heap.size, 0, none⟩), .slice x3 0 0] by rw [HN0.out]] at HW0
            refine HW0.mono ?_
            clear HW0
            rintro e wW ⟨rfl, q2, g2, L2⟩
            have hg2 : g2.length = n0 := by
              have := Ring.lay_len n0 ((((xs.take Nk).drop Nk).take s.n).take s.n) (gg, qk)
              rw [L2.em] at this
              exact this.trans C.agree.1
            have HGG : Hid (g2.length = n0) := hg2
            have hq2 : q2 < n0 := by rw [L2.eq]; exact Ring.adv_lt hqk (by omega)
            obtain ⟨f0, f1, f2⟩ := (HG2.out.seqsAt (C.turn.trans L2.turn)) k s HSK.out
            simp only [Nat.zero_add] at f0 f1 f2
            clear hg2 e0 e1 e2 HWR
            go_upto_region 24 with fail
            refine region_tail 13 follows (by kernel_rfl) _ _ (by simp only [List.take_succ_cons, List.take_zero]; rfl) (by simp only [List.drop_succ_cons, List.drop_zero]; rfl) (fun KK hKK => ?_)
            repeat (go_big_quiet_step (fail))
            refine wpQuiet_nil (hKK.out _ ?_)
            clear hKK KK
            go_wp2_with fail
            refine (repeat_calls _ w7.heap.size w3.heap.size n0 z' q2 _ l _ _ s.o s.l s.l g2 L2.win.drew L2.bytes.drew HG2.out.ne HGG.out (by omega) hq2 (by omega) (by omega) (by omega) (by omega) (by omega) ho1 (by omega) (by omega) (wrap_wrap _) (by omega)).mono ?_
            rintro e wR ⟨rfl, hWR, hBR, hTR⟩
            have CN := C.one (la' := some ⟨w2.heap.size, 0 + Nk + s.n, none⟩) (sa' := some ⟨w1.heap.size, 0 + (k + 1) * 3, none⟩) HG2.out HSK.out (Turn.refl _ _) L2 hWR hBR ((Turn.refl _ wW).drew.trans hTR) (fun _ => rfl) (fun _ => rfl)
            have em := L2.em
            rw [List.take_take, Nat.min_self] at em
            rw [em] at CN
            rw [show Nk - Nk - s.n = Nk - (Nk + s.n) by omega] at CN
            clear em f0 f1 f2 L2 hWR hBR hTR C
            go_wp2
            go_roundw
            case rel => exact ⟨k + 1, Nk + s.n, _, _, _, _, _, by omega, by omega, by go_num, by go_num, CN⟩
            case measure => simp [intOf]; omega
        · have hkl : k = slen := by omega
          subst hkl
          have hrun : ((mk, q) : List Int × Nat) = (gg, qk) := by
            have h1 := C7.run
            rw [hJ.len] at h1
            exact h1.symm.trans C.run
          have hNN : Nk = N := by have h1 := C7.eN; rw [hJ.len] at h1; rw [h1]; exact C.eN
          have hWW : Wk = W := by have h1 := C7.eW; rw [hJ.len] at h1; rw [h1]; exact C.eW
          cases hrun
          subst hNN
          subst hWW
          have hWo := hW8.turn C.turn (by have := HSZ.out; omega)
          have hBo := hB8.turn C.turn (by have := HSZ.out; omega)
          have hVo := C.win
          have hMo := C.bytes
          have HAG : Hid (Ring.Agree n0 q gk mk) := C7.agree
          have HLA : Hid (0 < nl - Nk → la7 = some ⟨w2.heap.size, 0 + Nk, none⟩) := C7.laddr
          have HXO : Hid (0 < nl → x3 = some ⟨w2.heap.size, 0, none⟩ ∧ IsBytes wo w2.heap.size (xs.take nl)) := fun h => ⟨(HX8.out h).1, HG2.out.litsAt C.turn h⟩
          have TT : Turn (fun j => w.heap.size ≤ j) w wo := T8.trans (C.turn.mono fun j h => by have := HSZ.out; omega)
          clear C C7 hW8 hB8 HX8 T8 hJ8
          by_cases hcs : Nk < nl
          · obtain ⟨hx3, hYo⟩ := HXO.out (by omega)
            have hlx := HLA.out (by omega)
            rw [Nat.zero_add] at hlx
            subst hx3
            subst hlx
            go_wp2_with fail
            refine (same_any w2.heap.size Nk w2.heap.size Nk (nl - Nk) _ _ (fun j => (xs.take nl).getD (Nk + j) 0) _ (by omega) (fun j hj => hYo.cell (Nk + j) (by have := Hlx.out; omega)) (fun j hj => hYo.cell (Nk + j) (by have := Hlx.out; omega))).mono ?_
            rintro e w10 ⟨rfl, n10, rfl⟩
            go_wp2_with fail
            refine (stateAhead_calls _ w4.heap.size w.heap.size w7.heap.size w3.heap.size n0 z' q _ l _ _ gk mk (hWo.drewN _) (hVo.drewN _) (hBo.drewN _) (hMo.drewN _) HAG.out (by omega) hq).mono ?_
            rintro e w11 ⟨rfl, n11, rfl⟩
            go_wp2
            go_ret
            exact ⟨rfl, (TT.drewN _).below (Nat.le_refl _) (fun _ h => h)⟩
          · have hNe : Nk = nl := by omega
            subst hNe
            go_wp2_with fail
            refine (same_zero _ _ _ _ _).mono ?_
            rintro e w10 ⟨rfl, n10, rfl⟩
            go_wp2_with fail
            refine (stateAhead_calls _ w4.heap.size w.heap.size w7.heap.size w3.heap.size n0 z' q _ l _ _ gk mk (hWo.drewN _) (hVo.drewN _) (hBo.drewN _) (hMo.drewN _) HAG.out (by omega) hq).mono ?_
            rintro e w11 ⟨rfl, n11, rfl⟩
            go_wp2
            go_ret
            exact ⟨rfl, (TT.drewN _).below (Nat.le_refl _) (fun _ h => h)⟩
set_option maxRecDepth 100000 in
set_option maxHeartbeats 1000000 in
theorem agree_out0 (a0 : Option Addr) (n0 c0 : Nat) (z P u l t y : Int) (sa : Option Addr) (slen scap : Nat) (la : Option Addr) (nl lcap : Nat) (w : World) (m0 : (n0 : Int) ≤ 9223372036854775807) (m2 : (slen : Int) ≤ 9223372036854775807) (m3 : (nl : Int) ≤ 9223372036854775807)  (hbad : 1048576 < (n0 : Int) + slen + nl) :
    Calls Try.prog 8 #[.slice a0 n0 c0, .int .i64 z, .int .i64 P, .int .i64 u, .int .i64 l, .int .i64 t, .int .i64 y, .slice sa slen scap, .slice la nl lcap] w fun e w' => e = .returned (.bool true) ∧ Below w.heap.size w w' := by
  have hdec : decide (n0 + slen + nl ≤ 1048576) = false := decide_eq_false (by omega)
  go_enter Try.func8, Try.ntmps8
  go_wp2_with (go_at_call 31; refine (zz31_calls _ _ _ _ _ _ _ _ _ _ _ _ _ _ _ _ (by omega) (by omega) (by omega)).mono ?_; rintro e w' ⟨rfl, rfl⟩)
  go_ret
  exact ⟨rfl, Below.refl _ _⟩

set_option maxRecDepth 100000 in
set_option maxHeartbeats 1000000 in
theorem agree_out1 (a0 : Option Addr) (n0 c0 : Nat) (z P u l t y : Int) (sa : Option Addr) (slen scap : Nat) (la : Option Addr) (nl lcap : Nat) (w : World) (m0 : (n0 : Int) ≤ 9223372036854775807) (m2 : (slen : Int) ≤ 9223372036854775807) (m3 : (nl : Int) ≤ 9223372036854775807) (g0 : ¬ 1048576 < (n0 : Int) + slen + nl) (hbad : 524288 < (n0 : Int)) :
    Calls Try.prog 8 #[.slice a0 n0 c0, .int .i64 z, .int .i64 P, .int .i64 u, .int .i64 l, .int .i64 t, .int .i64 y, .slice sa slen scap, .slice la nl lcap] w fun e w' => e = .returned (.bool true) ∧ Below w.heap.size w w' := by
  have hdec : decide (n0 + slen + nl ≤ 1048576) = true := decide_eq_true (by omega)
  go_enter Try.func8, Try.ntmps8
  go_wp2_with (go_at_call 31; refine (zz31_calls _ _ _ _ _ _ _ _ _ _ _ _ _ _ _ _ (by omega) (by omega) (by omega)).mono ?_; rintro e w' ⟨rfl, rfl⟩)
  go_ret
  exact ⟨rfl, Below.refl _ _⟩

set_option maxRecDepth 100000 in
set_option maxHeartbeats 1000000 in
theorem agree_out2 (a0 : Option Addr) (n0 c0 : Nat) (z P u l t y : Int) (sa : Option Addr) (slen scap : Nat) (la : Option Addr) (nl lcap : Nat) (w : World) (m0 : (n0 : Int) ≤ 9223372036854775807) (m2 : (slen : Int) ≤ 9223372036854775807) (m3 : (nl : Int) ≤ 9223372036854775807) (g0 : ¬ 1048576 < (n0 : Int) + slen + nl) (g1 : ¬ 524288 < (n0 : Int)) (hbad : 262144 < (nl : Int)) :
    Calls Try.prog 8 #[.slice a0 n0 c0, .int .i64 z, .int .i64 P, .int .i64 u, .int .i64 l, .int .i64 t, .int .i64 y, .slice sa slen scap, .slice la nl lcap] w fun e w' => e = .returned (.bool true) ∧ Below w.heap.size w w' := by
  have hdec : decide (n0 + slen + nl ≤ 1048576) = true := decide_eq_true (by omega)
  go_enter Try.func8, Try.ntmps8
  go_wp2_with (go_at_call 31; refine (zz31_calls _ _ _ _ _ _ _ _ _ _ _ _ _ _ _ _ (by omega) (by omega) (by omega)).mono ?_; rintro e w' ⟨rfl, rfl⟩)
  go_ret
  exact ⟨rfl, Below.refl _ _⟩

set_option maxRecDepth 100000 in
set_option maxHeartbeats 1000000 in
theorem agree_out3 (a0 : Option Addr) (n0 c0 : Nat) (z P u l t y : Int) (sa : Option Addr) (slen scap : Nat) (la : Option Addr) (nl lcap : Nat) (w : World) (m0 : (n0 : Int) ≤ 9223372036854775807) (m2 : (slen : Int) ≤ 9223372036854775807) (m3 : (nl : Int) ≤ 9223372036854775807) (g0 : ¬ 1048576 < (n0 : Int) + slen + nl) (g1 : ¬ 524288 < (n0 : Int)) (g2 : ¬ 262144 < (nl : Int)) (hbad : 16384 < (slen : Int)) :
    Calls Try.prog 8 #[.slice a0 n0 c0, .int .i64 z, .int .i64 P, .int .i64 u, .int .i64 l, .int .i64 t, .int .i64 y, .slice sa slen scap, .slice la nl lcap] w fun e w' => e = .returned (.bool true) ∧ Below w.heap.size w w' := by
  have hdec : decide (n0 + slen + nl ≤ 1048576) = true := decide_eq_true (by omega)
  go_enter Try.func8, Try.ntmps8
  go_wp2_with (go_at_call 31; refine (zz31_calls _ _ _ _ _ _ _ _ _ _ _ _ _ _ _ _ (by omega) (by omega) (by omega)).mono ?_; rintro e w' ⟨rfl, rfl⟩)
  go_ret
  exact ⟨rfl, Below.refl _ _⟩

theorem agree_walk (a0 : Option Addr) (n0 c0 b0 o0 : Nat) (zs : List Int) (z P u l t y : Int) (sa : Option Addr) (slen scap bs so : Nat) (S : List Sq) (la : Option Addr) (nl lcap bl lo : Nat) (xs : List Int) (w : World)
    (hI : BIn w a0 n0 c0 b0 o0 zs) (hJ : SIn w sa slen scap bs so S) (hX : BIn w la nl lcap bl lo xs) (k0 : n0 ≤ maxLen) (k7 : slen ≤ maxLen) (k8 : nl ≤ maxLen)
    (h1 : -9223372036854775808 ≤ z ∧ z ≤ 9223372036854775807) (h2 : -9223372036854775808 ≤ P ∧ P ≤ 9223372036854775807) (h3 : -9223372036854775808 ≤ u ∧ u ≤ 9223372036854775807) (h4 : -9223372036854775808 ≤ l ∧ l ≤ 9223372036854775807) (h5 : -9223372036854775808 ≤ t ∧ t ≤ 9223372036854775807) (h6 : -9223372036854775808 ≤ y ∧ y ≤ 9223372036854775807) :
    Calls Try.prog 8 #[.slice a0 n0 c0, .int .i64 z, .int .i64 P, .int .i64 u, .int .i64 l, .int .i64 t, .int .i64 y, .slice sa slen scap, .slice la nl lcap] w fun e w' => e = .returned (.bool true) ∧ Below w.heap.size w w' := by
  unfold maxLen at k0 k7 k8
  have m0 : (n0 : Int) ≤ 9223372036854775807 := by omega
  have m2 : (slen : Int) ≤ 9223372036854775807 := by omega
  have m3 : (nl : Int) ≤ 9223372036854775807 := by omega
  by_cases g0 : 1048576 < (n0 : Int) + slen + nl
  · exact agree_out0 a0 n0 c0 z P u l t y sa slen scap la nl lcap w m0 m2 m3  g0
  by_cases g1 : 524288 < (n0 : Int)
  · exact agree_out1 a0 n0 c0 z P u l t y sa slen scap la nl lcap w m0 m2 m3 g0 g1
  by_cases g2 : 262144 < (nl : Int)
  · exact agree_out2 a0 n0 c0 z P u l t y sa slen scap la nl lcap w m0 m2 m3 g0 g1 g2
  by_cases g3 : 16384 < (slen : Int)
  · exact agree_out3 a0 n0 c0 z P u l t y sa slen scap la nl lcap w m0 m2 m3 g0 g1 g2 g3
  exact agree_main a0 n0 c0 b0 o0 zs z P u l t y sa slen scap bs so S la nl lcap bl lo xs w hI hJ hX (by omega) (by omega) (by omega) (by omega) h5

end Go.Proofs.Qxb6602383a
