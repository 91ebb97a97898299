/-
  Carry, WALKED.
-/
import Derived.Test.Qxb6602383aCarryState
set_option linter.unusedVariables false
namespace Go.Proofs.Qxb6602383a
open Go.RowKit

/-- The length in a slot that holds a slice. -/
def lenV : Value → Nat
  | .slice _ n _ => n
  | _ => 0

/-- What Carry answers. -/
def CarryAns (w : World) (b bb L : Nat) (z : Int) (p : Nat) (u l t y : Int) (S : List Sq) (Y m : List Int) (bl lo nl lcap bs so : Nat) (e : Ending) (w' : World) : Prop :=
  ∃ (N W q r rc : Nat) (la sa : Option Addr) (gk mk : List Int), e = .returned (.slice la r rc) ∧ CState w b bb L z p u l t y S Y m bl lo nl lcap bs so S.length N W q r rc la sa gk mk w'

section
variable {w : World} {b bb L : Nat} {z : Int} {p : Nat} {u l t y : Int} {S : List Sq} {X Y m : List Int} {bl lo nl lcap bs so : Nat} {k N W q r rc : Nat} {la sa : Option Addr} {gk mk : List Int} {wr : World}

theorem CGiven.seqsAt (G : CGiven w b bb L z p u y S X Y m bl lo nl lcap bs so) (T : Turn (fun j => j = b ∨ j = bb) w wr) : SeqAt wr bs so S := by
  by_cases h0 : 0 < S.length
  · obtain ⟨h1, h2, h3⟩ := G.sat h0
    exact G.seqs.turn T h1 (fun h => by rcases h with h | h <;> contradiction)
  · intro i s hi
    have e : S = [] := List.eq_nil_of_length_eq_zero (by omega)
    rw [e] at hi
    simp at hi

theorem CGiven.litsAt (G : CGiven w b bb L z p u y S X Y m bl lo nl lcap bs so) (T : Turn (fun j => j = b ∨ j = bb) w wr) (h : 0 < nl) : IsBytes wr bl X := by
  obtain ⟨h1, h2, h3, h4, h5⟩ := G.lits h
  exact h1.turn T (fun h => by rcases h with h | h <;> contradiction)

theorem CGiven.litsEq (G : CGiven w b bb L z p u y S X Y m bl lo nl lcap bs so) (h : 0 < nl) (N r : Nat) (hr : r = nl - N) : Y.drop N = (X.drop (lo + N)).take r := by
  obtain ⟨h1, h2, h3, h4, h5⟩ := G.lits h
  rw [h5, List.drop_take, List.drop_drop, hr]

theorem small_drop (h : Small S) (k : Nat) : Small (S.drop k) := fun s hs => h s (List.mem_of_mem_drop hs)
end

set_option maxRecDepth 100000 in
set_option maxHeartbeats 8000000 in
theorem carry_calls (w : World) (b bb L : Nat) (z : Int) (p : Nat) (u l t y : Int) (S : List Sq) (X Y m : List Int) (bl lo nl lcap bs so slen : Nat) (la sa : Option Addr)
    (G : CGiven w b bb L z p u y S X Y m bl lo nl lcap bs so) (H : IsWin w b bb L z p u l t y) (HB : IsBytes w bb m) (ht : wrap64 t = t) (hla : 0 < nl → la = some ⟨bl, lo, none⟩) (hsa : 0 < S.length → sa = some ⟨bs, so, none⟩) (hsl : S.length = slen) (hcapeq : lcap = nl) :
    Calls Try.prog 30 #[.pointer (some ⟨b, 0, none⟩), .slice sa slen slen, .slice la nl lcap] w fun e w' => CarryAns w b bb L z p u l t y S Y m bl lo nl lcap bs so e w' := by
  have HSL : Hid (S.length = slen) := hsl
  have HCE : Hid (lcap = nl) := hcapeq
  have C0 := cstate_start (l := l) (t := t) G H HB ht hla hsa
  have hslm : slen ≤ 1048576 := by have := G.slm; omega
  have hcapm := G.capm
  have hcap := G.cap
  clear hsl ht hla hsa hcapeq
  go_enter Try.func30, Try.ntmps30
  go_wp2_with fail
  go_loopw [1, 2] (fun v1 v2 wr => ∃ (k N W q r rc : Nat) (la sa : Option Addr) (gk mk : List Int), k ≤ slen ∧ r ≤ rc ∧ rc ≤ 1048576 ∧ v1 = .slice sa (slen - k) (slen - k) ∧ v2 = .slice la r rc ∧ CState w b bb L z p u l t y S Y m bl lo nl lcap bs so k N W q r rc la sa gk mk wr)
    (fun v1 _ _ => lenV v1)
  case atStart => exact ⟨0, 0, 0, p, nl, lcap, la, sa, m, m, Nat.zero_le _, hcap, hcapm, rfl, rfl, C0⟩
  case round =>
    rename World => wo
    clear C0 H HB
    obtain ⟨k, N, W, q, r, rc, la, sa, gk, mk, hk, hrrc, hrc, rfl, rfl, C⟩ := hrel
    have hq := C.lt G
    obtain ⟨hNl, hWl⟩ := C.nle G
    have u0 := G.u0
    have y0 := G.y0
    have yz := G.yz
    have zL := G.zL
    have hL := G.hL
    have hne := G.ne
    have hZ := C.turn.size
    have HAL : Hid ((S.drop k).length = slen - k) := by show _ = _; rw [List.length_drop, HSL.out]
    have HYL : Hid ((Y.drop N).length = r) := by show _ = _; rw [List.length_drop, G.Yl, C.er]
    go_wp2_with fail
    refine (carryWide_calls wo b bb L z q (u + W) l (wrap64 (t + W)) (min (y + W) z) gk sa bs (so + k * 3) (slen - k) (slen - k) (S.drop k) la bl (lo + N) r rc X (Y.drop N)
      C.win C.bytes hne C.agree.1 hL (by omega) HAL.out (by omega) (fun h => ⟨C.saddr (by have := HSL.out; omega), by have := (G.sat (by have := HSL.out; omega)).1; omega, (G.sat (by have := HSL.out; omega)).2.2⟩) ((G.seqsAt C.turn).drop k) (small_drop G.small k) (fun s hs => by have := (G.offs s (List.mem_of_mem_drop hs)).2; omega)
      (fun h => ⟨C.laddr h, G.litsAt C.turn (by have := C.er; omega), by have := (G.lits (by have := C.er; omega)).2.1; have := C.er; omega, (G.lits (by have := C.er; omega)).2.2.1, G.litsEq (by have := C.er; omega) N r C.er⟩) HYL.out hrrc hrc).mono ?_
    rintro e w1 ⟨i, la', g', rfl, hi, hla, hstop, hW1, hB1, hg1, hrun, hfit, hT1⟩
    have hir : r - Ring.sumN ((S.drop k).take i) ≤ rc - Ring.sumN ((S.drop k).take i) := by omega
    have hirc : rc - Ring.sumN ((S.drop k).take i) ≤ 1048576 := by omega
    by_cases hend : i = slen - k
    · have C1 := C.wide (sa' := sa) G (by have := HSL.out; omega) hla hW1 hB1 hrun hfit hT1 (fun h => absurd h (by have := HSL.out; omega))
      have eK : k + i = S.length := by have := HSL.out; omega
      rw [eK] at C1
      clear C hla hW1 hB1 hrun hfit hT1 hstop eK
      subst hend
      go_wp2
      go_ret
      exact ⟨_, _, _, _, _, _, _, _, _, rfl, C1⟩
    · have hsa0 := C.saddr (by have := HSL.out; omega)
      subst hsa0
      have C1 := C.wide (sa' := some ⟨bs, so + k * 3 + i * 3, none⟩) G (by have := HSL.out; omega) hla hW1 hB1 hrun hfit hT1 (fun h => by rw [show so + (k + i) * 3 = so + k * 3 + i * 3 by omega])
      obtain ⟨s, hs'⟩ : ∃ s, S[k + i]? = some s := ⟨_, List.getElem?_eq_getElem (by have := HSL.out; omega)⟩
      obtain ⟨e0, e1, e2⟩ := (G.seqsAt C1.turn) (k + i) s hs'
      rw [show so + (k + i) * 3 = so + k * 3 + i * 3 by omega] at e0 e1 e2
      have hmem : s ∈ S := List.mem_of_getElem? hs'
      have hn32 := (G.small s hmem).1
      have ho32 := (G.small s hmem).2.1
      have hl32 := (G.small s hmem).2.2
      obtain ⟨ho1, hoz⟩ := G.offs s hmem
      obtain ⟨N1, hN1⟩ : ∃ N1, N1 = Ring.sumN ((S.drop k).take i) := ⟨_, rfl⟩
      obtain ⟨W1, hW1e⟩ : ∃ W1, W1 = Ring.sumW ((S.drop k).take i) := ⟨_, rfl⟩
      rw [← hN1] at hir hirc C1 ⊢
      rw [← hW1e] at C1
      obtain ⟨r1, hr1⟩ : ∃ r1, r1 = r - N1 := ⟨_, rfl⟩
      obtain ⟨rc1, hrc1⟩ : ∃ rc1, rc1 = rc - N1 := ⟨_, rfl⟩
      rw [← hr1, ← hrc1] at C1 hir ⊢
      rw [← hrc1] at hirc
      have hq1 := C1.lt G
      obtain ⟨hN1l, hW1l⟩ := C1.nle G
      have hnr : s.n ≤ r1 := by
        have h1 := Ring.sumN_take hs'
        have h2 := Ring.sumN_take_le S (k + i + 1)
        have h3 := G.sumN
        have h4 := C1.eN
        have h5 := C1.er
        omega
      have hlr : (W : Int) + W1 + s.n + s.l ≤ L - u := by
        have h1 := Ring.sumW_take hs'
        have h2 := Ring.sumW_take_le S (k + i + 1)
        have h3 := G.sumW
        have h4 := C1.eW
        omega
      have HSK : Hid (S[k + i]? = some s) := hs'
      clear C hla hW1 hB1 hrun hfit hT1 hstop hs' hmem hN1 hW1e hr1 hrc1 HAL HYL hZ hrrc hrc hq hNl hWl hg1
      obtain ⟨hbw, hbbw⟩ := G.bw
      have hZ1 := C1.turn.size
      have Ta : Turn (fun _ => False) w1 (w1.alloc (.cells #[.int .u32 s.n, .int .u32 s.o, .int .u32 s.l] 58)) := (Turn.refl _ w1).alloc _
      have HN2 : Hid (((Y.drop (N + N1)).take s.n).length = s.n) := by
        show _ = _
        have := G.Yl
        have := C1.er
        simp
        omega
      have f : ∀ j, (w1.alloc (.cells #[.int .u32 s.n, .int .u32 s.o, .int .u32 s.l] 58)).cell? ⟨w1.heap.size, j, none⟩ = #[Value.int .u32 s.n, .int .u32 s.o, .int .u32 s.l][j]? := fun j => cell_of (heap_alloc_at w1 _) j
      have F0 : Hid ((w1.alloc (.cells #[.int .u32 s.n, .int .u32 s.o, .int .u32 s.l] 58)).cell? ⟨w1.heap.size, 0, none⟩ = some (.int .u32 s.n)) := by show _ = _; rw [f]; rfl
      have F1 : Hid ((w1.alloc (.cells #[.int .u32 s.n, .int .u32 s.o, .int .u32 s.l] 58)).cell? ⟨w1.heap.size, 1, none⟩ = some (.int .u32 s.o)) := by show _ = _; rw [f]; rfl
      have F2 : Hid ((w1.alloc (.cells #[.int .u32 s.n, .int .u32 s.o, .int .u32 s.l] 58)).cell? ⟨w1.heap.size, 2, none⟩ = some (.int .u32 s.l)) := by show _ = _; rw [f]; rfl
      have hza : w1.heap.size < (w1.alloc (.cells #[.int .u32 s.n, .int .u32 s.o, .int .u32 s.l] 58)).heap.size := by simp
      have HZA : Hid (w1.heap.size < (w1.alloc (.cells #[.int .u32 s.n, .int .u32 s.o, .int .u32 s.l] 58)).heap.size) := hza
      clear f hza
      go_wp2_with fail
      refine (write_calls _ b bb L z (q + W1) (u + ((W + W1 : Nat) : Int)) l (wrap64 (t + ((W + W1 : Nat) : Int))) (min (y + ((W + W1 : Nat) : Int)) z) g' la' bl (lo + (N + N1)) s.n rc1 X ((Y.drop (N + N1)).take s.n)
        (C1.win.turn Ta (fun h => h)) (C1.bytes.turn Ta (fun h => h)) hne C1.agree.1 hL hq1 (by omega) (by omega) (by omega) (by omega) (by omega) (wrap_wrap _)
        (fun h => ⟨C1.laddr (by omega), (G.litsAt C1.turn (by have := C1.er; omega)).turn Ta (fun h => h), by have := (G.lits (by have := C1.er; omega)).2.1; have := C1.er; omega, (G.lits (by have := C1.er; omega)).2.2.1, (G.lits (by have := C1.er; omega)).2.2.2.1, by rw [G.litsEq (by have := C1.er; omega) (N + N1) r1 C1.er, List.take_take, Nat.min_eq_left (by omega)]⟩) HN2.out (by omega) (by omega)).mono ?_
      rintro e w2 ⟨rfl, q2, g2, L2⟩
      have hg2 : g2.length = L := by
        have := Ring.lay_len L (((Y.drop (N + N1)).take s.n).take s.n) (g', q + W1)
        rw [L2.em] at this
        exact this.trans C1.agree.1
      have HG2 : Hid (g2.length = L) := hg2
      have hq2 : q2 < L := by rw [L2.eq]; exact Ring.adv_lt hq1 (by omega)
      have nb1 : ¬ (w1.heap.size = b ∨ w1.heap.size = bb) := by omega
      have f1 : w2.cell? ⟨w1.heap.size, 1, none⟩ = some (.int .u32 s.o) := (L2.turn.cell HZA.out nb1 1).trans F1.out
      have f2 : w2.cell? ⟨w1.heap.size, 2, none⟩ = some (.int .u32 s.l) := (L2.turn.cell HZA.out nb1 2).trans F2.out
      have HF0 : Hid (w2.cell? ⟨w1.heap.size, 0, none⟩ = some (.int .u32 s.n)) := (L2.turn.cell HZA.out nb1 0).trans F0.out
      have hz2 : w1.heap.size < w2.heap.size := by have := HZA.out; have := L2.turn.size; omega
      clear hg2 F0 F1 F2
      go_wp2_with fail
      refine (repeat_calls w2 b bb L z q2 (u + ((W + W1 : Nat) : Int) + s.n) l (wrap64 (wrap64 (t + ((W + W1 : Nat) : Int)) + s.n)) (min (min (y + ((W + W1 : Nat) : Int)) z + s.n) z) s.o s.l s.l g2 L2.win L2.bytes hne HG2.out hL hq2 (by omega) (by omega) (by omega) (by omega) (by omega) ho1 (by omega) (by omega) (wrap_wrap _) (by omega)).mono ?_
      rintro e w3 ⟨rfl, hW3, hB3, hT3⟩
      have f0 : w3.cell? ⟨w1.heap.size, 0, none⟩ = some (.int .u32 s.n) := (hT3.cell hz2 nb1 0).trans HF0.out
      have hrr : rc1 = r1 := by have := C1.er; have := C1.erc; have := HCE.out; omega
      have HRR : Hid (rc1 = r1) := hrr
      clear hrr f1 f2
      go_wp2_with fail
      go_quiet (fail)
      go_wp2
      go_roundw
      case rel =>
        have hrr := HRR.out
        have CN := C1.one (w3 := w3.drewN nq) (la' := if rc1 = s.n then la' else Option.map (fun x => x.add s.n) la') (sa' := if slen - k - i = 1 then some ⟨bs, so + k * 3 + i * 3, none⟩ else some ⟨bs, so + k * 3 + i * 3 + 3, none⟩) G HSK.out (Ta.mono fun _ h => h.elim) L2 (hW3.drewN nq) (hB3.drewN nq) (hT3.drewN nq)
          (fun h => by rw [if_neg (by omega), C1.laddr (by omega)]; simp [Addr.add])
          (fun h => by rw [if_neg (by have := HSL.out; omega), show so + k * 3 + i * 3 + 3 = so + (k + i + 1) * 3 by omega])
        exact ⟨k + i + 1, _, _, _, r1 - s.n, rc1 - s.n, _, _, _, _, by omega, by omega, by omega, by rw [show slen - (k + i + 1) = slen - k - i - 1 by omega], rfl, CN⟩
      case measure => simp only [lenV]; omega

end Go.Proofs.Qxb6602383a
