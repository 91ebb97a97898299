/-
  WHERE Carry STANDS: the steps outside the walk.
-/
import Derived.Test.Qxb6602383aWriteLoop
import Derived.Test.Qxb6602383aCarryWide
set_option linter.unusedVariables false
namespace Go.Proofs.Qxb6602383a
open Go.RowKit

theorem wrap_wrap (x : Int) : wrap64 (wrap64 x) = wrap64 x := by unfold wrap64; omega

/-- What Carry was handed: all that stays. -/
structure CGiven (w : World) (b bb L : Nat) (z : Int) (p : Nat) (u y : Int) (S : List Sq) (X Y m : List Int) (bl lo nl lcap bs so : Nat) : Prop where
  ne : b ≠ bb
  hL : L ≤ 1048576
  hp : p < L
  u0 : 0 ≤ u
  y0 : 0 ≤ y
  yz : y ≤ z
  zL : z ≤ (L : Int) - 16
  mL : m.length = L
  sumN : Ring.sumN S ≤ nl
  sumW : (Ring.sumW S : Int) ≤ L - u
  offs : ∀ s ∈ S, 1 ≤ s.o ∧ (s.o : Int) ≤ z
  small : Small S
  slm : S.length ≤ 1048576
  seqs : SeqAt w bs so S
  sat : 0 < S.length → bs < w.heap.size ∧ bs ≠ b ∧ bs ≠ bb
  lits : 0 < nl → IsBytes w bl X ∧ lo + nl ≤ X.length ∧ bl ≠ bb ∧ bl ≠ b ∧ Y = (X.drop lo).take nl
  Yl : Y.length = nl
  cap : nl ≤ lcap
  capm : lcap ≤ 1048576
  bw : b < w.heap.size ∧ bb < w.heap.size

/-- Behind k sequences. -/
structure CState (w : World) (b bb L : Nat) (z : Int) (p : Nat) (u l t y : Int) (S : List Sq) (Y m : List Int) (bl lo nl lcap bs so : Nat) (k N W q r rc : Nat) (la sa : Option Addr) (gk mk : List Int) (wr : World) : Prop where
  eN : N = Ring.sumN (S.take k)
  eW : W = Ring.sumW (S.take k)
  er : r = nl - N
  erc : rc = lcap - N
  laddr : 0 < r → la = some ⟨bl, lo + N, none⟩
  saddr : 0 < S.length - k → sa = some ⟨bs, so + k * 3, none⟩
  run : Ring.run L (S.take k) Y (m, p) = (mk, q)
  win : IsWin wr b bb L z q (u + W) l (wrap64 (t + W)) (min (y + W) z)
  bytes : IsBytes wr bb gk
  agree : Ring.Agree L q gk mk
  turn : Turn (fun j => j = b ∨ j = bb) w wr

section
variable {w : World} {b bb L : Nat} {z : Int} {p : Nat} {u l t y : Int} {S : List Sq} {X Y m : List Int} {bl lo nl lcap bs so : Nat} {k N W q r rc : Nat} {la sa : Option Addr} {gk mk : List Int} {wr : World}

theorem CState.lt (C : CState w b bb L z p u l t y S Y m bl lo nl lcap bs so k N W q r rc la sa gk mk wr) (G : CGiven w b bb L z p u y S X Y m bl lo nl lcap bs so) : q < L := by
  have := Ring.run_lt L (S.take k) Y (m, p) G.hp
  rw [C.run] at this
  exact this

theorem CState.nle (C : CState w b bb L z p u l t y S Y m bl lo nl lcap bs so k N W q r rc la sa gk mk wr) (G : CGiven w b bb L z p u y S X Y m bl lo nl lcap bs so) : N ≤ nl ∧ (W : Int) ≤ L - u := by
  have h1 := Ring.sumN_take_le S k
  have h2 := Ring.sumW_take_le S k
  have h3 := G.sumN
  have h4 := G.sumW
  have h5 := C.eN
  have h6 := C.eW
  omega

theorem cstate_start (G : CGiven w b bb L z p u y S X Y m bl lo nl lcap bs so) (H : IsWin w b bb L z p u l t y) (HB : IsBytes w bb m) (ht : wrap64 t = t) (hla : 0 < nl → la = some ⟨bl, lo, none⟩) (hsa : 0 < S.length → sa = some ⟨bs, so, none⟩) :
    CState w b bb L z p u l t y S Y m bl lo nl lcap bs so 0 0 0 p nl lcap la sa m m w := by
  refine ⟨rfl, rfl, rfl, rfl, hla, fun h => by simpa using hsa (by omega), rfl, ?_, HB, Ring.Agree.refl p G.mL, Turn.refl _ _⟩
  have e1 : u + (0 : Nat) = u := by omega
  have e2 : t + (0 : Nat) = t := by omega
  have e3 : min (y + (0 : Nat)) z = y := by have := G.yz; omega
  rw [e1, e2, e3, ht]
  exact H

/-- The wide copies of i sequences more. -/
theorem CState.wide (C : CState w b bb L z p u l t y S Y m bl lo nl lcap bs so k N W q r rc la sa gk mk wr) (G : CGiven w b bb L z p u y S X Y m bl lo nl lcap bs so) {i : Nat} {la' : Option Addr} {g' : List Int} {w1 : World} {sa' : Option Addr}
    (hi : i ≤ S.length - k) (hla : 0 < r - Ring.sumN ((S.drop k).take i) → la' = some ⟨bl, lo + N + Ring.sumN ((S.drop k).take i), none⟩)
    (hW : IsWin w1 b bb L z (if (q : Int) + Ring.sumW ((S.drop k).take i) = L then 0 else (q : Int) + Ring.sumW ((S.drop k).take i)) (wrap64 (u + W + Ring.sumW ((S.drop k).take i))) l (wrap64 (wrap64 (t + W) + Ring.sumW ((S.drop k).take i))) (min (wrap64 (min (y + W) z + Ring.sumW ((S.drop k).take i))) z))
    (hB : IsBytes w1 bb g') (hrun : Ring.WRun L ((S.drop k).take i) (Y.drop N) gk q g') (hfit : 0 < i → q + Ring.sumW ((S.drop k).take i) + 16 ≤ L ∧ Ring.sumN ((S.drop k).take i) + 16 ≤ r) (hT : Turn (fun j => j = b ∨ j = bb) wr w1)
    (hsa : 0 < S.length - (k + i) → sa' = some ⟨bs, so + (k + i) * 3, none⟩) :
    CState w b bb L z p u l t y S Y m bl lo nl lcap bs so (k + i) (N + Ring.sumN ((S.drop k).take i)) (W + Ring.sumW ((S.drop k).take i)) (q + Ring.sumW ((S.drop k).take i)) (r - Ring.sumN ((S.drop k).take i)) (rc - Ring.sumN ((S.drop k).take i)) la' sa' g' (Ring.run L ((S.drop k).take i) (Y.drop N) (mk, q)).1 w1 := by
  have hq := C.lt G
  obtain ⟨hNl, hWl⟩ := C.nle G
  have et : S.take (k + i) = S.take k ++ (S.drop k).take i := List.take_add
  have hWi : q + Ring.sumW ((S.drop k).take i) < L := by
    by_cases h0 : i = 0
    · subst h0; simp only [List.take_zero, Ring.sumW]; omega
    · have := (hfit (by omega)).1; omega
  have tN : Ring.sumN (S.take (k + i)) = N + Ring.sumN ((S.drop k).take i) := by rw [et, Ring.sumN_append, C.eN]
  have tW : Ring.sumW (S.take (k + i)) = W + Ring.sumW ((S.drop k).take i) := by rw [et, Ring.sumW_append, C.eW]
  have lN := Ring.sumN_take_le S (k + i)
  have lW := Ring.sumW_take_le S (k + i)
  have gN := G.sumN
  have gW := G.sumW
  have u0 := G.u0
  have y0 := G.y0
  have yz := G.yz
  have zL := G.zL
  have hLm := G.hL
  have hnY : Ring.sumN ((S.drop k).take i) ≤ (Y.drop N).length := by rw [List.length_drop, G.Yl]; omega
  have hpos : (Ring.run L ((S.drop k).take i) (Y.drop N) (mk, q)).2 = q + Ring.sumW ((S.drop k).take i) := by
    rw [Ring.run_pos L _ _ (mk, q) hq (by omega) hnY]
    unfold Ring.adv
    rw [if_pos (by show q + Ring.sumW ((S.drop k).take i) < L; omega)]
  have hAg := Ring.wrun_agree hrun C.agree hnY hq (fun s hs => by
    have := G.offs s (List.mem_of_mem_drop (List.mem_of_mem_take hs))
    have := G.zL
    omega)
  rw [hpos] at hAg
  refine ⟨tN.symm, tW.symm, by have := C.er; omega, by have := C.erc; omega, fun h => by rw [hla h, Nat.add_assoc], hsa, ?_, ?_, hB, hAg, C.turn.trans hT⟩
  · rw [et, Ring.run_append, C.run, ← C.eN, ← hpos]
  · rw [if_neg (by omega), wrap_add, wrap_small (x := u + W + Ring.sumW ((S.drop k).take i)) (by omega) (by omega), wrap_small (x := min (y + W) z + Ring.sumW ((S.drop k).take i)) (by omega) (by omega)] at hW
    have e0 : (q : Int) + (Ring.sumW ((S.drop k).take i) : Int) = ((q + Ring.sumW ((S.drop k).take i) : Nat) : Int) := by omega
    have e1 : u + (W : Int) + (Ring.sumW ((S.drop k).take i) : Int) = u + ((W + Ring.sumW ((S.drop k).take i) : Nat) : Int) := by omega
    have e2 : t + ((W : Int) + (Ring.sumW ((S.drop k).take i) : Int)) = t + ((W + Ring.sumW ((S.drop k).take i) : Nat) : Int) := by omega
    have e3 : min (min (y + (W : Int)) z + (Ring.sumW ((S.drop k).take i) : Int)) z = min (y + ((W + Ring.sumW ((S.drop k).take i) : Nat) : Int)) z := by omega
    rw [e0, e1, e2, e3] at hW
    exact hW

/-- One sequence by Write and Repeat. -/
theorem CState.one (C : CState w b bb L z p u l t y S Y m bl lo nl lcap bs so k N W q r rc la sa gk mk wr) (G : CGiven w b bb L z p u y S X Y m bl lo nl lcap bs so) {s : Sq} (hs : S[k]? = some s) {wa w2 w3 : World} {q2 : Nat} {g2 : List Int} {la' sa' : Option Addr}
    (hTa : Turn (fun j => j = b ∨ j = bb) wr wa) (hL2 : LState wa b bb L z q (u + W) l (wrap64 (t + W)) (min (y + W) z) ((Y.drop N).take s.n) gk s.n q2 g2 w2)
    (hW : IsWin w3 b bb L z ((Ring.rep s.o L s.l (g2, q2)).2 : Nat) (u + W + s.n + s.l) l (wrap64 (wrap64 (wrap64 (t + W) + s.n) + s.l)) (min (min (min (y + W) z + s.n) z + s.l) z)) (hB : IsBytes w3 bb (Ring.rep s.o L s.l (g2, q2)).1) (hT3 : Turn (fun j => j = b ∨ j = bb) w2 w3)
    (hla : 0 < r - s.n → la' = some ⟨bl, lo + N + s.n, none⟩) (hsa : 0 < S.length - (k + 1) → sa' = some ⟨bs, so + (k + 1) * 3, none⟩) :
    CState w b bb L z p u l t y S Y m bl lo nl lcap bs so (k + 1) (N + s.n) (W + (s.n + s.l)) (Ring.rep s.o L s.l (g2, q2)).2 (r - s.n) (rc - s.n) la' sa' (Ring.rep s.o L s.l (g2, q2)).1 (Ring.rep s.o L s.l (Ring.lay L ((Y.drop N).take s.n) (mk, q))).1 w3 := by
  have hq := C.lt G
  have hmem : s ∈ S := List.mem_of_getElem? hs
  obtain ⟨o1, o2⟩ := G.offs s hmem
  have zL := G.zL
  have em := hL2.em
  rw [List.take_take, Nat.min_self] at em
  -- the two rings
  have A1 := C.agree.lay ((Y.drop N).take s.n) hq
  rw [em] at A1
  have ep : (Ring.lay L ((Y.drop N).take s.n) (mk, q)).2 = q2 := by rw [← Ring.lay_pos_eq L _ gk mk q, em]
  have hq2 : q2 < L := by rw [← ep]; exact Ring.lay_lt L _ _ hq
  have A2 := A1.rep (off := s.o) s.l hq2 o1 (by omega)
  have em2 : Ring.lay L ((Y.drop N).take s.n) (mk, q) = ((Ring.lay L ((Y.drop N).take s.n) (mk, q)).1, q2) := by rw [← ep]
  refine ⟨by rw [Ring.sumN_take hs, C.eN], by rw [Ring.sumW_take hs, C.eW], by have := C.er; omega, by have := C.erc; omega, fun h => by rw [hla h, Nat.add_assoc], hsa, ?_, ?_, hB, ?_, (C.turn.trans hTa).trans (hL2.turn.trans hT3)⟩
  · rw [Ring.run_take hs, C.run, ← C.eN]
    refine Prod.ext rfl ?_
    show (Ring.rep s.o L s.l (Ring.lay L ((Y.drop N).take s.n) (mk, q))).2 = _
    rw [em2]
    exact Ring.rep_pos_eq _ _ _ _ _ _
  · rw [wrap_add, wrap_add] at hW
    have e1 : u + (W : Int) + (s.n : Int) + (s.l : Int) = u + ((W + (s.n + s.l) : Nat) : Int) := by omega
    have e2 : t + ((W : Int) + ((s.n : Int) + (s.l : Int))) = t + ((W + (s.n + s.l) : Nat) : Int) := by omega
    have e2' : t + ((W : Int) + (s.n : Int) + (s.l : Int)) = t + ((W + (s.n + s.l) : Nat) : Int) := by omega
    have e3 : min (min (min (y + (W : Int)) z + (s.n : Int)) z + (s.l : Int)) z = min (y + ((W + (s.n + s.l) : Nat) : Int)) z := by omega
    first
      | rw [e1, e2, e3] at hW
      | rw [e1, e2', e3] at hW
    exact hW
  · rw [em2]
    exact A2
end

end Go.Proofs.Qxb6602383a
