/-
  PLAIN MATHEMATICS OF SEQUENCES OVER A RING. No Go in sight.
-/
import Derived.Test.Qxb6602383aPlain
set_option linter.unusedVariables false
namespace Go.Proofs.Qxb6602383a

/-- One sequence: n literals, then l bytes from o back. -/
structure Sq where
  n : Nat
  o : Nat
  l : Nat

/-- Every number fits into 32 bits. -/
def Small (S : List Sq) : Prop := ∀ s ∈ S, s.n ≤ 4294967295 ∧ s.o ≤ 4294967295 ∧ s.l ≤ 4294967295

namespace Ring

/-- The literals of S together. -/
def sumN : List Sq → Nat
  | [] => 0
  | s :: S => s.n + sumN S
/-- The bytes of S together. -/
def sumW : List Sq → Nat
  | [] => 0
  | s :: S => s.n + s.l + sumW S

theorem sumN_append (A B : List Sq) : sumN (A ++ B) = sumN A + sumN B := by
  induction A with
  | nil => simp [sumN]
  | cons s A ih => simp only [List.cons_append, sumN, ih]; omega
theorem sumW_append (A B : List Sq) : sumW (A ++ B) = sumW A + sumW B := by
  induction A with
  | nil => simp [sumW]
  | cons s A ih => simp only [List.cons_append, sumW, ih]; omega
theorem take_snoc {S : List Sq} {k : Nat} {s : Sq} (h : S[k]? = some s) : S.take (k + 1) = S.take k ++ [s] := by
  rw [List.take_add_one, h]; rfl
theorem sumN_take {S : List Sq} {k : Nat} {s : Sq} (h : S[k]? = some s) : sumN (S.take (k + 1)) = sumN (S.take k) + s.n := by
  rw [take_snoc h, sumN_append]; simp [sumN]
theorem sumW_take {S : List Sq} {k : Nat} {s : Sq} (h : S[k]? = some s) : sumW (S.take (k + 1)) = sumW (S.take k) + (s.n + s.l) := by
  rw [take_snoc h, sumW_append]; simp [sumW]
theorem sumN_take_le (S : List Sq) (k : Nat) : sumN (S.take k) ≤ sumN S := by
  have := sumN_append (S.take k) (S.drop k)
  rw [List.take_append_drop] at this
  omega
theorem sumW_take_le (S : List Sq) (k : Nat) : sumW (S.take k) ≤ sumW S := by
  have := sumW_append (S.take k) (S.drop k)
  rw [List.take_append_drop] at this
  omega
theorem sumN_le_sumW (S : List Sq) : sumN S ≤ sumW S := by
  induction S with
  | nil => simp [sumN, sumW]
  | cons s S ih => simp only [sumN, sumW]; omega

/-- The byte-at-a-time reading of S over the ring: the literals are taken from lits on. -/
def run (L : Nat) : List Sq → List Int → List Int × Nat → List Int × Nat
  | [], _, x => x
  | s :: S, lits, x => run L S (lits.drop s.n) (rep s.o L s.l (lay L (lits.take s.n) x))

theorem run_append (L : Nat) (A B : List Sq) (lits : List Int) (x : List Int × Nat) : run L (A ++ B) lits x = run L B (lits.drop (sumN A)) (run L A lits x) := by
  induction A generalizing lits x with
  | nil => simp [run, sumN]
  | cons s A ih => simp only [List.cons_append, run, sumN]; rw [ih, List.drop_drop]

theorem run_take {S : List Sq} {k : Nat} {s : Sq} (h : S[k]? = some s) (L : Nat) (lits : List Int) (x : List Int × Nat) :
    run L (S.take (k + 1)) lits x = rep s.o L s.l (lay L ((lits.drop (sumN (S.take k))).take s.n) (run L (S.take k) lits x)) := by
  rw [take_snoc h, run_append]; rfl

theorem run_len (L : Nat) (S : List Sq) (lits : List Int) (x : List Int × Nat) : (run L S lits x).1.length = x.1.length := by
  induction S generalizing lits x with
  | nil => rfl
  | cons s S ih => simp only [run]; rw [ih, rep_len, lay_len]
theorem run_lt (L : Nat) (S : List Sq) (lits : List Int) (x : List Int × Nat) (h : x.2 < L) : (run L S lits x).2 < L := by
  induction S generalizing lits x with
  | nil => exact h
  | cons s S ih => simp only [run]; exact ih _ _ (rep_lt _ _ _ _ (lay_lt _ _ _ h))
theorem run_pos (L : Nat) (S : List Sq) (lits : List Int) (x : List Int × Nat) (h : x.2 < L) (hw : sumW S ≤ L) (hn : sumN S ≤ lits.length) : (run L S lits x).2 = adv L x.2 (sumW S) := by
  induction S generalizing lits x with
  | nil => simp only [run, sumW]; rw [adv_zero h]
  | cons s S ih =>
    simp only [run, sumW, sumN] at hw hn ⊢
    have hl : (lits.take s.n).length = s.n := by simp; omega
    have h1 := lay_lt L (lits.take s.n) x h
    rw [ih _ _ (rep_lt _ _ _ _ h1) (by omega) (by simp; omega), rep_pos _ _ _ _ h1 (by omega), lay_pos _ _ _ h (by omega), hl, adv_adv h (by omega), adv_adv h (by omega)]

/-! ### Rings that agree but for the sixteen places behind p -/
def Agree (L p : Nat) (g m : List Int) : Prop := g.length = L ∧ m.length = L ∧ ∀ q, q < L → 16 ≤ dist L p q → g.getD q 0 = m.getD q 0

theorem Agree.refl {L : Nat} (p : Nat) {g : List Int} (h : g.length = L) : Agree L p g g := ⟨h, h, fun _ _ _ => rfl⟩
theorem Agree.trans {L p : Nat} {a b c : List Int} (h : Agree L p a b) (k : Agree L p b c) : Agree L p a c := ⟨h.1, k.2.1, fun q hq hd => (h.2.2 q hq hd).trans (k.2.2 q hq hd)⟩

theorem Agree.put {L p : Nat} {g m : List Int} (h : Agree L p g m) (hp : p < L) (c : Int) : Agree L (nxt L p) (g.set p c) (m.set p c) := by
  refine ⟨by simpa using h.1, by simpa using h.2.1, fun q hq hd => ?_⟩
  rw [set_get _ _ _ _ (by rw [h.1]; exact hp), set_get _ _ _ _ (by rw [h.2.1]; exact hp)]
  by_cases e : q = p
  · rw [if_pos e, if_pos e]
  · rw [if_neg e, if_neg e]
    refine h.2.2 q hq ?_
    unfold dist nxt at *
    split at hd <;> split at hd <;> split <;> omega

theorem Agree.lay {L : Nat} (cs : List Int) {p : Nat} {g m : List Int} (h : Agree L p g m) (hp : p < L) : Agree L (lay L cs (g, p)).2 (lay L cs (g, p)).1 (lay L cs (m, p)).1 := by
  induction cs generalizing p g m with
  | nil => exact h
  | cons c cs ih => simp only [Ring.lay]; exact ih (h.put hp c) (nxt_lt hp)

theorem Agree.rep {L off : Nat} (n : Nat) {p : Nat} {g m : List Int} (h : Agree L p g m) (hp : p < L) (h1 : 1 ≤ off) (h2 : off + 16 ≤ L) : Agree L (rep off L n (g, p)).2 (rep off L n (g, p)).1 (rep off L n (m, p)).1 := by
  induction n generalizing p g m with
  | zero => exact h
  | succ n ih =>
    simp only [Ring.rep, step]
    have e : g.getD (bk L p off) 0 = m.getD (bk L p off) 0 := by
      refine h.2.2 _ ?_ ?_
      · unfold bk; split <;> omega
      · unfold dist bk; split <;> split <;> omega
    rw [e]
    exact ih (h.put hp _) (nxt_lt hp)

theorem lay_pos_eq (L : Nat) (cs : List Int) (g m : List Int) (p : Nat) : (lay L cs (g, p)).2 = (lay L cs (m, p)).2 := by
  induction cs generalizing g m p with
  | nil => rfl
  | cons c cs ih => simp only [Ring.lay]; exact ih _ _ _
theorem rep_pos_eq (off L n : Nat) (g m : List Int) (p : Nat) : (rep off L n (g, p)).2 = (rep off L n (m, p)).2 := by
  induction n generalizing g m p with
  | zero => rfl
  | succ n ih => simp only [Ring.rep, step]; exact ih _ _ _

/-- Up to sixteen bytes written past p: the rings agree. -/
theorem agree_past_rep (off L c : Nat) (g : List Int) (p : Nat) (hg : g.length = L) (hp : p < L) (hc : c ≤ 16) (hL : 16 ≤ L) : Agree L p (rep off L c (g, p)).1 g := by
  refine ⟨by rw [rep_len]; exact hg, hg, ?_⟩
  have key : ∀ (c : Nat) (j : Nat) (x : List Int × Nat), x.1.length = L → x.2 = adv L p j → j + c ≤ 16 → ∀ q, q < L → 16 ≤ dist L p q → (rep off L c x).1.getD q 0 = x.1.getD q 0 := by
    intro c
    induction c with
    | zero => intro j x _ _ _ q _ _; rfl
    | succ c ih =>
      intro j x hx hxp hj q hq hd
      simp only [Ring.rep]
      rw [ih (j + 1) (step off L x) (by rw [step_len]; exact hx) (by simp only [step]; rw [hxp]; exact nxt_adv hp (by omega)) (by omega) q hq hd]
      simp only [step]
      have hlt : x.2 < L := by rw [hxp]; exact adv_lt hp (by omega)
      rw [set_get _ _ _ _ (by rw [hx]; exact hlt), if_neg]
      intro e
      rw [e, hxp] at hd
      unfold dist adv at hd
      split at hd <;> split at hd <;> omega
  exact key c 0 (g, p) hg (adv_zero hp).symm (by omega)

theorem over_over (g : List Int) (p : Nat) (a b : List Int) (h : p + (a ++ b).length ≤ g.length) : over (over g p a) (p + a.length) b = over g p (a ++ b) := by
  simp only [List.length_append] at h
  refine ext_get (by rw [over_len _ _ _ (by rw [over_len _ _ _ (by omega)]; omega), over_len _ _ _ (by omega), over_len _ _ _ (by simp; omega)]) (fun q hq => ?_)
  rw [over_get _ _ _ (by rw [over_len _ _ _ (by omega)]; omega), over_get _ _ _ (by omega), over_get _ _ _ (by simp; omega)]
  simp only [List.length_append]
  by_cases h1 : p + a.length ≤ q ∧ q < p + a.length + b.length
  · rw [if_pos h1, if_pos (by omega)]
    simp only [List.getD_eq_getElem?_getD]
    rw [List.getElem?_append, if_neg (by omega)]
    congr 2; omega
  · rw [if_neg h1]
    by_cases h2 : p ≤ q ∧ q < p + a.length
    · rw [if_pos h2, if_pos (by omega)]
      simp only [List.getD_eq_getElem?_getD]
      rw [List.getElem?_append, if_pos (by omega)]
    · rw [if_neg h2, if_neg (by omega)]

/-- Literals laid up to sixteen too many agree with those laid. -/
theorem agree_past_over (L : Nat) (g : List Int) (p : Nat) (X : List Int) (n c : Nat) (hg : g.length = L) (hn : n ≤ c) (hc : c ≤ n + 16) (hX : c ≤ X.length) (hL : p + n + 16 ≤ L) :
    Agree L (p + n) (over g p (X.take c)) (over g p (X.take n)) := by
  have lc : (X.take c).length = c := by simp; omega
  have ln : (X.take n).length = n := by simp; omega
  refine ⟨by rw [over_len _ _ _ (by omega)]; exact hg, by rw [over_len _ _ _ (by omega)]; exact hg, fun q hq hd => ?_⟩
  rw [over_get _ _ _ (by omega), over_get _ _ _ (by omega), lc, ln]
  unfold dist at hd
  by_cases h1 : p ≤ q ∧ q < p + n
  · rw [if_pos (by omega), if_pos h1]
    simp only [List.getD_eq_getElem?_getD, List.getElem?_take]
    rw [if_pos (by omega), if_pos (by omega)]
  · rw [if_neg h1, if_neg (by split at hd <;> omega)]

/-- What one sequence carried out by wide copies leaves, c1 and c2 bytes being copied. -/
def wideMem (L : Nat) (s : Sq) (X : List Int) (g : List Int) (q c1 c2 : Nat) : List Int := (rep s.o L c2 (over g q (X.take c1), q + s.n)).1

theorem wide_agree {L : Nat} {s : Sq} {X g m : List Int} {q c1 c2 : Nat} (h : Agree L q g m) (h1 : q + s.n + s.l + 16 ≤ L) (ho1 : 1 ≤ s.o) (ho : s.o + 16 ≤ L) (a1 : s.n ≤ c1) (a2 : c1 ≤ s.n + 16) (a3 : c1 ≤ X.length) (b1 : s.l ≤ c2) (b2 : c2 ≤ s.l + 16) :
    Agree L (rep s.o L s.l (lay L (X.take s.n) (m, q))).2 (wideMem L s X g q c1 c2) (rep s.o L s.l (lay L (X.take s.n) (m, q))).1 := by
  have hq : q < L := by omega
  have ln : (X.take s.n).length = s.n := by simp; omega
  -- the literals, exact over g
  have A1 := agree_past_over L g q X s.n c1 h.1 a1 a2 a3 (by omega)
  have A2 := h.lay (X.take s.n) hq
  have ep : (lay L (X.take s.n) (g, q)).2 = q + s.n := by rw [lay_pos _ _ _ hq (by omega), ln]; unfold adv; rw [if_pos (by simp; omega)]
  have ep' : (lay L (X.take s.n) (m, q)).2 = q + s.n := by rw [← lay_pos_eq L (X.take s.n) g m q]; exact ep
  rw [ep, lay_over L (X.take s.n) g q h.1 (by omega)] at A2
  have A3 := A1.trans A2
  -- the match
  have A4 := A3.rep (off := s.o) s.l (by omega) ho1 ho
  have e1 : rep s.o L c2 (over g q (X.take c1), q + s.n) = rep s.o L (c2 - s.l) (rep s.o L s.l (over g q (X.take c1), q + s.n)) := by rw [← rep_add]; congr 1; omega
  have hp2 : (rep s.o L s.l (over g q (X.take c1), q + s.n)).2 = q + s.n + s.l := by rw [rep_pos _ _ _ _ (by simp; omega) (by omega)]; unfold adv; rw [if_pos (by simp; omega)]
  have hl2 : (rep s.o L s.l (over g q (X.take c1), q + s.n)).1.length = L := by rw [rep_len]; exact A3.1
  have A5 := agree_past_rep s.o L (c2 - s.l) (rep s.o L s.l (over g q (X.take c1), q + s.n)).1 (rep s.o L s.l (over g q (X.take c1), q + s.n)).2 hl2 (by rw [hp2]; omega) (by omega) (by omega)
  have A6 := A5.trans A4
  unfold wideMem
  rw [e1]
  have hm : lay L (X.take s.n) (m, q) = ((lay L (X.take s.n) (m, q)).1, q + s.n) := by rw [← ep']
  have epos : (rep s.o L s.l (lay L (X.take s.n) (m, q))).2 = (rep s.o L s.l (over g q (X.take c1), q + s.n)).2 := by rw [hm]; exact rep_pos_eq _ _ _ _ _ _
  rw [epos, hm]
  exact A6

/-- The wide copies of S, one after the other, from q on, the literals from X on. -/
def WRun (L : Nat) : List Sq → List Int → List Int → Nat → List Int → Prop
  | [], _, g, _, g' => g' = g
  | s :: S, X, g, q, g' => ∃ c1 c2, s.n ≤ c1 ∧ c1 ≤ s.n + 16 ∧ c1 ≤ X.length ∧ s.l ≤ c2 ∧ c2 ≤ s.l + 16 ∧ q + s.n + s.l + 16 ≤ L ∧ WRun L S (X.drop s.n) (wideMem L s X g q c1 c2) (q + s.n + s.l) g'

theorem WRun.snoc {L : Nat} {A : List Sq} {s : Sq} {X g : List Int} {q : Nat} {g1 : List Int} (h : WRun L A X g q g1) {c1 c2 : Nat} (a1 : s.n ≤ c1) (a2 : c1 ≤ s.n + 16) (a3 : c1 ≤ (X.drop (sumN A)).length) (b1 : s.l ≤ c2) (b2 : c2 ≤ s.l + 16)
    (hL : q + sumW A + s.n + s.l + 16 ≤ L) : WRun L (A ++ [s]) X g q (wideMem L s (X.drop (sumN A)) g1 (q + sumW A) c1 c2) := by
  induction A generalizing X g q with
  | nil =>
    simp only [WRun] at h
    subst h
    simp only [List.nil_append, WRun, sumN, sumW, List.drop_zero, Nat.add_zero] at *
    exact ⟨c1, c2, a1, a2, a3, b1, b2, hL, rfl⟩
  | cons s' A ih =>
    simp only [WRun, List.cons_append, sumN, sumW] at *
    obtain ⟨d1, d2, e1, e2, e3, e4, e5, e6, h⟩ := h
    refine ⟨d1, d2, e1, e2, e3, e4, e5, e6, ?_⟩
    have := ih h (by rw [List.drop_drop]; exact a3) (by omega)
    rw [List.drop_drop] at this
    rw [show q + (s'.n + s'.l + sumW A) = q + s'.n + s'.l + sumW A by omega]
    exact this

/-- The wide copies agree with the byte-at-a-time reading. -/
theorem wrun_agree {L : Nat} {S : List Sq} {X g m : List Int} {q : Nat} {g' : List Int} (h : WRun L S X g q g') (hA : Agree L q g m) (hn : sumN S ≤ X.length) (hq : q < L) (ho : ∀ s ∈ S, 1 ≤ s.o ∧ s.o + 16 ≤ L) :
    Agree L (run L S X (m, q)).2 g' (run L S X (m, q)).1 := by
  induction S generalizing X g m q with
  | nil =>
    simp only [WRun] at h
    subst h
    exact hA
  | cons s S ih =>
    simp only [WRun] at h
    obtain ⟨c1, c2, e1, e2, e3, e4, e5, e6, h⟩ := h
    simp only [run, sumN] at *
    have o1 := ho s (by simp)
    have A := wide_agree hA e6 o1.1 o1.2 e1 e2 e3 e4 e5
    have ln : (X.take s.n).length = s.n := by simp; omega
    have epos : (rep s.o L s.l (lay L (X.take s.n) (m, q))).2 = q + s.n + s.l := by
      rw [rep_pos _ _ _ _ (lay_lt _ _ _ hq) (by omega), lay_pos _ _ _ hq (by omega), ln, adv_adv hq (by omega)]
      unfold adv; rw [if_pos (by omega)]; omega
    rw [epos] at A
    have := ih h A (by simp; omega) (by omega) (fun x hx => ho x (by simp [hx]))
    have e : rep s.o L s.l (lay L (X.take s.n) (m, q)) = ((rep s.o L s.l (lay L (X.take s.n) (m, q))).1, q + s.n + s.l) := by rw [← epos]
    rw [e]
    exact this

end Ring
end Go.Proofs.Qxb6602383a
