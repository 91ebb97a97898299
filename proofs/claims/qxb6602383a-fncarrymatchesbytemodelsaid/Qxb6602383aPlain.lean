/-
  PLAIN MATHEMATICS OF A RING OF BYTES. No Go in sight: lists of integers and natural numbers alone.
-/
import Init
set_option linter.unusedVariables false
namespace Go.Proofs.Qxb6602383a.Ring

/-- The place behind p in a ring of L. -/
def nxt (L p : Nat) : Nat := if p + 1 = L then 0 else p + 1
/-- n places behind p (n at most L). -/
def adv (L p n : Nat) : Nat := if p + n < L then p + n else p + n - L
/-- off places before p. -/
def bk (L p off : Nat) : Nat := if p < off then p + L - off else p - off
/-- How far q lies behind p. -/
def dist (L p q : Nat) : Nat := if q < p then q + L - p else q - p

/-- One byte of a match. -/
def step (off L : Nat) (s : List Int × Nat) : List Int × Nat :=
  (s.1.set s.2 (s.1.getD (bk L s.2 off) 0), nxt L s.2)

def rep (off L : Nat) : Nat → List Int × Nat → List Int × Nat
  | 0, s => s
  | n + 1, s => rep off L n (step off L s)

def lay (L : Nat) : List Int → List Int × Nat → List Int × Nat
  | [], s => s
  | c :: cs, s => lay L cs (s.1.set s.2 c, nxt L s.2)

theorem rep_add (off L : Nat) (a b : Nat) (s : List Int × Nat) : rep off L (a + b) s = rep off L b (rep off L a s) := by
  induction a generalizing s with
  | zero => simp [rep]
  | succ a ih => rw [Nat.succ_add]; simp only [rep]; exact ih _

theorem rep_succ (off L n : Nat) (s : List Int × Nat) : rep off L (n + 1) s = step off L (rep off L n s) := by
  rw [rep_add]; rfl

theorem lay_append (L : Nat) (a b : List Int) (s : List Int × Nat) : lay L (a ++ b) s = lay L b (lay L a s) := by
  induction a generalizing s with
  | nil => rfl
  | cons c a ih => simp only [List.cons_append, lay]; exact ih _

theorem step_len (off L : Nat) (s : List Int × Nat) : (step off L s).1.length = s.1.length := by simp [step]
theorem rep_len (off L n : Nat) (s : List Int × Nat) : (rep off L n s).1.length = s.1.length := by
  induction n generalizing s with
  | zero => rfl
  | succ n ih => simp only [rep]; rw [ih, step_len]
theorem lay_len (L : Nat) (cs : List Int) (s : List Int × Nat) : (lay L cs s).1.length = s.1.length := by
  induction cs generalizing s with
  | nil => rfl
  | cons c cs ih => simp only [lay]; rw [ih]; simp

theorem nxt_lt {L p : Nat} (h : p < L) : nxt L p < L := by unfold nxt; split <;> omega
theorem rep_lt (off L n : Nat) (s : List Int × Nat) (h : s.2 < L) : (rep off L n s).2 < L := by
  induction n generalizing s with
  | zero => exact h
  | succ n ih => simp only [rep]; exact ih _ (nxt_lt h)
theorem lay_lt (L : Nat) (cs : List Int) (s : List Int × Nat) (h : s.2 < L) : (lay L cs s).2 < L := by
  induction cs generalizing s with
  | nil => exact h
  | cons c cs ih => simp only [lay]; exact ih _ (nxt_lt h)

theorem adv_zero {L p : Nat} (h : p < L) : adv L p 0 = p := by unfold adv; split <;> omega
theorem adv_lt {L p n : Nat} (h : p < L) (hn : n ≤ L) : adv L p n < L := by unfold adv; split <;> omega
theorem adv_nxt {L p n : Nat} (h : p < L) (hn : n + 1 ≤ L) : adv L (nxt L p) n = adv L p (n + 1) := by
  unfold adv nxt; split <;> split <;> split <;> omega
theorem nxt_adv {L p n : Nat} (h : p < L) (hn : n + 1 ≤ L) : nxt L (adv L p n) = adv L p (n + 1) := by
  unfold adv nxt; split <;> split <;> split <;> omega
theorem adv_adv {L p a b : Nat} (h : p < L) (hn : a + b ≤ L) : adv L (adv L p a) b = adv L p (a + b) := by
  unfold adv; repeat' split
  all_goals omega

theorem rep_pos (off L n : Nat) (s : List Int × Nat) (h : s.2 < L) (hn : n ≤ L) : (rep off L n s).2 = adv L s.2 n := by
  induction n generalizing s with
  | zero => simp only [rep]; rw [adv_zero h]
  | succ n ih => simp only [rep]; rw [ih _ (nxt_lt h) (by omega)]; exact adv_nxt h hn
theorem lay_pos (L : Nat) (cs : List Int) (s : List Int × Nat) (h : s.2 < L) (hn : cs.length ≤ L) : (lay L cs s).2 = adv L s.2 cs.length := by
  induction cs generalizing s with
  | nil => simp only [lay, List.length_nil]; rw [adv_zero h]
  | cons c cs ih => simp only [lay, List.length_cons] at hn ⊢; rw [ih _ (nxt_lt h) (by omega)]; exact adv_nxt h hn

/-! ### What is laid over a row -/
def over (m : List Int) (p : Nat) (cs : List Int) : List Int := m.take p ++ (cs ++ m.drop (p + cs.length))

theorem over_len (m : List Int) (p : Nat) (cs : List Int) (h : p + cs.length ≤ m.length) : (over m p cs).length = m.length := by
  simp [over]; omega

theorem over_get (m : List Int) (p : Nat) (cs : List Int) (h : p + cs.length ≤ m.length) (q : Nat) :
    (over m p cs).getD q 0 = if p ≤ q ∧ q < p + cs.length then cs.getD (q - p) 0 else m.getD q 0 := by
  simp only [over, List.getD_eq_getElem?_getD]
  rw [List.getElem?_append]
  have hl : (m.take p).length = p := by simp; omega
  rw [hl]
  by_cases h1 : q < p
  · rw [if_pos h1, if_neg (by omega)]
    rw [List.getElem?_take, if_pos h1]
  · rw [if_neg h1, List.getElem?_append]
    by_cases h2 : q - p < cs.length
    · rw [if_pos h2, if_pos (by omega)]
    · rw [if_neg h2, if_neg (by omega), List.getElem?_drop]
      rw [show p + cs.length + (q - p - cs.length) = q by omega]

theorem ext_get {a b : List Int} (hl : a.length = b.length) (h : ∀ q, q < a.length → a.getD q 0 = b.getD q 0) : a = b := by
  apply List.ext_getElem hl
  intro q h1 h2
  have := h q h1
  simpa [List.getD_eq_getElem?_getD, h1, h2] using this

theorem set_get (m : List Int) (p : Nat) (c : Int) (q : Nat) (h : p < m.length) : (m.set p c).getD q 0 = if q = p then c else m.getD q 0 := by
  simp only [List.getD_eq_getElem?_getD, List.getElem?_set]
  by_cases e : p = q
  · subst e; simp [h]
  · rw [if_neg e, if_neg (Ne.symm e)]

/-- Literals laid without a wrap. -/
theorem lay_over (L : Nat) (cs : List Int) (m : List Int) (p : Nat) (hm : m.length = L) (h : p + cs.length ≤ L) :
    (lay L cs (m, p)).1 = over m p cs := by
  induction cs generalizing m p with
  | nil => simp [lay, over]
  | cons c cs ih =>
    simp only [lay, List.length_cons] at h ⊢
    by_cases hc : cs = []
    · subst hc
      simp only [lay]
      refine ext_get (by simp [hm]; rw [over_len _ _ _ (by simp; omega)]; exact hm.symm) (fun q hq => ?_)
      rw [set_get _ _ _ _ (by omega), over_get _ _ _ (by simp; omega)]
      by_cases e : q = p
      · subst e; simp
      · rw [if_neg e, if_neg (by simp; omega)]
    · have hpos : 0 < cs.length := List.length_pos_iff.2 hc
      have e1 : nxt L p = p + 1 := by unfold nxt; rw [if_neg (by omega)]
      rw [e1, ih (m.set p c) (p + 1) (by simp [hm]) (by omega)]
      refine ext_get (by rw [over_len _ _ _ (by simp; omega), over_len _ _ _ (by simp; omega)]; simp) (fun q hq => ?_)
      rw [over_get _ _ _ (by simp; omega), over_get _ _ _ (by simp; omega), set_get _ _ _ _ (by omega)]
      simp only [List.length_cons]
      by_cases e : q = p
      · subst e; rw [if_neg (by omega), if_pos rfl, if_pos (by omega)]; simp
      · by_cases h2 : p + 1 ≤ q ∧ q < p + 1 + cs.length
        · rw [if_pos h2, if_pos (by omega)]
          have : q - p = (q - (p + 1)) + 1 := by omega
          rw [this]; simp
        · rw [if_neg h2, if_neg e, if_neg (by omega)]

/-- A piece of a match: neither end wraps, and what is read does not overlap what has been written before it. -/
theorem piece (off L k : Nat) (m : List Int) (p : Nat) (hm : m.length = L) (hp : p + k ≤ L) (hpL : p < L) (hoff : off ≤ L) (h1 : 1 ≤ off)
    (hf : bk L p off + k ≤ L) (hov : p ≤ bk L p off ∨ bk L p off + k ≤ p) :
    (rep off L k (m, p)).1 = over m p ((m.drop (bk L p off)).take k) := by
  induction k with
  | zero => simp [rep, over]
  | succ k ih =>
    have ih := ih (by omega) (by omega) (by omega)
    rw [rep_succ]
    have hp2 : (rep off L k (m, p)).2 = p + k := by
      rw [rep_pos off L k (m, p) hpL (by omega)]; unfold adv; rw [if_pos (by simp; omega)]
    have hlen : ((m.drop (bk L p off)).take (k + 1)).length = k + 1 := by simp; omega
    have hlen' : ((m.drop (bk L p off)).take k).length = k := by simp; omega
    have hbk : bk L (p + k) off = bk L p off + k := by
      unfold bk at *; split <;> split <;> (try split at hf) <;> omega
    refine ext_get (by rw [step_len, rep_len, over_len _ _ _ (by rw [hlen]; omega)]) (fun q hq => ?_)
    rw [over_get _ _ _ (by rw [hlen]; omega), hlen]
    simp only [step]
    rw [set_get _ _ _ _ (by rw [rep_len, hp2]; simp; omega), hp2, ih, hbk, over_get _ _ _ (by rw [hlen']; omega), over_get _ _ _ (by rw [hlen']; omega), hlen']
    by_cases e : q = p + k
    · subst e
      rw [if_pos rfl, if_neg (by omega), if_pos (by omega)]
      simp only [List.getD_eq_getElem?_getD, List.getElem?_take, List.getElem?_drop]
      rw [if_pos (by omega)]
      congr 3; omega
    · rw [if_neg e]
      by_cases h2 : p ≤ q ∧ q < p + k
      · rw [if_pos h2, if_pos (by omega)]
        simp only [List.getD_eq_getElem?_getD, List.getElem?_take]
        rw [if_pos (by omega), if_pos (by omega)]
      · rw [if_neg h2, if_neg (by omega)]

end Go.Proofs.Qxb6602383a.Ring
