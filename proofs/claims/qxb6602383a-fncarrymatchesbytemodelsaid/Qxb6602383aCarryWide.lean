/-
  carryWide, WALKED.
-/
import Derived.Test.Qxb6602383aWin
import Derived.Test.Qxb6602383aSeqs
import Derived.Test.Qxb6602383aCopyWide
import Derived.Deep.DeepCutAuto
import Derived.Outline
set_option linter.unusedVariables false
namespace Go.Proofs.Qxb6602383a
open Go.RowKit

/-- May the sequence s be carried out by wide copies, at place q, nl literals being left? -/
def Wide (L q nl : Nat) (s : Sq) : Prop := q + s.n + s.l + 16 ≤ L ∧ Ring.bk L (q + s.n) s.o + s.l + 16 ≤ L ∧ s.n + 16 ≤ nl ∧ 16 ≤ s.o

/-- Behind k sequences: q the place, N the literals taken, r and rc the length and the room of what is left of them, a where it lies. -/
structure WState (w : World) (bb L p : Nat) (S : List Sq) (Y g : List Int) (bl lo nl lcap : Nat) (k q N r rc : Nat) (a : Option Addr) (gk : List Int) (wr : World) : Prop where
  eq : q = p + Ring.sumW (S.take k)
  eN : N = Ring.sumN (S.take k)
  er : r = nl - N
  erc : rc = lcap - N
  addr : 0 < r → a = some ⟨bl, lo + N, none⟩
  bytes : IsBytes wr bb gk
  len : gk.length = L
  run : Ring.WRun L (S.take k) Y g p gk
  fit : 0 < k → q + 16 ≤ L ∧ N + 16 ≤ nl
  turn : Turn (fun j => j = bb) w wr

theorem copyWide_at (w : World) (bd dl dc bs so sl sc d s : Nat) (D E : Int) (hD : D = d) (hE : E = s) (m ms : List Int) (hm : IsBytes w bd m) (hms : IsBytes w bs ms)
    (h1 : d + 16 ≤ dc) (h2 : d + 16 ≤ m.length) (h3 : s + 16 ≤ sc) (h4 : so + s + 16 ≤ ms.length) (h5 : dc ≤ 1048576) (h6 : sc ≤ 1048576) (h7 : d + 16 ≤ dl) (h8 : s + 16 ≤ sl) :
    Calls Try.prog 37 #[.slice (some ⟨bd, 0, none⟩) dl dc, .int .i64 D, .slice (some ⟨bs, so, none⟩) sl sc, .int .i64 E] w fun e w' => e = .returned (.tuple #[]) ∧
      IsBytes w' bd (Ring.over m d ((ms.drop (so + s)).take 16)) ∧ Turn (fun j => j = bd) w w' := by
  subst hD; subst hE
  exact copyWide_calls w bd dl dc bs so sl sc d s m ms hm hms h1 h2 h3 h4 h5 h6 h7 h8

theorem lit_step (gk X : List Int) (o q c : Nat) (h : q + (c + 16) ≤ gk.length) (hX : o + (c + 16) ≤ X.length) :
    Ring.over (Ring.over gk q ((X.drop o).take c)) (q + c) ((X.drop (o + c)).take 16) = Ring.over gk q ((X.drop o).take (c + 16)) := by
  have hl : ((X.drop o).take c).length = c := by simp; omega
  have e := Ring.over_over gk q ((X.drop o).take c) (((X.drop o).drop c).take 16) (by simp; omega)
  rw [hl, ← List.take_add, List.drop_drop] at e
  exact e

theorem rep_step (m1 : List Int) (L o q f c : Nat) (hm : m1.length = L) (hq : q + c + 16 ≤ L) (hf : f = Ring.bk L q o) (hfc : f + c + 16 ≤ L) (h16 : 16 ≤ o) (hoL : o ≤ L) :
    Ring.over (Ring.rep o L c (m1, q)).1 (q + c) (((Ring.rep o L c (m1, q)).1.drop (f + c)).take 16) = (Ring.rep o L (c + 16) (m1, q)).1 := by
  have hp : (Ring.rep o L c (m1, q)).2 = q + c := by rw [Ring.rep_pos _ _ _ _ (by simp; omega) (by omega)]; unfold Ring.adv; rw [if_pos (by simp; omega)]
  have e : Ring.rep o L c (m1, q) = ((Ring.rep o L c (m1, q)).1, q + c) := by rw [← hp]
  have hb : Ring.bk L (q + c) o = f + c := by
    rw [hf] at hfc ⊢
    unfold Ring.bk at *; split <;> split <;> (try split at hfc) <;> omega
  rw [Ring.rep_add, e, Ring.piece o L 16 _ (q + c) (by rw [Ring.rep_len]; exact hm) hq (by omega) hoL (by omega) (by rw [hb]; exact hfc) (by rw [hb, hf]; unfold Ring.bk; split <;> omega), hb]

theorem lits_eq {X Y : List Int} {lo nl N c : Nat} (hY : Y = (X.drop lo).take nl) (h : N + c ≤ nl) : (Y.drop N).take c = (X.drop (lo + N)).take c := by
  rw [hY, List.drop_take, List.take_take, List.drop_drop, Nat.min_eq_left (by omega)]

/-- One sequence more, carried out by wide copies. -/
theorem WState.next {w wr wx : World} {bb L p : Nat} {S : List Sq} {X Y g : List Int} {bl lo nl lcap k q N r rc : Nat} {a : Option Addr} {gk : List Int} (hW : WState w bb L p S Y g bl lo nl lcap k q N r rc a gk wr) {s : Sq} (hs : S[k]? = some s)
    (hYl : Y.length = nl) (hY : Y = (X.drop lo).take nl) {c1 c2 : Nat} (a1 : s.n ≤ c1) (a2 : c1 ≤ s.n + 16) (b1 : s.l ≤ c2) (b2 : c2 ≤ s.l + 16) (q1 : q + s.n + s.l + 16 ≤ L) (q3 : s.n + 16 ≤ r)
    (hB : IsBytes wx bb (Ring.rep s.o L c2 (Ring.over gk q ((X.drop (lo + N)).take c1), q + s.n)).1) (hT : Turn (fun j => j = bb) wr wx) :
    WState w bb L p S Y g bl lo nl lcap (k + 1) (q + s.n + s.l) (N + s.n) (r - s.n) (rc - s.n) (some ⟨bl, lo + N + s.n, none⟩) (Ring.rep s.o L c2 (Ring.over gk q ((X.drop (lo + N)).take c1), q + s.n)).1 wx := by
  have er := hW.er
  have hXl : lo + nl ≤ X.length ∨ nl = 0 := by
    have := congrArg List.length hY
    simp at this
    omega
  refine ⟨?_, ?_, by omega, by have := hW.erc; omega, fun _ => by rw [Nat.add_assoc], hB, ?_, ?_, fun _ => by omega, hW.turn.trans hT⟩
  · rw [Ring.sumW_take hs, hW.eq]; omega
  · rw [Ring.sumN_take hs, hW.eN]
  · rw [Ring.rep_len, Ring.over_len _ _ _ (by rw [hW.len]; simp; omega)]; exact hW.len
  · have hd : (Y.drop (Ring.sumN (S.take k))).take c1 = (X.drop (lo + N)).take c1 := by rw [← hW.eN]; exact lits_eq hY (by omega)
    have := hW.run.snoc (s := s) (c1 := c1) (c2 := c2) a1 a2 (by rw [List.length_drop, ← hW.eN]; omega) b1 b2 (by rw [← hW.eq]; omega)
    unfold Ring.wideMem at this
    rw [hd, ← hW.eq, ← Ring.take_snoc hs] at this
    exact this

/-- What carryWide leaves. -/
def WideDone (w : World) (b bb L : Nat) (z : Int) (p : Nat) (u l t y : Int) (g : List Int) (S : List Sq) (bl lo nl lcap slen : Nat) (Y : List Int) (e : Ending) (w' : World) : Prop :=
  ∃ (i : Nat) (la' : Option Addr) (g' : List Int),
      e = .returned (.tuple #[.int .i64 i, .slice la' (nl - Ring.sumN (S.take i)) (lcap - Ring.sumN (S.take i))]) ∧ i ≤ slen ∧ (0 < nl - Ring.sumN (S.take i) → la' = some ⟨bl, lo + Ring.sumN (S.take i), none⟩) ∧
      (∀ s, S[i]? = some s → ¬ Wide L (p + Ring.sumW (S.take i)) (nl - Ring.sumN (S.take i)) s) ∧
      IsWin w' b bb L z (if (p : Int) + Ring.sumW (S.take i) = L then 0 else (p : Int) + Ring.sumW (S.take i)) (wrap64 (u + Ring.sumW (S.take i))) l (wrap64 (t + Ring.sumW (S.take i))) (min (wrap64 (y + Ring.sumW (S.take i))) z) ∧
      IsBytes w' bb g' ∧ g'.length = L ∧ Ring.WRun L (S.take i) Y g p g' ∧ (0 < i → p + Ring.sumW (S.take i) + 16 ≤ L ∧ Ring.sumN (S.take i) + 16 ≤ nl) ∧ Turn (fun j => j = b ∨ j = bb) w w'

theorem WState.done {w wo wn w2 : World} {b bb L : Nat} {z : Int} {p : Nat} {u l t y : Int} {S : List Sq} {Y g : List Int} {bl lo nl lcap slen k q N r rc : Nat} {a : Option Addr} {gk : List Int} (hW : WState w bb L p S Y g bl lo nl lcap k q N r rc a gk wo)
    (hne : b ≠ bb) (hk : k ≤ slen) (hstop : ∀ s, S[k]? = some s → ¬ Wide L q r s) (hT : Turn (fun j => j = bb) wo wn)  (hBn : IsBytes wn bb gk)
    (h2 : IsWin w2 b bb L z (if (p : Int) + ((q : Int) - p) = L then 0 else (p : Int) + ((q : Int) - p)) (wrap64 (u + ((q : Int) - p))) l (wrap64 (t + ((q : Int) - p))) (min (wrap64 (y + ((q : Int) - p))) z)) (hT2 : Turn (fun j => j = b) wn w2) :
    WideDone w b bb L z p u l t y g S bl lo nl lcap slen Y (.returned (.tuple #[.int .i64 k, .slice a r rc])) w2 := by
  have e : (q : Int) - p = Ring.sumW (S.take k) := by have := hW.eq; omega
  rw [e] at h2
  refine ⟨k, a, gk, ?_, hk, ?_, ?_, h2, hBn.turn hT2 (fun e => hne e.symm), hW.len, hW.run, ?_, (hW.turn.mono fun _ h => .inr h).trans ((hT.mono fun _ h => .inr h).trans (hT2.mono fun _ h => .inl h))⟩
  · rw [← hW.eN, ← hW.er, ← hW.erc]
  · rw [← hW.eN, ← hW.er]; exact hW.addr
  · rw [← hW.eN, ← hW.er, ← hW.eq]; exact hstop
  · rw [← hW.eN, ← hW.eq]; exact hW.fit

theorem bad_eq (L q f r n o l : Nat) : (decide ((L : Int) < (q : Int) + n + l + 16) || decide ((L : Int) < (f : Int) + l + 16) || decide ((r : Int) < (n : Int) + 16) || decide ((o : Int) < 16)) =
    decide (¬ (q + n + l + 16 ≤ L ∧ f + l + 16 ≤ L ∧ n + 16 ≤ r ∧ 16 ≤ o)) := by
  rw [Bool.eq_iff_iff]
  simp only [Bool.or_eq_true, decide_eq_true_eq]
  omega

set_option maxRecDepth 100000 in
set_option maxHeartbeats 4000000 in
theorem carryWide_calls (w : World) (b bb L : Nat) (z : Int) (p : Nat) (u l t y : Int) (g : List Int) (sa : Option Addr) (bs so slen scap : Nat) (S : List Sq) (la : Option Addr) (bl lo nl lcap : Nat) (X Y : List Int)
    (H : IsWin w b bb L z p u l t y) (HB : IsBytes w bb g) (hne : b ≠ bb) (hgL : g.length = L) (hL : L ≤ 1048576) (hp : p ≤ L)
    (hsl : S.length = slen) (hslm : slen ≤ 1048576) (hs : 0 < slen → sa = some ⟨bs, so, none⟩ ∧ bs < w.heap.size ∧ bs ≠ bb) (hS : SeqAt w bs so S) (hsm : Small S) (hso : ∀ s ∈ S, s.o ≤ L)
    (hl : 0 < nl → la = some ⟨bl, lo, none⟩ ∧ IsBytes w bl X ∧ lo + nl ≤ X.length ∧ bl ≠ bb ∧ Y = (X.drop lo).take nl) (hY : Y.length = nl) (hcap : nl ≤ lcap) (hcap2 : lcap ≤ 1048576) :
    Calls Try.prog 35 #[.pointer (some ⟨b, 0, none⟩), .slice sa slen scap, .slice la nl lcap] w fun e w' => WideDone w b bb L z p u l t y g S bl lo nl lcap slen Y e w' := by
  have c0 := H.buf
  have c2 := H.cpos
  have HSL : Hid (S.length = slen) := hsl
  have HYL : Hid (Y.length = nl) := hY
  have HLL : Hid (0 < nl → la = some ⟨bl, lo, none⟩ ∧ IsBytes w bl X ∧ lo + nl ≤ X.length ∧ bl ≠ bb ∧ Y = (X.drop lo).take nl) := hl
  have HSS : Hid (0 < slen → sa = some ⟨bs, so, none⟩ ∧ bs < w.heap.size ∧ bs ≠ bb) := hs
  have HSO : Hid (∀ s ∈ S, s.o ≤ L) := hso
  have HGL : Hid (g.length = L) := hgL
  clear hsl hY hl hs hso hgL
  go_enter Try.func35, Try.ntmps35
  go_upto_region 1 with fail
  go_quiet (fail)
  go_wp2_with fail
  go_loopw [2, 9, 10] (fun v2 v9 v10 wr => ∃ (k q N r rc : Nat) (a : Option Addr) (gk : List Int), k ≤ slen ∧ q ≤ L ∧ N ≤ nl ∧ r ≤ rc ∧ rc ≤ 1048576 ∧ v10 = .int .i64 k ∧ v9 = .int .i64 q ∧
      v2 = .slice a r rc ∧ WState w bb L p S Y g bl lo nl lcap k q N r rc a gk wr)
    (fun _ _ v10 _ => slen - (intOf v10).toNat)
  case atStart => exact ⟨0, p, 0, nl, lcap, la, g, Nat.zero_le _, hp, Nat.zero_le _, hcap, hcap2, rfl, rfl, rfl, rfl, rfl, rfl, rfl, fun h => (HLL.out h).1, HB, HGL.out, rfl, fun h => absurd h (by omega), (Turn.refl _ w).drewN _⟩
  case round =>
    rename World => wo
    obtain ⟨k, q, N, r, rc, a, gk, hk, hqL, hNnl, hrrc, hrc, rfl, rfl, rfl, hW⟩ := hrel
    have c0' : wo.cell? ⟨b, 0, none⟩ = some (.slice (some ⟨bb, 0, none⟩) L L) := (hW.turn.cell H.lt hne 0).trans c0
    have c2' : wo.cell? ⟨b, 2, none⟩ = some (.int .i64 p) := (hW.turn.cell H.lt hne 2).trans c2
    clear c0 c2
    by_cases hlt : k < slen
    · obtain ⟨s, hs'⟩ : ∃ s, S[k]? = some s := ⟨_, List.getElem?_eq_getElem (by have := HSL.out; omega)⟩
      obtain ⟨hsa, hbs, hbsb⟩ := HSS.out (by omega)
      subst hsa
      obtain ⟨e0, e1, e2⟩ := (hS.turn hW.turn hbs hbsb) k s hs'
      have hmem : s ∈ S := List.mem_of_getElem? hs'
      have hoL : s.o ≤ L := HSO.out s hmem
      have hn32 := (hsm s hmem).1
      have ho32 := (hsm s hmem).2.1
      have hl32 := (hsm s hmem).2.2
      have HSK : Hid (S[k]? = some s) := hs'
      clear hs' hmem
      obtain ⟨f, hf⟩ : ∃ f, f = Ring.bk L (q + s.n) s.o := ⟨_, rfl⟩
      have hfb : f ≤ q + s.n + L := by rw [hf]; unfold Ring.bk; split <;> omega
      have HF : Hid (f = Ring.bk L (q + s.n) s.o) := hf
      clear hf
      go_upto_region 5 with fail
      go_quiet (fail)
      go_upto_if 55 with fail
      go_cut [14] (fun v14 wx => v14 = .int .i64 f ∧ wx = wo.drewN nq)
      case first =>
        by_cases hqo : q + s.n < s.o
        · go_wp2
          go_meet
          case rel => exact ⟨by rw [show (f : Int) = (q : Int) + s.n - s.o + L by rw [HF.out]; unfold Ring.bk; rw [if_pos hqo]; omega], rfl⟩
        · go_wp2
          go_meet
          case rel => exact ⟨by rw [show (f : Int) = (q : Int) + s.n - s.o by rw [HF.out]; unfold Ring.bk; rw [if_neg hqo]; omega], rfl⟩
      case rest =>
        obtain ⟨rfl, rfl⟩ := hcut
        go_upto_region 9 with fail
        go_cut [88] (fun v wx => v = .bool (decide (¬ (q + s.n + s.l + 16 ≤ L ∧ f + s.l + 16 ≤ L ∧ s.n + 16 ≤ r ∧ 16 ≤ s.o))) ∧ wx = wo.drewN nq)
        case first =>
          by_cases h1 : q + s.n + s.l + 16 ≤ L
          · by_cases h2 : f + s.l + 16 ≤ L
            · by_cases h3 : s.n + 16 ≤ r
              · go_wp2
                go_meet
                case rel => exact ⟨congrArg Value.bool (bad_eq _ _ _ _ _ _ _), rfl⟩
              · go_wp2
                go_meet
                case rel => exact ⟨congrArg Value.bool (decide_eq_true (by omega)).symm, rfl⟩
            · go_wp2
              go_meet
              case rel => exact ⟨congrArg Value.bool (decide_eq_true (by omega)).symm, rfl⟩
          · go_wp2
            go_meet
            case rel => exact ⟨congrArg Value.bool (decide_eq_true (by omega)).symm, rfl⟩
        case rest =>
          by_cases hq : q + s.n + s.l + 16 ≤ L ∧ f + s.l + 16 ≤ L ∧ s.n + 16 ≤ r ∧ 16 ≤ s.o
          · rw [decide_eq_false (by simpa using hq)] at hcut
            obtain ⟨rfl, rfl⟩ := hcut
            obtain ⟨q1, q2, q3, q4⟩ := hq
            have hra := hW.addr (by omega)
            subst hra
            obtain ⟨hla, hX, hXl, hblb, hYX⟩ := HLL.out (by have := hW.er; omega)
            have HYX : Hid (Y = (X.drop lo).take nl) := hYX
            clear hYX
            have hXr : IsBytes wo bl X := hX.turn hW.turn hblb
            have hNr : N + r ≤ nl := by have := hW.er; omega
            go_wp2_with fail
            refine (copyWide_at (wo.drewN nq) bb L L bl (lo + N) r rc q 0 q 0 rfl rfl gk X (hW.bytes.drewN nq) (hXr.drewN nq) (by omega) (by have := hW.len; omega) (by omega) (by omega) hL hrc (by omega) (by omega)).mono ?_
            rintro e wa ⟨rfl, hBa, hTa⟩
            go_wp2_with fail
            go_loopw [15] (fun v15 wx => ∃ c : Nat, 16 ≤ c ∧ c ≤ s.n + 16 ∧ v15 = .int .i64 c ∧ IsBytes wx bb (Ring.over gk q ((X.drop (lo + N)).take c)) ∧ Turn (fun j => j = bb) wo wx) (fun v15 _ => s.n + 16 - (intOf v15).toNat)
            case atStart => exact ⟨16, Nat.le_refl _, by omega, rfl, hBa, ((Turn.refl _ wo).drewN nq).trans hTa⟩
            case round =>
              obtain ⟨c, hc1, hc2, rfl, hBc, hTc⟩ := hrel
              have hXc : IsBytes wr bl X := hXr.turn hTc hblb
              have hBl : (Ring.over gk q ((X.drop (lo + N)).take c)).length = L := by rw [Ring.over_len _ _ _ (by rw [hW.len]; simp; omega)]; exact hW.len
              have HBL : Hid ((Ring.over gk q ((X.drop (lo + N)).take c)).length = L) := hBl
              clear hBl
              by_cases hcn : c < s.n
              · go_wp2_with fail
                refine (copyWide_at wr bb L L bl (lo + N) r rc (q + c) c _ _ (by omega) (by omega) _ X hBc hXc (by omega) (by have := HBL.out; omega) (by omega) (by omega) hL hrc (by omega) (by omega)).mono ?_
                rintro e wy ⟨rfl, hBy, hTy⟩
                rw [lit_step gk X (lo + N) q c (by rw [hW.len]; omega) (by omega)] at hBy
                go_wp2
                go_roundw
                case rel => exact ⟨c + 16, by omega, by omega, by go_num, hBy, hTc.trans hTy⟩
                case measure => simp [intOf]; omega
              · rename World => wb
                go_wp2_with fail
                refine (copyWide_at wb bb L L bb 0 L L (q + s.n) f _ _ (by omega) (by omega) _ _ hBc hBc (by omega) (by have := HBL.out; omega) (by omega) (by have := HBL.out; omega) hL hL (by omega) (by omega)).mono ?_
                rintro e wy ⟨rfl, hBy, hTy⟩
                have hfe := HF.out
                have es := rep_step (Ring.over gk q ((X.drop (lo + N)).take c)) L s.o (q + s.n) f 0 HBL.out (by omega) hfe (by omega) q4 hoL
                simp only [Nat.add_zero, Ring.rep] at es
                rw [Nat.zero_add, es] at hBy
                clear es hfe
                go_wp2_with fail
                go_loopw [16] (fun v16 wx => ∃ c2 : Nat, 16 ≤ c2 ∧ c2 ≤ s.l + 16 ∧ v16 = .int .i64 c2 ∧ IsBytes wx bb (Ring.rep s.o L c2 (Ring.over gk q ((X.drop (lo + N)).take c), q + s.n)).1 ∧ Turn (fun j => j = bb) wo wx) (fun v16 _ => s.l + 16 - (intOf v16).toNat)
                case atStart => exact ⟨16, Nat.le_refl _, by omega, rfl, hBy, hTc.trans hTy⟩
                case round =>
                  obtain ⟨c2, hd1, hd2, rfl, hBd, hTd⟩ := hrel
                  have HRL : Hid ((Ring.rep s.o L c2 (Ring.over gk q ((X.drop (lo + N)).take c), q + s.n)).1.length = L) := by show _ = _; rw [Ring.rep_len]; exact HBL.out
                  by_cases hcl : c2 < s.l
                  · go_wp2_with fail
                    refine (copyWide_at wr bb L L bb 0 L L (q + s.n + c2) (f + c2) _ _ (by omega) (by omega) _ _ hBd hBd (by omega) (by have := HRL.out; omega) (by omega) (by have := HRL.out; omega) hL hL (by omega) (by omega)).mono ?_
                    rintro e wz ⟨rfl, hBz, hTz⟩
                    rw [Nat.zero_add, rep_step (Ring.over gk q ((X.drop (lo + N)).take c)) L s.o (q + s.n) f c2 HBL.out (by omega) HF.out (by omega) q4 hoL] at hBz
                    go_wp2
                    go_roundw
                    case rel => exact ⟨c2 + 16, by omega, by omega, by go_num, hBz, hTd.trans hTz⟩
                    case measure => simp [intOf]; omega
                  · have HN := hW.next HSK.out HYL.out HYX.out (c1 := c) (c2 := c2) (by omega) hc2 (by omega) hd2 q1 q3 hBd hTd
                    go_wp2
                    go_roundw
                    case rel => exact ⟨k + 1, q + s.n + s.l, N + s.n, r - s.n, rc - s.n, _, _, by omega, by omega, by omega, by omega, by omega, by go_num, by go_num, rfl, HN⟩
                    case measure => simp [intOf]; omega
          · rw [decide_eq_true hq] at hcut
            obtain ⟨rfl, rfl⟩ := hcut
            have hstop : ∀ x, S[k]? = some x → ¬ Wide L q r x := by
              intro x hx
              rw [HSK.out] at hx
              cases hx
              unfold Wide
              rw [← HF.out]
              exact hq
            have HST : Hid (∀ x, S[k]? = some x → ¬ Wide L q r x) := hstop
            have hpq : p ≤ q := by have := hW.eq; omega
            clear hstop hq
            go_wp2_with fail
            refine (wrote_any (wo.drewN nq) b bb L z p u l t y _ ((H.turn hW.turn hne).drewN nq) hL (by omega) (by omega) (by omega)).mono ?_
            rintro e w2 ⟨rfl, hW2, hT2⟩
            go_wp2
            go_ret2
            exact hW.done hne hk HST.out ((Turn.refl _ wo).drewN nq) (hW.bytes.drewN nq) hW2 hT2
    · have hstop : ∀ x, S[k]? = some x → ¬ Wide L q r x := by
        intro x hx
        have := (List.getElem?_eq_some_iff.1 hx).1
        have := HSL.out
        omega
      have HST : Hid (∀ x, S[k]? = some x → ¬ Wide L q r x) := hstop
      have hpq : p ≤ q := by have := hW.eq; omega
      clear hstop
      go_wp2_with fail
      refine (wrote_any wo b bb L z p u l t y _ (H.turn hW.turn hne) hL (by omega) (by omega) (by omega)).mono ?_
      rintro e w2 ⟨rfl, hW2, hT2⟩
      go_wp2
      go_ret2
      exact hW.done hne hk HST.out (Turn.refl _ wo) hW.bytes hW2 hT2

end Go.Proofs.Qxb6602383a
