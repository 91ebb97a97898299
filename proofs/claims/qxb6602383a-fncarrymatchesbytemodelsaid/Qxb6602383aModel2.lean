/-
  ringModel, sameOutside.
-/
import Derived.Test.Qxb6602383aModel
set_option linter.unusedVariables false
namespace Go.Proofs.Qxb6602383a
open Go.RowKit

/-- ringModel behind k sequences. -/
structure GState (w : World) (bm L p : Nat) (S : List Sq) (Y m : List Int) (k N q : Nat) (mk : List Int) (wr : World) : Prop where
  eN : N = Ring.sumN (S.take k)
  er : Ring.run L (S.take k) Y (m, p) = (mk, q)
  bytes : IsBytes wr bm mk
  turn : Turn (fun j => j = bm) w wr

theorem take_succ_get {X : List Int} {j : Nat} (h : j < X.length) : X.take (j + 1) = X.take j ++ [X.getD j 0] := by
  rw [List.take_succ_eq_append_getElem h]
  simp [List.getD_eq_getElem?_getD, h]

theorem lay_step (L : Nat) (X : List Int) (j : Nat) (s : List Int × Nat) (mj : List Int) (q : Nat) (h : Ring.lay L (X.take j) s = (mj, q)) (hj : j < X.length) :
    Ring.lay L (X.take (j + 1)) s = (mj.set q (X.getD j 0), Ring.nxt L q) := by
  rw [take_succ_get hj, Ring.lay_append, h]
  rfl

/-- What ringModel answers. -/
def ModelAns (w : World) (bm L p : Nat) (S : List Sq) (Y m : List Int) (cnt : Nat) (e : Ending) (w' : World) : Prop :=
  e = .returned (.tuple #[.int .i64 ((Ring.run L (S.take cnt) Y (m, p)).2 : Nat), .int .i64 (Ring.sumN (S.take cnt) : Nat)]) ∧ IsBytes w' bm (Ring.run L (S.take cnt) Y (m, p)).1 ∧ Turn (fun j => j = bm) w w'

theorem GState.done {w : World} {bm L p : Nat} {S : List Sq} {Y m : List Int} {k N q : Nat} {mk : List Int} {wr : World} (h : GState w bm L p S Y m k N q mk wr) : ModelAns w bm L p S Y m k (.returned (.tuple #[.int .i64 (q : Nat), .int .i64 (N : Nat)])) wr := by
  refine ⟨?_, ?_, h.turn⟩
  · rw [h.er, h.eN]
  · rw [h.er]; exact h.bytes

theorem GState.next {w : World} {bm L p : Nat} {S : List Sq} {Y m : List Int} {k N q : Nat} {mk : List Int} {wr : World} (h : GState w bm L p S Y m k N q mk wr) {s : Sq} (hs : S[k]? = some s) {mj : List Int} {qj : Nat} {m2 : List Int} {q2 : Nat} {wx : World}
    (h1 : Ring.lay L ((Y.drop N).take s.n) (mk, q) = (mj, qj)) (h2 : Ring.rep s.o L s.l (mj, qj) = (m2, q2)) (hB : IsBytes wx bm m2) (hT : Turn (fun j => j = bm) w wx) : GState w bm L p S Y m (k + 1) (N + s.n) q2 m2 wx := by
  refine ⟨by rw [Ring.sumN_take hs, h.eN], ?_, hB, hT⟩
  rw [Ring.run_take hs, h.er, ← h.eN, h1, h2]

theorem nxt_of {L q : Nat} (h : q + 1 = L) : Ring.nxt L q = 0 := by unfold Ring.nxt; rw [if_pos h]
theorem nxt_of' {L q : Nat} (h : ¬ q + 1 = L) : Ring.nxt L q = q + 1 := by unfold Ring.nxt; rw [if_neg h]

set_option maxRecDepth 100000 in
set_option maxHeartbeats 4000000 in
theorem ringModel_calls (bm L p : Nat) (m : List Int) (sa : Option Addr) (slen scap bs so : Nat) (S : List Sq) (cnt : Nat) (la : Option Addr) (nl lcap bl : Nat) (Y : List Int) (w : World)
    (hm : IsBytes w bm m) (hmL : m.length = L) (hL : L ≤ 1048576) (hp : p < L) (hJ : SIn w sa slen scap bs so S) (hbs : 0 < slen → bs ≠ bm) (hslm : slen ≤ 1048576) (hc : cnt ≤ slen) (hoff : ∀ s ∈ S, s.o ≤ L) (hoff1 : ∀ s ∈ S, 1 ≤ s.o)
    (hl : 0 < nl → la = some ⟨bl, 0, none⟩ ∧ IsBytes w bl Y ∧ bl ≠ bm) (hY : Y.length = nl) (hnl : nl ≤ 1048576) (hN : Ring.sumN S ≤ nl) :
    Calls Try.prog 25 #[.slice (some ⟨bm, 0, none⟩) L L, .int .i64 p, .slice sa slen scap, .int .i64 cnt, .slice la nl lcap] w fun e w' => ModelAns w bm L p S Y m cnt e w' := by
  have HML : Hid (m.length = L) := hmL
  have HYL : Hid (Y.length = nl) := hY
  have HLL : Hid (0 < nl → la = some ⟨bl, 0, none⟩ ∧ IsBytes w bl Y ∧ bl ≠ bm) := hl
  have HBS : Hid (0 < slen → bs ≠ bm) := hbs
  have HOF : Hid (∀ s ∈ S, s.o ≤ L) := hoff
  have HO1 : Hid (∀ s ∈ S, 1 ≤ s.o) := hoff1
  have HNS : Hid (Ring.sumN S ≤ nl) := hN
  clear hmL hY hl hbs hoff hoff1 hN
  go_enter Try.func25, Try.ntmps25
  go_wp2_with fail
  go_loopw [1, 13, 14] (fun v1 v13 v14 wr => ∃ (k N q : Nat) (mk : List Int), k ≤ cnt ∧ N ≤ nl ∧ q < L ∧ v1 = .int .i64 q ∧ v13 = .int .i64 N ∧ v14 = .int .i64 k ∧ GState w bm L p S Y m k N q mk wr) (fun _ _ v14 _ => cnt - (intOf v14).toNat)
  case atStart => exact ⟨0, 0, p, m, Nat.zero_le _, Nat.zero_le _, hp, rfl, rfl, rfl, rfl, rfl, hm, Turn.refl _ _⟩
  case round =>
    rename World => wo
    obtain ⟨k, N, q, mk, hk, hNl, hqL, rfl, rfl, rfl, hG⟩ := hrel
    by_cases hlt : k < cnt
    · obtain ⟨s, hs'⟩ : ∃ s, S[k]? = some s := ⟨_, List.getElem?_eq_getElem (by have := hJ.len; omega)⟩
      obtain ⟨hsa, hbsw⟩ := hJ.at0 (by omega)
      subst hsa
      have hbb := HBS.out (by omega)
      have hSo := hJ.seqs.turn hG.turn hbsw hbb
      obtain ⟨e0, e1, e2⟩ := hSo k s hs'
      have hmem : s ∈ S := List.mem_of_getElem? hs'
      have hn32 := (hJ.small s hmem).1
      have ho32 := (hJ.small s hmem).2.1
      have hl32 := (hJ.small s hmem).2.2
      have hoL := HOF.out s hmem
      have HSK : Hid (S[k]? = some s) := hs'
      have hNn : N + s.n ≤ nl := by
        have h1 := Ring.sumN_take hs'
        have h2 := Ring.sumN_take_le S (k + 1)
        have h3 := HNS.out
        have h4 := hG.eN
        omega
      clear hs' hmem
      go_wp2_with fail
      go_loopw [1, 13, 16] (fun v1 v13 v16 wx => ∃ (j qj : Nat) (mj : List Int), j ≤ s.n ∧ qj < L ∧ v1 = .int .i64 qj ∧ v13 = .int .i64 ((N : Int) + j) ∧ v16 = .int .i64 j ∧ Hid (Ring.lay L ((Y.drop N).take j) (mk, q) = (mj, qj)) ∧ IsBytes wx bm mj ∧ Hid (mj.length = L) ∧ Turn (fun j => j = bm) w wx)
        (fun _ _ v16 _ => s.n - (intOf v16).toNat)
      case atStart => exact ⟨0, q, mk, Nat.zero_le _, hqL, rfl, by simp, rfl, rfl, hG.bytes, by
        have := Ring.run_len L (S.take k) Y (m, p)
        rw [hG.er] at this
        exact this.trans HML.out, hG.turn⟩
      case round =>
        obtain ⟨j, qj, mj, hj, hqj, rfl, rfl, rfl, HLY, hBj, HMJ, hTj⟩ := hrel
        by_cases hjn : j < s.n
        · obtain ⟨hla, hYb, hblm⟩ := HLL.out (by omega)
          subst hla
          have hYl := HYL.out
          have e3 := (hYb.turn hTj hblm).cell (N + j) (by omega)
          have e4 := hBj.cell qj (by have := HMJ.out; omega)
          have e5 := hBj.thaw qj
          obtain ⟨x, hx⟩ : ∃ x, x = Y.getD (N + j) 0 := ⟨_, rfl⟩
          obtain ⟨x', hx'⟩ : ∃ x', x' = mj.getD qj 0 := ⟨_, rfl⟩
          rw [← hx] at e3
          rw [← hx'] at e4
          have hst := lay_step L (Y.drop N) j (mk, q) mj qj HLY.out (by simp; omega)
          rw [show (Y.drop N).getD j 0 = x by rw [hx]; simp [List.getD_eq_getElem?_getD]] at hst
          have HST : Hid (Ring.lay L ((Y.drop N).take (j + 1)) (mk, q) = (mj.set qj x, Ring.nxt L qj)) := hst
          clear hst hx hx' hYl
          by_cases hq1 : qj + 1 = L
          · have hq2 : ((qj : Int) + 1 == L) = true := by simp; omega
            have hq3 : (qj : Int) + 1 ≤ L := by omega
            have HQ : Hid (qj + 1 = L) := hq1
            clear hq1
            go_wp2
            go_roundw
            case rel => exact ⟨j + 1, _, _, by omega, Ring.nxt_lt hqj, by rw [nxt_of HQ.out]; rfl, by go_num, by go_num, HST.out, hBj.set qj x, by show _ = _; rw [List.length_set]; exact HMJ.out, hTj.setCell (p := ⟨bm, qj, none⟩) rfl _⟩
            case measure => simp [intOf]; omega
          · have hq2 : ((qj : Int) + 1 == L) = false := by simp; omega
            go_wp2
            go_roundw
            case rel => exact ⟨j + 1, _, _, by omega, Ring.nxt_lt hqj, by rw [nxt_of' hq1]; go_num, by go_num, by go_num, HST.out, hBj.set qj x, by show _ = _; rw [List.length_set]; exact HMJ.out, hTj.setCell (p := ⟨bm, qj, none⟩) rfl _⟩
            case measure => simp [intOf]; omega
        · have hjs : j = s.n := by omega
          subst hjs
          rename World => wb
          obtain ⟨f0, f1, f2⟩ := (hJ.seqs.turn hTj hbsw hbb) k s HSK.out
          clear e0 e1 e2
          go_wp2_with fail
          go_loopw [1, 19] (fun v1 v19 wx => ∃ (j2 q2 : Nat) (m2 : List Int), j2 ≤ s.l ∧ q2 < L ∧ v1 = .int .i64 q2 ∧ v19 = .int .i64 j2 ∧ Hid (Ring.rep s.o L j2 (mj, qj) = (m2, q2)) ∧ IsBytes wx bm m2 ∧ Hid (m2.length = L) ∧ Turn (fun j => j = bm) w wx)
            (fun _ v19 _ => s.l - (intOf v19).toNat)
          case atStart => exact ⟨0, qj, mj, Nat.zero_le _, hqj, rfl, rfl, rfl, hBj, HMJ, hTj⟩
          case round =>
            obtain ⟨j2, q2, m2, hj2, hq2L, rfl, rfl, HRP, hB2, HM2, hT2⟩ := hrel
            by_cases hjl : j2 < s.l
            · obtain ⟨g, hg⟩ : ∃ g, g = Ring.bk L q2 s.o := ⟨_, rfl⟩
              have hgL : g < L ∨ s.o = 0 := by rw [hg]; unfold Ring.bk; split <;> omega
              have ho1 : 1 ≤ s.o := HO1.out s (List.mem_of_getElem? HSK.out)
              have hgL : g < L := by omega
              have e3 := hB2.cell g (by have := HM2.out; omega)
              have e4 := hB2.cell q2 (by have := HM2.out; omega)
              have e5 := hB2.thaw q2
              obtain ⟨x, hx⟩ : ∃ x, x = m2.getD g 0 := ⟨_, rfl⟩
              obtain ⟨x', hx'⟩ : ∃ x', x' = m2.getD q2 0 := ⟨_, rfl⟩
              rw [← hx] at e3
              rw [← hx'] at e4
              have HST : Hid (Ring.rep s.o L (j2 + 1) (mj, qj) = (m2.set q2 x, Ring.nxt L q2)) := by
                show _ = _
                rw [Ring.rep_succ, HRP.out, hx, hg]
                rfl
              have HG : Hid (g = Ring.bk L q2 s.o) := hg
              clear hx hx' hg
              go_upto_if 74 with fail
              go_cut [20] (fun v20 wx => v20 = .int .i64 g ∧ wr = wx)
              case first =>
                by_cases hqo : q2 < s.o
                · go_wp2
                  go_meet
                  case rel => exact ⟨by rw [show (g : Int) = (q2 : Int) - s.o + L by rw [HG.out]; unfold Ring.bk; rw [if_pos hqo]; omega], rfl⟩
                · go_wp2
                  go_meet
                  case rel => exact ⟨by rw [show (g : Int) = (q2 : Int) - s.o by rw [HG.out]; unfold Ring.bk; rw [if_neg hqo]; omega], rfl⟩
              case rest =>
                obtain ⟨rfl, rfl⟩ := hcut
                by_cases hq1 : q2 + 1 = L
                · have hqt : ((q2 : Int) + 1 == L) = true := by simp; omega
                  have hq3 : (q2 : Int) + 1 ≤ L := by omega
                  have HQ : Hid (q2 + 1 = L) := hq1
                  clear hq1
                  go_wp2
                  go_roundw
                  case rel => exact ⟨j2 + 1, _, _, by omega, Ring.nxt_lt hq2L, by rw [nxt_of HQ.out]; rfl, by go_num, HST.out, hB2.set q2 x, by show _ = _; rw [List.length_set]; exact HM2.out, hT2.setCell (p := ⟨bm, q2, none⟩) rfl _⟩
                  case measure => simp [intOf]; omega
                · have hqt : ((q2 : Int) + 1 == L) = false := by simp; omega
                  go_wp2
                  go_roundw
                  case rel => exact ⟨j2 + 1, _, _, by omega, Ring.nxt_lt hq2L, by rw [nxt_of' hq1]; go_num, by go_num, HST.out, hB2.set q2 x, by show _ = _; rw [List.length_set]; exact HM2.out, hT2.setCell (p := ⟨bm, q2, none⟩) rfl _⟩
                  case measure => simp [intOf]; omega
            · have hjs : j2 = s.l := by omega
              subst hjs
              have HN := hG.next HSK.out HLY.out HRP.out hB2 hT2
              go_wp2
              go_roundw
              case rel => exact ⟨k + 1, _, _, _, by omega, by omega, hq2L, rfl, by go_num, by go_num, HN⟩
              case measure => simp [intOf]; omega
    · have hkc : k = cnt := by omega
      subst hkc
      go_wp2
      go_ret2
      exact hG.done

end Go.Proofs.Qxb6602383a
