/-
  Write, where there is room for all.
-/
import Derived.Test.Qxb6602383aWrite
set_option linter.unusedVariables false
namespace Go.Proofs.Qxb6602383a
open Go.RowKit

/-- Where Write stands behind j bytes. -/
structure LState (w : World) (b bb L : Nat) (z : Int) (p : Nat) (u l t y : Int) (Y m : List Int) (j q : Nat) (mj : List Int) (wr : World) : Prop where
  eq : q = Ring.adv L p j
  em : Ring.lay L (Y.take j) (m, p) = (mj, q)
  win : IsWin wr b bb L z q (u + j) l (wrap64 (t + j)) (min (y + j) z)
  bytes : IsBytes wr bb mj
  turn : Turn (fun i => i = b ∨ i = bb) w wr

theorem lstate_start {w : World} {b bb L : Nat} {z : Int} {p : Nat} {u l t y : Int} {Y m : List Int} (H : IsWin w b bb L z p u l t y) (HB : IsBytes w bb m) (hp : p < L) (ht : wrap64 t = t) (hyz : y ≤ z) : LState w b bb L z p u l t y Y m 0 p m w := by
  refine ⟨(Ring.adv_zero hp).symm, rfl, ?_, HB, Turn.refl _ _⟩
  have e1 : u + (0 : Nat) = u := by omega
  have e2 : t + (0 : Nat) = t := by omega
  have e3 : min (y + (0 : Nat)) z = y := by omega
  rw [e1, e2, e3, ht]
  exact H

theorem lstate_next {w w0 wc w2 : World} {b bb L : Nat} {z : Int} {p : Nat} {u l t y : Int} {Y m : List Int} {j q kk nn : Nat} {mj : List Int} (hR : LState w b bb L z p u l t y Y m j q mj w0)
    (hne : b ≠ bb) (hp : p < L) (hmL : m.length = L) (hL : L ≤ 1048576) (hu0 : 0 ≤ u) (hun : (nn : Int) ≤ L - u) (hy0 : 0 ≤ y) (hyz : y ≤ z) (hzL : z ≤ L) (hYl : Y.length = nn)
    (hjk : j + kk ≤ nn) (h3 : q + kk ≤ L) (hB : IsBytes wc bb (Ring.over mj q ((Y.drop j).take kk))) (hT : Turn (fun i => i = bb) w0 wc)
    (hW : IsWin w2 b bb L z (if (q : Int) + kk = L then 0 else (q : Int) + kk) (wrap64 (u + j + kk)) l (wrap64 (wrap64 (t + j) + kk)) (min (wrap64 (min (y + j) z + kk)) z)) (hT2 : Turn (fun i => i = b) wc w2) :
    LState w b bb L z p u l t y Y m (j + kk) (Ring.adv L q kk) (Ring.over mj q ((Y.drop j).take kk)) w2 := by
  have hqL : q < L := by rw [hR.eq]; exact Ring.adv_lt hp (by omega)
  have hmj : mj.length = L := by
    have := Ring.lay_len L (Y.take j) (m, p)
    rw [hR.em] at this
    exact this.trans hmL
  have hkl : ((Y.drop j).take kk).length = kk := by simp; omega
  refine ⟨by rw [hR.eq, Ring.adv_adv hp (by omega)], ?_, ?_, hB.turn hT2 (fun e => hne e.symm), (hR.turn.trans (hT.mono fun _ h => .inr h)).trans (hT2.mono fun _ h => .inl h)⟩
  · rw [List.take_add, Ring.lay_append, hR.em]
    refine Prod.ext ?_ ?_
    · exact Ring.lay_over L _ mj q hmj (by omega)
    · rw [Ring.lay_pos L _ _ hqL (by omega), hkl]
  · have := win_after (k := kk) hqL hL h3 (u := u + j) (by omega) (by omega) (y := min (y + j) z) (by omega) (by omega) hzL hW
    rw [wrap_add] at this
    have e1 : u + (j : Int) + (kk : Int) = u + ((j + kk : Nat) : Int) := by omega
    have e2 : t + ((j : Int) + (kk : Int)) = t + ((j + kk : Nat) : Int) := by omega
    have e3 : min (min (y + (j : Int)) z + (kk : Int)) z = min (y + ((j + kk : Nat) : Int)) z := by omega
    rw [e1, e2, e3] at this
    exact this

theorem step_call1 {ops : Array Oper} {o : Oper} {a : Act} {w : World} {K : Act → World → Prop} {Q : Exit → Act → World → Prop} {E : Prop} (hg : o.guard = none) (f : FuncId) (x : Operand) (ats : Array TypeId)
    (ho : o.op = .call { callee := .value (.func f), args := #[x], argTypes := ats }) (v : Value) (hx : a.eval x = v) (hf : (callFunc f #[v]).run Try.prog w = .ok (.enter f #[v]) w)
    (R : Ending → World → Prop) (h : Calls Try.prog f #[v] w R) (hK : ∀ e w', R e w' → ∃ v, e = .returned v ∧ K (a.put o.dst v) w') :
    if Region.wanted o (yielded ops a.tmps) = true then Oper.wp Try.prog o a w K Q else E :=
  step_call hg f #[x] ats ho #[v] (by simp [hx]) hf R h hK

theorem min_two (a b k : Nat) (h : k = min a b) : k = a.min b := h

set_option maxRecDepth 100000 in
set_option maxHeartbeats 4000000 in
theorem write_calls (w : World) (b bb L : Nat) (z : Int) (p : Nat) (u l t y : Int) (m : List Int) (pa : Option Addr) (bl lo nn pcap : Nat) (X Y : List Int)
    (H : IsWin w b bb L z p u l t y) (HB : IsBytes w bb m) (hne : b ≠ bb) (hmL : m.length = L) (hL : L ≤ 1048576) (hp : p < L) (hu0 : 0 ≤ u) (hun : (nn : Int) ≤ L - u) (hy0 : 0 ≤ y) (hyz : y ≤ z) (hzL : z ≤ L) (ht : wrap64 t = t)
    (hl : 0 < nn → pa = some ⟨bl, lo, none⟩ ∧ IsBytes w bl X ∧ lo + nn ≤ X.length ∧ bl ≠ bb ∧ bl ≠ b ∧ Y = (X.drop lo).take nn) (hYl : Y.length = nn) (hcap : nn ≤ pcap) (hcap2 : pcap ≤ 1048576) :
    Calls Try.prog 32 #[.pointer (some ⟨b, 0, none⟩), .slice pa nn pcap] w fun e w' => e = .returned (.int .i64 nn) ∧ ∃ q mq, LState w b bb L z p u l t y Y m nn q mq w' := by
  have HT : Hid (wrap64 t = t) := ht
  have HML : Hid (m.length = L) := hmL
  have HYL : Hid (Y.length = nn) := hYl
  have HLL : Hid (0 < nn → pa = some ⟨bl, lo, none⟩ ∧ IsBytes w bl X ∧ lo + nn ≤ X.length ∧ bl ≠ bb ∧ bl ≠ b ∧ Y = (X.drop lo).take nn) := hl
  clear ht hmL hYl hl
  go_enter Try.func32, Try.ntmps32
  go_wp2_with fail
  go_loopw [5] (fun v5 wr => ∃ (j q : Nat) (mj : List Int), j ≤ nn ∧ q < L ∧ v5 = .int .i64 j ∧ LState w b bb L z p u l t y Y m j q mj wr) (fun v5 _ => nn - (intOf v5).toNat)
  case atStart => exact ⟨0, p, m, Nat.zero_le _, hp, rfl, lstate_start H HB hp HT.out hyz⟩
  case round =>
    obtain ⟨j, q, mj, hj, hqL, rfl, hR⟩ := hrel
    by_cases hlt : j < nn
    · obtain ⟨hpa, hX, hXl, hblb, hblb2, hYX⟩ := HLL.out (by omega)
      subst hpa
      have HYX : Hid (Y = (X.drop lo).take nn) := hYX
      clear hYX
      have hX1 : IsBytes wr bl X := hX.turn hR.turn (fun h => by rcases h with h | h <;> contradiction)
      have hmj : mj.length = L := by
        have := Ring.lay_len L (Y.take j) (m, p)
        rw [hR.em] at this
        exact this.trans HML.out
      have HMJ : Hid (mj.length = L) := hmj
      obtain ⟨kf, hkf⟩ : ∃ kf : Nat, (kf : Int) = min ((L : Int) - q) (L - (u + j)) := ⟨(min ((L : Int) - q) (L - (u + j))).toNat, by omega⟩
      obtain ⟨kk, hkk⟩ : ∃ kk : Nat, kk = min (nn - j) kf := ⟨_, rfl⟩
      have b1 : j + kk ≤ nn := by omega
      have b2 : q + kk ≤ L := by omega
      have b3 : 1 ≤ kk := by omega
      have HKF : Hid ((kf : Int) = min ((L : Int) - q) (L - (u + j))) := hkf
      have HKK : Hid (kk = min (nn - j) kf) := hkk
      clear hmj hkf hkk
      go_wp2_with fail
      refine (room_calls _ b bb L z q (u + j) l _ _ hR.win hL (by omega) (by omega)).mono ?_
      rintro e w1 ⟨rfl, n1, rfl⟩
      go_upto_region 3 with fail
      go_cut [6] (fun v6 wx => v6 = .int .i64 kk ∧ IsBytes wx bb (Ring.over mj q ((X.drop (lo + j)).take kk)) ∧ Turn (fun i => i = bb) wr wx)
      case first =>
        have hw36 : ∀ n, IsWin (wr.drewN n) b bb L z q (u + j) l (wrap64 (t + j)) (min (y + j) z) := fun n => hR.win
        have HW36 : Hid (∀ n, Calls Try.prog 36 #[.pointer (some ⟨b, 0, none⟩)] (wr.drewN n) fun e w' => e = .returned (.slice (some ⟨bb, q, none⟩) kf (L - q)) ∧ ∃ n', w' = (wr.drewN n).drewN n') := fun n =>
          free_calls (wr.drewN n) b bb L z q (u + j) l (wrap64 (t + j)) (min (y + j) z) kf (hw36 n) hL hqL (by omega) (by omega) HKF.out
        clear hw36
        have hpj : ¬ pcap = j := by omega
        go_region_law (first | (refine step_call1 rfl 36 (.tmp 16) #[25] rfl (.pointer (some ⟨b, 0, none⟩)) rfl (Try.call36 _ _) _ (HW36.out (n1 + 1)) ?_; rintro e w' ⟨rfl, n5, rfl⟩; refine ⟨_, rfl, ?_⟩) | (refine step_copy_bytes rfl (.tmp 17) (.tmp 20) 22 22 rfl 5 Try.underlying22 info5 bb bl q (lo + j) _ _ _ _ rfl rfl mj X (by exact hR.bytes) (by exact hX1) kk (min_two _ _ _ HKK.out) (by have := HMJ.out; omega) (by omega) ?_; intro w5 hB5 hT5))
        go_wp2
        go_meet
        case rel => exact ⟨rfl, hB5, ((Turn.refl _ wr).drewN _).trans hT5⟩
      case rest =>
        obtain ⟨rfl, hB5, hT5⟩ := hcut
        have eY : (X.drop (lo + j)).take kk = (Y.drop j).take kk := by
          rw [HYX.out, List.drop_take, List.take_take, List.drop_drop, Nat.min_eq_left (by omega)]
        rw [eY] at hB5
        clear eY
        have Hc := hR.win.turn hT5 hne
        go_wp2_with fail
        refine (wrote_any _ b bb L z q (u + j) l (wrap64 (t + j)) (min (y + j) z) kk Hc hL (by omega) (by omega) (by omega)).mono ?_
        rintro e w6 ⟨rfl, hW6, hT6⟩
        have RR := lstate_next hR hne hp HML.out hL hu0 hun hy0 hyz hzL HYL.out b1 b2 hB5 hT5 hW6 hT6
        clear hW6 hT6 hB5 hT5 Hc hR hX1
        go_wp2
        go_roundw
        case rel => exact ⟨j + kk, _, _, b1, Ring.adv_lt hqL (by omega), by go_num, RR⟩
        case measure => simp [intOf]; omega
    · have hje : j = nn := by omega
      subst hje
      go_wp2
      go_ret
      exact ⟨rfl, q, mj, hR⟩

end Go.Proofs.Qxb6602383a
