import Derived.Test.Qxb6602383aWin
import Derived.Deep.DeepCutAuto
import Derived.Deep.DeepFit
set_option linter.unusedVariables false
namespace Go.Proofs.Qxb6602383a
open Go.RowKit

theorem hide {p : Prop} (h : p) : Hid p := h
theorem drew_two (w : World) (a b : Nat) : ∃ n, (w.drewN a).drewN b = w.drewN n := ⟨_, World.drewN_drewN _ _ _⟩
theorem kmin (f p k : Nat) : k = (f + k - f).min (p + k - p) := by
  rw [Nat.add_sub_cancel_left, Nat.add_sub_cancel_left]; exact (Nat.min_self k).symm
theorem info5 : (Try.prog.info? 5).map (·.size) = some 1 := by kernel_rfl

theorem wrap_small {x : Int} (h0 : -9223372036854775808 ≤ x) (h1 : x ≤ 9223372036854775807) : wrap64 x = x := IntWalk.wrap64_in x ⟨h0, h1⟩
theorem wrap_add (t a b : Int) : wrap64 (wrap64 (t + a) + b) = wrap64 (t + (a + b)) := by
  unfold wrap64; omega

/-- What Wrote leaves, in the ring's own words. -/
theorem win_after {w : World} {b bb L : Nat} {z : Int} {p k : Nat} {u l t y : Int} (hp : p < L) (hL : L ≤ 1048576) (hpk : p + k ≤ L) (hu0 : 0 ≤ u) (huk : (k : Int) ≤ L - u) (hy0 : 0 ≤ y) (hyz : y ≤ z) (hzL : z ≤ L)
    (h : IsWin w b bb L z (if (p : Int) + k = L then 0 else (p : Int) + k) (wrap64 (u + k)) l (wrap64 (t + k)) (min (wrap64 (y + k)) z)) :
    IsWin w b bb L z (Ring.adv L p k : Nat) (u + k) l (wrap64 (t + k)) (min (y + k) z) := by
  rw [wrap_small (x := u + k) (by omega) (by omega), wrap_small (x := y + k) (by omega) (by omega)] at h
  have e : (if (p : Int) + k = L then 0 else (p : Int) + k) = (Ring.adv L p k : Nat) := by
    unfold Ring.adv; split <;> split <;> omega
  rw [e] at h
  exact h

/-- Where Repeat stands behind j bytes: q the place, g the place that is repeated, mj the ring. -/
structure RState (w : World) (b bb L : Nat) (z : Int) (p : Nat) (u l t y : Int) (off : Nat) (m : List Int) (j q g : Nat) (mj : List Int) (wr : World) : Prop where
  eq : q = Ring.adv L p j
  eg : g = Ring.bk L q off
  em : mj = (Ring.rep off L j (m, p)).1
  win : IsWin wr b bb L z q (u + j) l (wrap64 (t + j)) (min (y + j) z)
  bytes : IsBytes wr bb mj
  turn : Turn (fun i => i = b ∨ i = bb) w wr

theorem repeat_fast {w w0 wc w2 : World} {b bb L : Nat} {z : Int} {p : Nat} {u l t y : Int} {off k f : Nat} {m : List Int}
    (hne : b ≠ bb) (hp : p < L) (hmL : m.length = L) (hL : L ≤ 1048576) (ho1 : 1 ≤ off) (hoL : off ≤ L) (hu0 : 0 ≤ u) (huk : (k : Int) ≤ L - u) (hy0 : 0 ≤ y) (hyz : y ≤ z) (hzL : z ≤ L)
    (hf : f = Ring.bk L p off) (h1 : k ≤ off) (h2 : f + k ≤ L) (h3 : p + k ≤ L)
    (hB : IsBytes wc bb (Ring.over m p ((m.drop f).take k))) (T0 : Turn (fun i => i = b ∨ i = bb) w w0) (hT : Turn (fun j => j = bb) w0 wc)
    (hW : IsWin w2 b bb L z (if (p : Int) + k = L then 0 else (p : Int) + k) (wrap64 (u + k)) l (wrap64 (t + k)) (min (wrap64 (y + k)) z)) (hT2 : Turn (fun j => j = b) wc w2) :
    IsWin w2 b bb L z ((Ring.rep off L k (m, p)).2 : Nat) (u + k) l (wrap64 (t + k)) (min (y + k) z) ∧ IsBytes w2 bb (Ring.rep off L k (m, p)).1 ∧ Turn (fun j => j = b ∨ j = bb) w w2 := by
  refine ⟨?_, ?_, (T0.trans (hT.mono fun _ h => .inr h)).trans (hT2.mono fun _ h => .inl h)⟩
  · rw [Ring.rep_pos off L k (m, p) hp (by omega)]
    exact win_after hp hL h3 hu0 huk hy0 hyz hzL hW
  · rw [Ring.piece off L k m p hmL h3 hp hoL ho1 (by rw [← hf]; exact h2) (by rw [← hf]; subst hf; unfold Ring.bk; split <;> omega), ← hf]
    exact hB.turn hT2 (fun e => hne e.symm)

theorem rstate_start {w w0 : World} {b bb L : Nat} {z : Int} {p : Nat} {u l t y : Int} {off : Nat} {m : List Int} {f : Nat} (H : IsWin w b bb L z p u l t y) (HB : IsBytes w bb m) (hp : p < L) (T : Turn (fun i => i = b ∨ i = bb) w w0)
    (e : w0.heap = w.heap) (ht : wrap64 t = t) (hyz : y ≤ z) (hf : f = Ring.bk L p off) : RState w b bb L z p u l t y off m 0 p f m w0 := by
  refine ⟨(Ring.adv_zero hp).symm, hf, rfl, ?_, ?_, T⟩
  · have e1 : u + (0 : Nat) = u := by omega
    have e2 : t + (0 : Nat) = t := by omega
    have e3 : min (y + (0 : Nat)) z = y := by omega
    rw [e1, e2, e3, ht]
    unfold IsWin
    rw [e]
    exact H
  · unfold IsBytes
    rw [e]
    exact HB

theorem rstate_piece {w w0 wc w2 : World} {b bb L : Nat} {z : Int} {p : Nat} {u l t y : Int} {off : Nat} {m : List Int} {j q g k k2 : Nat} {mj : List Int} (hR : RState w b bb L z p u l t y off m j q g mj w0)
    (hne : b ≠ bb) (hp : p < L) (hmL : m.length = L) (hL : L ≤ 1048576) (ho1 : 1 ≤ off) (hoL : off ≤ L) (hu0 : 0 ≤ u) (huk : (k : Int) ≤ L - u) (hy0 : 0 ≤ y) (hyz : y ≤ z) (hzL : z ≤ L)
    (hjk : j + k2 ≤ k) (h2 : g + k2 ≤ L) (h3 : q + k2 ≤ L) (hov : q ≤ g ∨ g + k2 ≤ q)
    (hB : IsBytes wc bb (Ring.over mj q ((mj.drop g).take k2))) (hT : Turn (fun j => j = bb) w0 wc)
    (hW : IsWin w2 b bb L z (if (q : Int) + k2 = L then 0 else (q : Int) + k2) (wrap64 (u + j + k2)) l (wrap64 (wrap64 (t + j) + k2)) (min (wrap64 (min (y + j) z + k2)) z)) (hT2 : Turn (fun j => j = b) wc w2) :
    ∀ g' : Nat, (g' : Int) = (if (g : Int) + k2 = L then 0 else (g : Int) + k2) → RState w b bb L z p u l t y off m (j + k2) (Ring.adv L q k2) g' (Ring.rep off L k2 (mj, q)).1 w2 := by
  have hjL : j + k2 ≤ L := by omega
  have hqL : q < L := by rw [hR.eq]; exact Ring.adv_lt hp (by omega)
  have hmj : mj.length = L := by rw [hR.em, Ring.rep_len]; exact hmL
  intro g' hg'
  refine ⟨?_, ?_, ?_, ?_, ?_, (hR.turn.trans (hT.mono fun _ h => .inr h)).trans (hT2.mono fun _ h => .inl h)⟩
  · rw [hR.eq, Ring.adv_adv hp hjL]
  · have := hR.eg
    unfold Ring.bk Ring.adv at *
    split at hg' <;> split at this <;> split <;> split <;> omega
  · have e : Ring.rep off L j (m, p) = (mj, q) := by
      rw [hR.em, hR.eq, ← Ring.rep_pos off L j (m, p) hp (by omega)]
    rw [Ring.rep_add, e]
  · have := win_after (k := k2) hqL hL h3 (u := u + j) (by omega) (by omega) (y := min (y + j) z) (by omega) (by omega) hzL hW
    rw [wrap_add] at this
    have e1 : u + (j : Int) + (k2 : Int) = u + ((j + k2 : Nat) : Int) := by omega
    have e2 : t + ((j : Int) + (k2 : Int)) = t + ((j + k2 : Nat) : Int) := by omega
    have e3 : min (min (y + (j : Int)) z + (k2 : Int)) z = min (y + ((j + k2 : Nat) : Int)) z := by omega
    rw [e1, e2, e3] at this
    exact this
  · rw [Ring.piece off L k2 mj q hmj h3 hqL hoL ho1 (by rw [← hR.eg]; exact h2) (by rw [← hR.eg]; exact hov), ← hR.eg]
    exact hB.turn hT2 (fun e => hne e.symm)

theorem rstate_end {w wr : World} {b bb L : Nat} {z : Int} {p : Nat} {u l t y : Int} {off : Nat} {m : List Int} {k q g : Nat} {mj : List Int} (hR : RState w b bb L z p u l t y off m k q g mj wr) (hp : p < L) (hk : k ≤ L) :
    IsWin wr b bb L z ((Ring.rep off L k (m, p)).2 : Nat) (u + k) l (wrap64 (t + k)) (min (y + k) z) ∧ IsBytes wr bb (Ring.rep off L k (m, p)).1 ∧ Turn (fun j => j = b ∨ j = bb) w wr := by
  rw [Ring.rep_pos off L k (m, p) hp hk, ← hR.em, ← hR.eq]
  exact ⟨hR.win, hR.bytes, hR.turn⟩

set_option maxRecDepth 100000 in
set_option maxHeartbeats 1000000 in
theorem repeat_calls (w : World) (b bb L : Nat) (z : Int) (p : Nat) (u l t y : Int) (off n k : Nat) (m : List Int)
    (H : IsWin w b bb L z p u l t y) (HB : IsBytes w bb m) (hne : b ≠ bb) (hmL : m.length = L) (hL : L ≤ 1048576) (hp : p < L) (hu0 : 0 ≤ u) (huL : u ≤ L)
    (hy0 : 0 ≤ y) (hyz : y ≤ z) (hzL : z ≤ L) (ho1 : 1 ≤ off) (hoL : off ≤ L) (hn : (n : Int) ≤ 9223372036854775807) (ht : wrap64 t = t) (hk : (k : Int) = min (n : Int) (L - u)) :
    Calls Try.prog 13 #[.pointer (some ⟨b, 0, none⟩), .int .i64 off, .int .i64 n] w fun e w' => e = .returned (.int .i64 k) ∧
      IsWin w' b bb L z ((Ring.rep off L k (m, p)).2 : Nat) (u + k) l (wrap64 (t + k)) (min (y + k) z) ∧ IsBytes w' bb (Ring.rep off L k (m, p)).1 ∧ Turn (fun j => j = b ∨ j = bb) w w' := by
  have HT : Hid (wrap64 t = t) := ht
  clear ht
  have HK : Hid ((k : Int) = min (n : Int) (L - u)) := hk
  clear hk
  obtain ⟨f, hf⟩ : ∃ f, f = Ring.bk L p off := ⟨_, rfl⟩
  have hfL : f < L := by rw [hf]; unfold Ring.bk; split <;> omega
  have HF : Hid (f = Ring.bk L p off) := hf
  clear hf
  have hkL : k ≤ L := by have := HK.out; omega
  have hkL2 : (k : Int) ≤ L - u := by have := HK.out; omega
  have c0 := H.buf
  have c2 := H.cpos
  have c3 := H.cunread
  go_enter Try.func13, Try.ntmps13
  go_upto_region 1 with fail
  go_cut [2] (fun v2 wx => v2 = .int .i64 k ∧ ∃ nq, wx = w.drewN nq)
  case first =>
    go_wp2_with fail
    refine (room_calls _ b bb L z p u l t y H hL hu0 huL).mono ?_
    rintro e w' ⟨rfl, nq, rfl⟩
    by_cases hc : (n : Int) ≤ L - u
    · go_wp2
      go_meet
      case rel => exact ⟨by rw [show (k : Int) = n by have := HK.out; omega], _, rfl⟩
    · go_wp2
      go_meet
      case rel => exact ⟨by rw [show (k : Int) = L - u by have := HK.out; omega], _, rfl⟩
  case rest =>
    obtain ⟨rfl, nq, rfl⟩ := hcut
    go_upto_if 21 with fail
    go_cut [7] (fun v7 wx => v7 = .int .i64 f ∧ wx = w.drewN nq)
    case first =>
      by_cases hpo : p < off
      · go_wp2
        go_meet
        case rel => exact ⟨by rw [show (f : Int) = (p : Int) - off + L by rw [HF.out]; unfold Ring.bk; rw [if_pos hpo]; omega], rfl⟩
      · go_wp2
        go_meet
        case rel => exact ⟨by rw [show (f : Int) = (p : Int) - off by rw [HF.out]; unfold Ring.bk; rw [if_neg hpo]; omega], rfl⟩
    case rest =>
      obtain ⟨rfl, rfl⟩ := hcut
      go_upto_region 5 with fail
      go_cut [56] (fun v wx => v = .bool (decide (k ≤ off ∧ f + k ≤ L ∧ p + k ≤ L)) ∧ ∃ nq, wx = w.drewN nq)
      case first =>
        by_cases h1 : k ≤ off
        · by_cases h2 : f + k ≤ L
          · have h1' : (k : Int) ≤ off := by omega
            have h2' : (f : Int) + k ≤ L := by omega
            by_cases h3 : p + k ≤ L
            · go_quiet (fail)
              go_wp2
              go_meet
              case rel => exact ⟨congrArg Value.bool (decide_eq_decide.2 (by omega)), drew_two _ _ _⟩
            · go_quiet (fail)
              go_wp2
              go_meet
              case rel => exact ⟨congrArg Value.bool (decide_eq_decide.2 (by omega)), drew_two _ _ _⟩
          · have h2' : decide ((f : Int) + k ≤ L) = false := decide_eq_false (by omega)
            go_quiet (fail)
            go_wp2
            go_meet
            case rel => exact ⟨congrArg Value.bool (decide_eq_false (by omega)).symm, drew_two _ _ _⟩
        · have h1' : decide ((k : Int) ≤ off) = false := decide_eq_false (by omega)
          go_quiet (fail)
          go_wp2
          go_meet
          case rel => exact ⟨congrArg Value.bool (decide_eq_false (by omega)).symm, drew_two _ _ _⟩
      case rest =>
        by_cases hq : k ≤ off ∧ f + k ≤ L ∧ p + k ≤ L
        · rw [decide_eq_true hq] at hcut
          obtain ⟨rfl, nq, rfl⟩ := hcut
          go_upto_region 6 with fail
          refine region_tail 24 follows (by kernel_rfl) _ _ (by simp only [List.take_succ_cons, List.take_zero]; rfl) (by simp only [List.drop_succ_cons, List.drop_zero]; rfl) (fun KK hKK => ?_)
          repeat (go_big_quiet_step (fail))
          refine wpQuiet_nil (hKK.out _ ?_)
          clear hKK KK
          obtain ⟨hq1, hq2, hq3⟩ := hq
          refine wpList_copy_bytes rfl (.tmp 71) (.tmp 80) 22 22 rfl 5 Try.underlying22 info5 bb bb p f _ _ _ _ rfl rfl m m HB HB k (kmin _ _ _) (by omega) (by omega) (fun wc hwB hwT => ?_)
          have Hc : IsWin wc b bb L z p u l t y := (H.drewN nq).drew.turn hwT hne
          go_wp2_with fail
          refine (wrote_any wc b bb L z p u l t y k Hc hL (by omega) (by omega) (by omega)).mono ?_
          rintro e w2 ⟨rfl, hW2, hT2⟩
          go_wp2
          go_ret
          exact ⟨rfl, repeat_fast hne hp hmL hL ho1 hoL hu0 hkL2 hy0 hyz hzL HF.out hq1 hq2 hq3 hwB (((Turn.refl _ w).drewN nq).drew) hwT hW2 hT2⟩
        · rw [decide_eq_false hq] at hcut
          obtain ⟨rfl, nq, rfl⟩ := hcut
          clear hq
          go_wp2_with fail
          go_loopw [7, 8] (fun v7 v8 wr => ∃ (j q g : Nat) (mj : List Int), j ≤ k ∧ q < L ∧ g < L ∧ v7 = .int .i64 g ∧ v8 = .int .i64 ((k : Int) - j) ∧ RState w b bb L z p u l t y off m j q g mj wr)
            (fun _ v8 _ => (intOf v8).toNat)
          case atStart => exact ⟨0, p, f, m, Nat.zero_le _, hp, hfL, rfl, by simp, rstate_start H HB hp ((Turn.refl _ w).drewN nq) rfl HT.out hyz HF.out⟩
          case round =>
            obtain ⟨j, q, g, mj, hj, hqL, hgL, rfl, rfl, hR⟩ := hrel
            clear c0 c2 c3
            have c0 := hR.win.buf
            have c2 := hR.win.cpos
            by_cases hlt : j < k
            · obtain ⟨k1, hk1⟩ : ∃ k1 : Nat, (k1 : Int) = min (min ((k : Int) - j) (L - q)) (L - g) := ⟨min (min (k - j) (L - q)) (L - g), by omega⟩
              obtain ⟨k2, hk2⟩ : ∃ k2 : Nat, k2 = if g < q then min k1 (q - g) else k1 := ⟨_, rfl⟩
              have HK1 : Hid ((k1 : Int) = min (min ((k : Int) - j) (L - q)) (L - g)) := hk1
              have HK2 : Hid (k2 = if g < q then min k1 (q - g) else k1) := hk2
              have b1 : j + k2 ≤ k := by split at hk2 <;> omega
              have b2 : g + k2 ≤ L := by split at hk2 <;> omega
              have b3 : q + k2 ≤ L := by split at hk2 <;> omega
              have b4 : 1 ≤ k2 := by split at hk2 <;> omega
              have B5 : Hid (q ≤ g ∨ g + k2 ≤ q) := by show _ ∨ _; split at hk2 <;> omega
              have b6 : k1 ≤ L := by omega
              clear hk1 hk2
              go_upto_region 11 with fail
              go_cut [9] (fun v9 wx => v9 = .int .i64 k1 ∧ ∃ nq, wx = wr.drewN nq)
              case first =>
                go_quiet (fail)
                go_wp2
                all_goals (go_meet; case rel => exact ⟨congrArg (Value.int .i64) (by have := HK1.out; omega), _, rfl⟩)
              case rest =>
                obtain ⟨rfl, nq, rfl⟩ := hcut
                go_upto_if 113 with fail
                go_cut [9] (fun v9 wx => v9 = .int .i64 k2 ∧ wx = wr.drewN nq)
                case first =>
                  by_cases hgq : g < q
                  · go_wp2
                    all_goals (go_meet; case rel => exact ⟨congrArg (Value.int .i64) (by have := HK2.out; rw [if_pos hgq] at this; omega), rfl⟩)
                  · go_wp2
                    all_goals (go_meet; case rel => exact ⟨congrArg (Value.int .i64) (by have := HK2.out; rw [if_neg hgq] at this; omega), rfl⟩)
                case rest =>
                  obtain ⟨rfl, rfl⟩ := hcut
                  go_upto_region 14 with fail
                  refine region_tail 24 follows (by kernel_rfl) _ _ (by simp only [List.take_succ_cons, List.take_zero]; rfl) (by simp only [List.drop_succ_cons, List.drop_zero]; rfl) (fun KK hKK => ?_)
                  repeat (go_big_quiet_step (fail))
                  refine wpQuiet_nil (hKK.out _ ?_)
                  clear hKK KK
                  have hmj : mj.length = L := by rw [hR.em, Ring.rep_len]; exact hmL
                  refine wpList_copy_bytes rfl (.tmp 136) (.tmp 145) 22 22 rfl 5 Try.underlying22 info5 bb bb q g _ _ _ _ rfl rfl mj mj hR.bytes hR.bytes k2 (kmin _ _ _) (by omega) (by omega) (fun wc hwB hwT => ?_)
                  have Hc := (hR.win.drewN nq).drew.turn hwT hne
                  have HM : Hid (mj.length = L) := hmj
                  clear hmj c0 c2
                  go_wp2_with fail
                  refine (wrote_any wc b bb L z q (u + j) l (wrap64 (t + j)) (min (y + j) z) k2 Hc hL (by omega) (by omega) (by omega)).mono ?_
                  rintro e w2 ⟨rfl, hW2, hT2⟩
                  have RR := rstate_piece (k := k) hR hne hp hmL hL ho1 hoL hu0 hkL2 hy0 hyz hzL b1 b2 b3 B5.out hwB (((Turn.refl _ wr).drewN nq).drew.trans hwT) hW2 hT2
                  have RH := hide RR
                  clear RR
                  have c0 := hW2.buf
                  by_cases hgl : (g : Int) + k2 = L
                  · have hgb : ((g : Int) + k2 == L) = true := by simp [hgl]
                    have hgl1 : (g : Int) + k2 ≤ L := by omega
                    have hgl2 : L ≤ (g : Int) + k2 := by omega
                    have HG : Hid ((g : Int) + k2 = L) := hgl
                    clear hgl
                    go_wp2
                    go_roundw
                    case rel => exact ⟨j + k2, _, 0, _, b1, Ring.adv_lt hqL (by omega), by omega, rfl, by go_num, RH.out 0 (by rw [if_pos HG.out]; rfl)⟩
                    case measure => simp [intOf]; omega
                  · have hgb : ((g : Int) + k2 == L) = false := by simp [hgl]
                    go_wp2
                    go_roundw
                    case rel => exact ⟨j + k2, _, g + k2, _, b1, Ring.adv_lt hqL (by omega), by omega, by go_num, by go_num, RH.out (g + k2) (by rw [if_neg hgl]; omega)⟩
                    case measure => simp [intOf]; omega
            · have hjk : j = k := by omega
              subst hjk
              go_wp2
              go_ret
              exact ⟨rfl, rstate_end hR hp hkL⟩

end Go.Proofs.Qxb6602383a
