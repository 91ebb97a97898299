import Derived.Test.Qxb6602383aMem
import Derived.Outline
set_option linter.unusedVariables false
namespace Go.Proofs.Qxb6602383a
open Go.RowKit

set_option maxHeartbeats 400000 in
theorem room_calls (w : World) (b bb L : Nat) (z p u l t h : Int) (H : IsWin w b bb L z p u l t h) (hL : L ≤ 1048576) (hu0 : 0 ≤ u) (hu1 : u ≤ L) :
    Calls Try.prog 12 #[.pointer (some ⟨b, 0, none⟩)] w fun e w' => e = .returned (.int .i64 (L - u)) ∧ ∃ n, w' = w.drewN n := by
  have c0 := H.buf
  have c3 := H.cunread
  clear H
  go_enter Try.func12, Try.ntmps12
  go_wp2
  go_quiet (fail)
  go_wp2
  go_ret
  exact ⟨rfl, _, rfl⟩


theorem follows : Try.prog.follows .mixedOrders = true := by kernel_rfl

theorem wrote_world {w : World} {b bb L : Nat} {z p u l t y : Int} (H : IsWin w b bb L z p u l t y) (p' u' t' y' : Int) (nq : Nat) :
    IsWin (((((w.setCell ⟨b, 2, none⟩ (.int .i64 p')).drewN nq).setCell ⟨b, 3, none⟩ (.int .i64 u')).setCell ⟨b, 5, none⟩ (.int .i64 t')).setCell ⟨b, 6, none⟩ (.int .i64 y')).drew b bb L z p' u' l t' y' :=
  (((((H.setPos p').drewN nq).setUnread u').setTotal t').setHas y').drew
theorem wrote_world' {w : World} {b bb L : Nat} {z p u l t y : Int} (H : IsWin w b bb L z p u l t y) (p' p2 u' t' y' : Int) (nq : Nat) :
    IsWin ((((((w.setCell ⟨b, 2, none⟩ (.int .i64 p')).drewN nq).setCell ⟨b, 2, none⟩ (.int .i64 p2)).setCell ⟨b, 3, none⟩ (.int .i64 u')).setCell ⟨b, 5, none⟩ (.int .i64 t')).setCell ⟨b, 6, none⟩ (.int .i64 y')).drew b bb L z p2 u' l t' y' :=
  ((((((H.setPos p').drewN nq).setPos p2).setUnread u').setTotal t').setHas y').drew
theorem wrote_turn (w : World) (b : Nat) (a1 a2 a3 a4 : Value) (o1 o2 o3 o4 : Nat) (nq : Nat) :
    Turn (fun k => k = b) w (((((w.setCell ⟨b, o1, none⟩ a1).drewN nq).setCell ⟨b, o2, none⟩ a2).setCell ⟨b, o3, none⟩ a3).setCell ⟨b, o4, none⟩ a4).drew :=
  (((((((Turn.refl (fun k => k = b) w).setCell (p := ⟨b, o1, none⟩) rfl a1).drewN nq).setCell (p := ⟨b, o2, none⟩) rfl a2).setCell (p := ⟨b, o3, none⟩) rfl a3).setCell (p := ⟨b, o4, none⟩) rfl a4).drew)
theorem wrote_turn' (w : World) (b : Nat) (a1 a0 a2 a3 a4 : Value) (o1 o0 o2 o3 o4 : Nat) (nq : Nat) :
    Turn (fun k => k = b) w ((((((w.setCell ⟨b, o1, none⟩ a1).drewN nq).setCell ⟨b, o0, none⟩ a0).setCell ⟨b, o2, none⟩ a2).setCell ⟨b, o3, none⟩ a3).setCell ⟨b, o4, none⟩ a4).drew :=
  ((((((((Turn.refl (fun k => k = b) w).setCell (p := ⟨b, o1, none⟩) rfl a1).drewN nq).setCell (p := ⟨b, o0, none⟩) rfl a0).setCell (p := ⟨b, o2, none⟩) rfl a2).setCell (p := ⟨b, o3, none⟩) rfl a3).setCell (p := ⟨b, o4, none⟩) rfl a4).drew)

set_option maxHeartbeats 400000 in
theorem wrote_in (w : World) (b bb L : Nat) (z p u l t y n : Int) (H : IsWin w b bb L z p u l t y) (hL : L ≤ 1048576) (hp0 : 0 ≤ p) (hn0 : 0 ≤ n) (hpn : p + n < L) :
    Calls Try.prog 34 #[.pointer (some ⟨b, 0, none⟩), .int .i64 n] w fun e w' => e = .returned (.tuple #[]) ∧ IsWin w' b bb L z (p + n) (wrap64 (u + n)) l (wrap64 (t + n)) (min (wrap64 (y + n)) z) ∧ Turn (fun k => k = b) w w' := by
  have c0 := H.buf
  have c1 := H.csize
  have c2 := H.cpos
  have c3 := H.cunread
  have c5 := H.ctotal
  have c6 := H.chas
  have fz := H.thaw
  go_enter Try.func34, Try.ntmps34
  go_wp2
  go_quiet (fail)
  go_wp2
  refine region_tail 14 follows (by kernel_rfl) _ _ (by simp only [List.take_succ_cons, List.take_zero]; rfl) (by simp only [List.drop_succ_cons, List.drop_zero]; rfl) (fun KK hKK => ?_)
  repeat (go_big_quiet_step (fail))
  refine wpQuiet_nil (hKK.out _ ?_)
  clear hKK KK
  go_wp2
  · go_end0
    rw [show min (wrap64 (y + n)) z = z by omega]
    exact ⟨rfl, wrote_world H _ _ _ _ _, wrote_turn _ _ _ _ _ _ _ _ _ _ _⟩
  · go_end0
    rw [show min (wrap64 (y + n)) z = wrap64 (y + n) by omega]
    exact ⟨rfl, wrote_world H _ _ _ _ _, wrote_turn _ _ _ _ _ _ _ _ _ _ _⟩

set_option maxHeartbeats 400000 in
theorem wrote_end (w : World) (b bb L : Nat) (z p u l t y n : Int) (H : IsWin w b bb L z p u l t y) (hL : L ≤ 1048576) (hp0 : 0 ≤ p) (hn0 : 0 ≤ n) (hpn : p + n = L) :
    Calls Try.prog 34 #[.pointer (some ⟨b, 0, none⟩), .int .i64 n] w fun e w' => e = .returned (.tuple #[]) ∧ IsWin w' b bb L z 0 (wrap64 (u + n)) l (wrap64 (t + n)) (min (wrap64 (y + n)) z) ∧ Turn (fun k => k = b) w w' := by
  have c0 := H.buf
  have c1 := H.csize
  have c2 := H.cpos
  have c3 := H.cunread
  have c5 := H.ctotal
  have c6 := H.chas
  have fz := H.thaw
  have hq : p + n ≤ L := by omega
  have hq2 : L ≤ p + n := by omega
  clear hpn
  go_enter Try.func34, Try.ntmps34
  go_wp2
  go_quiet (fail)
  go_wp2
  refine region_tail 14 follows (by kernel_rfl) _ _ (by simp only [List.take_succ_cons, List.take_zero]; rfl) (by simp only [List.drop_succ_cons, List.drop_zero]; rfl) (fun KK hKK => ?_)
  repeat (go_big_quiet_step (fail))
  refine wpQuiet_nil (hKK.out _ ?_)
  clear hKK KK
  go_wp2
  · go_end0
    rw [show min (wrap64 (y + n)) z = z by omega]
    exact ⟨rfl, wrote_world' H _ _ _ _ _ _, wrote_turn' _ _ _ _ _ _ _ _ _ _ _ _ _⟩
  · go_end0
    rw [show min (wrap64 (y + n)) z = wrap64 (y + n) by omega]
    exact ⟨rfl, wrote_world' H _ _ _ _ _ _, wrote_turn' _ _ _ _ _ _ _ _ _ _ _ _ _⟩

/-- Wrote, where the bytes lie before the end of the ring. -/
theorem wrote_any (w : World) (b bb L : Nat) (z p u l t y n : Int) (H : IsWin w b bb L z p u l t y) (hL : L ≤ 1048576) (hp0 : 0 ≤ p) (hn0 : 0 ≤ n) (hpn : p + n ≤ L) :
    Calls Try.prog 34 #[.pointer (some ⟨b, 0, none⟩), .int .i64 n] w fun e w' => e = .returned (.tuple #[]) ∧ IsWin w' b bb L z (if p + n = L then 0 else p + n) (wrap64 (u + n)) l (wrap64 (t + n)) (min (wrap64 (y + n)) z) ∧ Turn (fun k => k = b) w w' := by
  by_cases hq : p + n = L
  · rw [if_pos hq]; exact wrote_end w b bb L z p u l t y n H hL hp0 hn0 hq
  · rw [if_neg hq]; exact wrote_in w b bb L z p u l t y n H hL hp0 hn0 (by omega)

end Go.Proofs.Qxb6602383a
