/-
  THE LAWS' OWN SMALL FUNCTIONS: cloneBytes, ZZNew, ZZState, sameBytes, fieldsAfter.
-/
import Derived.Test.Qxb6602383aMem2
import Derived.Lib.SliceRun
import Derived.Outline
set_option linter.unusedVariables false
namespace Go.Proofs.Qxb6602383a
open Go.RowKit

theorem clone_nil (w : World) : Calls Try.prog 10 #[.slice none 0 0] w fun e w' => e = .returned (.slice none 0 0) ∧ w' = w := by
  have q22 : ∀ (w : World) (a : Option Addr) (n c n' c' : Nat), (binOp .eql 22 (.slice a n c) (.slice none n' c')).run Try.prog w = .ok (.bool a.isNone) w := fun w a n c n' c' => Lib.run_eql_slice_nil w _ _ a n c n' c' Try.underlying22
  go_enter Try.func10, Try.ntmps10
  go_wp2
  go_ret
  exact ⟨rfl, rfl⟩

set_option maxHeartbeats 400000 in
theorem clone_zero (x : Addr) (c : Nat) (w : World) : Calls Try.prog 10 #[.slice (some x) 0 c] w fun e w' => e = .returned (.slice (some ⟨w.heap.size, 0, none⟩) 0 0) ∧
    IsBytes w' w.heap.size [] ∧ w'.heap.size = w.heap.size + 1 ∧ Turn (fun _ => False) w w' := by
  have q22 : ∀ (w : World) (a : Option Addr) (n c n' c' : Nat), (binOp .eql 22 (.slice a n c) (.slice none n' c')).run Try.prog w = .ok (.bool a.isNone) w := fun w a n c n' c' => Lib.run_eql_slice_nil w _ _ a n c n' c' Try.underlying22
  go_enter Try.func10, Try.ntmps10
  go_wp2_with (at_make; refine wpList_make_bytes rfl (.tmp 8) (.tmp 8) rfl .i64 .i64 0 rfl rfl (by omega) ?_; intro w1 hB hs hT)
  go_loopw [4] (fun i wr => i = .int .i64 0 ∧ wr = w1) (fun _ _ => 0)
  case atStart => exact ⟨rfl, rfl⟩
  case round =>
    obtain ⟨rfl, rfl⟩ := hrel
    go_wp2
    go_ret
    exact ⟨rfl, hB, hs, hT⟩

set_option maxHeartbeats 400000 in
theorem clone_any (b off len cap : Nat) (zs : List Int) (w : World) (hb : b < w.heap.size) (hz : len ≤ zs.length) (hl : len ≤ 1048576) (hc : ∀ i, i < len → w.cell? ⟨b, off + i, none⟩ = some (.int .u8 (zs.getD i 0))) :
    Calls Try.prog 10 #[.slice (some ⟨b, off, none⟩) len cap] w fun e w' => e = .returned (.slice (some ⟨w.heap.size, 0, none⟩) len len) ∧
    IsBytes w' w.heap.size (zs.take len) ∧ w'.heap.size = w.heap.size + 1 ∧ Turn (fun _ => False) w w' := by
  have q22 : ∀ (w : World) (a : Option Addr) (n c n' c' : Nat), (binOp .eql 22 (.slice a n c) (.slice none n' c')).run Try.prog w = .ok (.bool a.isNone) w := fun w a n c n' c' => Lib.run_eql_slice_nil w _ _ a n c n' c' Try.underlying22
  have HC := hc
  have HCH : Hid (∀ i, i < len → w.cell? ⟨b, off + i, none⟩ = some (.int .u8 (zs.getD i 0))) := hc
  clear hc HC
  go_enter Try.func10, Try.ntmps10
  go_wp2_with (at_make; refine wpList_make_bytes rfl (.tmp 8) (.tmp 8) rfl .i64 .i64 len rfl rfl (by omega) ?_; intro w1 hB hs hT)
  go_loopw [4] (fun i wr => ∃ (k : Nat) (mm : List Int), k ≤ len ∧ i = .int .i64 k ∧ IsBytes wr w.heap.size mm ∧ mm.length = len ∧ (∀ j, j < k → mm.getD j 0 = zs.getD j 0) ∧ wr.heap.size = w.heap.size + 1 ∧ Turn (fun _ => False) w wr) (fun i _ => len - (intOf i).toNat)
  case atStart => exact ⟨0, _, Nat.zero_le _, rfl, hB, by simp, fun j hj => absurd hj (by omega), hs, hT⟩
  case round =>
    obtain ⟨k, mm, hk, rfl, hM, hlen, heq, hsz, hTr⟩ := hrel
    have HE : Hid (∀ j, j < k → mm.getD j 0 = zs.getD j 0) := heq
    have HL : Hid (mm.length = len) := hlen
    have HS : Hid (wr.heap.size = w.heap.size + 1) := hsz
    by_cases hlt : k < len
    · have e0 : wr.cell? ⟨b, off + k, none⟩ = some (.int .u8 (zs.getD k 0)) := by
        rw [hTr.cell hb (fun h => h)]; exact HCH.out k hlt
      have e1 : wr.cell? ⟨w.heap.size, k, none⟩ = some (.int .u8 (mm.getD k 0)) := hM.cell k (by omega)
      have e2 : wr.frozen? ⟨w.heap.size, k, none⟩ = false := hM.thaw k
      obtain ⟨x, hx⟩ : ∃ x, x = zs.getD k 0 := ⟨_, rfl⟩
      obtain ⟨x', hx'⟩ : ∃ x', x' = mm.getD k 0 := ⟨_, rfl⟩
      rw [← hx] at e0
      rw [← hx'] at e1
      have HX : Hid (x = zs.getD k 0) := hx
      clear hx hx' hlen heq hsz
      go_wp2
      go_roundw
      case rel =>
        refine ⟨k + 1, mm.set k x, by omega, by go_num, hM.set k x, by simpa using HL.out, fun j hj => ?_, by simpa using HS.out, ?_⟩
        · rw [Ring.set_get _ _ _ _ (by have := HL.out; omega)]
          by_cases e : j = k
          · subst e; rw [if_pos rfl, HX.out]
          · rw [if_neg e]; exact HE.out j (by omega)
        · refine ⟨hTr.os, hTr.tape, hTr.output, by simpa using hTr.size, fun i hi hs => ?_⟩
          rw [heap_set_other _ _ (by omega)]
          exact hTr.block i hi hs
      case measure => simp [intOf]; omega
    · clear hlen heq hsz
      go_wp2
      go_ret
      refine ⟨rfl, ?_, HS.out, hTr⟩
      have : mm = zs.take len := by
        refine Ring.ext_get (by rw [HL.out]; simp; omega) (fun j hj => ?_)
        have hj' : j < len := by have := HL.out; omega
        rw [HE.out j (by omega)]
        simp [List.getD_eq_getElem?_getD, hj']
      rw [← this]
      exact hM

theorem new_calls (w : World) (bb L : Nat) (z p u l t y : Int) :
    Calls Try.prog 11 #[.slice (some ⟨bb, 0, none⟩) L L, .int .i64 z, .int .i64 p, .int .i64 u, .int .i64 l, .int .i64 t, .int .i64 y] w fun e w' => e = .returned (.pointer (some ⟨w.heap.size, 0, none⟩)) ∧
    IsWin w' w.heap.size bb L z p u l t y ∧ w'.heap.size = w.heap.size + 1 ∧ Turn (fun _ => False) w w' := by
  go_enter Try.func11, Try.ntmps11
  go_wp2
  go_ret
  exact ⟨rfl, heap_alloc_at _ _, by simp, (Turn.refl _ w).alloc _⟩

set_option maxHeartbeats 400000 in
theorem state_calls (w : World) (b bb L : Nat) (z p u l t y : Int) (H : IsWin w b bb L z p u l t y) :
    Calls Try.prog 14 #[.pointer (some ⟨b, 0, none⟩)] w fun e w' => e = .returned (.tuple #[.slice (some ⟨bb, 0, none⟩) L L, .int .i64 z, .int .i64 p, .int .i64 u, .int .i64 l, .int .i64 t, .int .i64 y]) ∧ ∃ n, w' = w.drewN n := by
  have c0 := H.buf
  have c1 := H.csize
  have c2 := H.cpos
  have c3 := H.cunread
  have c4 := H.clent
  have c5 := H.ctotal
  have c6 := H.chas
  go_enter Try.func14, Try.ntmps14
  go_wp2
  go_quiet (fail)
  go_wp2
  refine bodyPost_ret (v := .tuple #[.slice (some ⟨bb, 0, none⟩) L L, .int .i64 z, .int .i64 p, .int .i64 u, .int .i64 l, .int .i64 t, .int .i64 y]) (by simp [results, Try.results14, go_sem]) rfl ⟨rfl, _, rfl⟩

set_option maxHeartbeats 400000 in
theorem same_zero (a1 a2 : Option Addr) (c1 c2 : Nat) (w : World) : Calls Try.prog 15 #[.slice a1 0 c1, .slice a2 0 c2] w fun e w' => e = .returned (.bool true) ∧ ∃ n, w' = w.drewN n := by
  go_enter Try.func15, Try.ntmps15
  go_wp2
  go_loopw [5] (fun i wr => i = .int .i64 0 ∧ wr = w) (fun _ _ => 0)
  case atStart => exact ⟨rfl, rfl⟩
  case round =>
    obtain ⟨rfl, rfl⟩ := hrel
    go_wp2
    go_ret
    exact ⟨rfl, 0, rfl⟩

set_option maxHeartbeats 400000 in
theorem same_any (b1 o1 b2 o2 len k1 k2 : Nat) (g : Nat → Int) (w : World) (hl : len ≤ 1048576) (h1 : ∀ i, i < len → w.cell? ⟨b1, o1 + i, none⟩ = some (.int .u8 (g i))) (h2 : ∀ i, i < len → w.cell? ⟨b2, o2 + i, none⟩ = some (.int .u8 (g i))) :
    Calls Try.prog 15 #[.slice (some ⟨b1, o1, none⟩) len k1, .slice (some ⟨b2, o2, none⟩) len k2] w fun e w' => e = .returned (.bool true) ∧ ∃ n, w' = w.drewN n := by
  have H1 : Hid (∀ i, i < len → w.cell? ⟨b1, o1 + i, none⟩ = some (.int .u8 (g i))) := h1
  have H2 : Hid (∀ i, i < len → w.cell? ⟨b2, o2 + i, none⟩ = some (.int .u8 (g i))) := h2
  clear h1 h2
  go_enter Try.func15, Try.ntmps15
  go_wp2
  go_loopw [5] (fun i wr => ∃ k n : Nat, k ≤ len ∧ i = .int .i64 k ∧ wr = w.drewN n) (fun i _ => len - (intOf i).toNat)
  case atStart => exact ⟨0, 0, Nat.zero_le _, rfl, rfl⟩
  case round =>
    obtain ⟨k, n, hk, rfl, rfl⟩ := hrel
    by_cases hlt : k < len
    · have e1 := H1.out k hlt
      have e2 := H2.out k hlt
      obtain ⟨x, hx⟩ : ∃ x, x = g k := ⟨_, rfl⟩
      rw [← hx] at e1 e2
      clear hx
      go_wp2
      go_quiet (fail)
      go_wp2
      go_roundw
      case rel => exact ⟨k + 1, _, by omega, by go_num, rfl⟩
      case measure => simp [intOf]; omega
    · go_wp2
      go_ret
      exact ⟨rfl, _, rfl⟩

set_option maxHeartbeats 1000000 in
set_option maxRecDepth 100000 in
theorem fields_calls (w : World) (b bb L : Nat) (z p u l t y u0 t0 y0 k : Int) (H : IsWin w b bb L z p u l t y) (hu : u = wrap64 (u0 + k)) (ht : t = wrap64 (t0 + k)) (hy : y = min (wrap64 (y0 + k)) z) :
    Calls Try.prog 16 #[.pointer (some ⟨b, 0, none⟩), .int .i64 z, .int .i64 p, .int .i64 u0, .int .i64 l, .int .i64 t0, .int .i64 y0, .int .i64 k] w fun e w' => e = .returned (.bool true) ∧ ∃ n, w' = w.drewN n := by
  subst hu; subst ht; subst hy
  go_enter Try.func16, Try.ntmps16
  go_wp2_with fail
  refine (state_calls _ b bb L _ _ _ _ _ _ H).mono ?_
  rintro e w' ⟨rfl, n, rfl⟩
  by_cases hc : z < wrap64 (y0 + k)
  · have e : min (wrap64 (y0 + k)) z = z := by omega
    rw [e]
    clear e
    go_wp2
    go_ret
    exact ⟨rfl, _, rfl⟩
  · have e : min (wrap64 (y0 + k)) z = wrap64 (y0 + k) := by omega
    rw [e]
    clear e
    go_wp2
    go_ret
    exact ⟨rfl, _, rfl⟩

end Go.Proofs.Qxb6602383a
