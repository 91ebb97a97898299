/-
  Free, Write.
-/
import Derived.Test.Qxb6602383aRepeat
import Derived.Deep.RegionLaw
set_option linter.unusedVariables false
namespace Go.Proofs.Qxb6602383a
open Go.RowKit

theorem ret_slice {a : Option Addr} {n n' c : Nat} (h : n = n') : Ending.returned (.slice a n c) = .returned (.slice a n' c) := by rw [h]

set_option maxHeartbeats 1000000 in
theorem free_calls (w : World) (b bb L : Nat) (z : Int) (p : Nat) (u l t y : Int) (k : Nat) (H : IsWin w b bb L z p u l t y) (hL : L ≤ 1048576) (hp : p < L) (hu0 : 0 ≤ u) (hu1 : u ≤ L) (hk : (k : Int) = min ((L : Int) - p) (L - u)) :
    Calls Try.prog 36 #[.pointer (some ⟨b, 0, none⟩)] w fun e w' => e = .returned (.slice (some ⟨bb, p, none⟩) k (L - p)) ∧ ∃ n, w' = w.drewN n := by
  have c0 := H.buf
  have c2 := H.cpos
  obtain ⟨v, hv⟩ : ∃ v : Nat, u = v := ⟨u.toNat, by omega⟩
  subst hv
  have HK : Hid ((k : Int) = min ((L : Int) - p) (L - v)) := hk
  clear hk
  go_enter Try.func36, Try.ntmps36
  go_wp2
  go_quiet ((go_at_call 12; exact Calls.quiet_of (room_calls _ b bb L z p v l t y (H.drewN _) hL hu0 hu1)))
  go_wp2
  all_goals (go_ret; exact ⟨ret_slice (by have := HK.out; omega), _, rfl⟩)

/-- A call of a Go function by its contract, as one step of a region that draws. -/
theorem step_call {ops : Array Oper} {o : Oper} {a : Act} {w : World} {K : Act → World → Prop} {Q : Exit → Act → World → Prop} {E : Prop} (hg : o.guard = none) (f : FuncId) (xs : Array Operand) (ats : Array TypeId)
    (ho : o.op = .call { callee := .value (.func f), args := xs, argTypes := ats }) (vs : Array Value) (hvs : #[] ++ xs.map a.eval ++ #[] = vs) (hf : (callFunc f vs).run Try.prog w = .ok (.enter f vs) w)
    (R : Ending → World → Prop) (h : Calls Try.prog f vs w R) (hK : ∀ e w', R e w' → ∃ v, e = .returned v ∧ K (a.put o.dst v) w') :
    if Region.wanted o (yielded ops a.tmps) = true then Oper.wp Try.prog o a w K Q else E := by
  have hw : Region.wanted o (yielded ops a.tmps) = true := by simp [Region.wanted, hg]
  rw [if_pos hw]
  obtain ⟨dst, op, ty, pos, after, guard⟩ := o
  subst ho
  unfold Oper.wp
  rw [execOp_call_go, hvs, hf]
  refine h.mono fun e w' he => ?_
  obtain ⟨v, rfl, hk⟩ := hK e w' he
  exact hk

/-- 'copy' between two rows of bytes, as one step of a region that draws. -/
theorem step_copy_bytes {P : Program} {ops : Array Oper} {o : Oper} {a : Act} {w : World} {K : Act → World → Prop} {Q : Exit → Act → World → Prop} {E : Prop} (hgd : o.guard = none) (d s : Operand) (dT sT : TypeId)
    (ho : o.op = .call { callee := .builtin .copy, args := #[d, s], argTypes := #[dT, sT] }) (elem : TypeId) (hu : P.underlying dT = some (.slice elem)) (hsz : (P.info? elem).map (·.size) = some 1)
    (bd bs dp sp dLen dCap sLen sCap : Nat) (hd : a.eval d = .slice (some ⟨bd, dp, none⟩) dLen dCap) (hs : a.eval s = .slice (some ⟨bs, sp, none⟩) sLen sCap)
    (m ms : List Int) (hm : IsBytes w bd m) (hms : IsBytes w bs ms) (k : Nat) (hk : k = Nat.min sLen dLen) (hfd : dp + k ≤ m.length) (hfs : sp + k ≤ ms.length)
    (h : ∀ w', IsBytes w' bd (Ring.over m dp ((ms.drop sp).take k)) → Turn (fun j => j = bd) w w' → K (a.put o.dst (goInt k)) w') :
    if Region.wanted o (yielded ops a.tmps) = true then Oper.wp P o a w K Q else E := by
  have hw : Region.wanted o (yielded ops a.tmps) = true := by simp [Region.wanted, hgd]
  rw [if_pos hw]
  have hlen : (((ms.drop sp).take k).map (Value.int .u8)).length = k := by simp; omega
  have hrun := run_copy_row (P := P) w dT sT o.type elem bd dp dLen dCap ⟨bs, sp, none⟩ sLen sCap (m.map (Value.int .u8)).toArray 5 (((ms.drop sp).take k).map (Value.int .u8)) hu hsz hm (by rw [hlen, hk]) (fun j v hj => by
    have hjk : j < k := by
      have := (List.getElem?_eq_some_iff.1 hj).1
      omega
    have e1 : Addr.add ⟨bs, sp, none⟩ j = ⟨bs, sp + j, none⟩ := by simp [Addr.add]
    rw [e1, hms.cell (sp + j) (by omega)]
    simp only [List.getElem?_map, List.getElem?_take, List.getElem?_drop] at hj
    rw [if_pos hjk] at hj
    rw [← hj]
    simp [List.getD_eq_getElem?_getD, show sp + j < ms.length by omega]) (by rw [hlen]; simp; omega) (fun v hv => by
    simp only [List.mem_map] at hv
    obtain ⟨x, _, rfl⟩ := hv
    rfl)
  rw [hlen] at hrun
  have e : (List.take dp (m.map (Value.int .u8)).toArray.toList ++ List.map (Value.int .u8) ((ms.drop sp).take k) ++ List.drop (dp + k) (m.map (Value.int .u8)).toArray.toList).toArray = ((Ring.over m dp ((ms.drop sp).take k)).map (Value.int .u8)).toArray := by
    have hl : ((ms.drop sp).take k).length = k := by simpa using hlen
    simp [Ring.over, hl, List.map_take, List.map_drop]
  rw [e] at hrun
  unfold Oper.wp
  simp [execOp, ho, resolve, invoke, builtin, hd, hs, hrun, Result.andThen]
  exact h _ (hm.setRow _) ((Turn.refl (fun j => j = bd) w).setRow rfl _)

end Go.Proofs.Qxb6602383a
