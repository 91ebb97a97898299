/-
  copyWide: sixteen bytes at once.
-/
import Derived.Test.Qxb6602383aMem2
import Derived.Deep.MidRow
import Derived.Laws.Cover3
import Derived.Outline
set_option linter.unusedVariables false
namespace Go.Proofs.Qxb6602383a
open Go.RowKit

theorem follows' : Try.prog.follows .mixedOrders = true := by kernel_rfl
theorem info61 : (Try.prog.info? 61).map (·.size) = some 16 := by kernel_rfl

theorem IsBytes.range {w : World} {b : Nat} {m : List Int} (h : IsBytes w b m) (o k : Nat) (hk : o + k ≤ m.length) : w.rangeAt b o (((m.drop o).take k).map (Value.int .u8)) := by
  intro j v hj
  have hjk : j < k := by
    have := (List.getElem?_eq_some_iff.1 hj).1
    simp at this
    omega
  rw [h.cell (o + j) (by omega)]
  simp only [List.getElem?_map, List.getElem?_take, List.getElem?_drop] at hj
  rw [if_pos hjk] at hj
  rw [← hj]
  simp [List.getD_eq_getElem?_getD, show o + j < m.length by omega]

/-- A whole array of bytes read in the quiet part of a region. -/
theorem quiet_load_bytes {C : World → Prop} {K : Act → Prop} {a : Act} {o : Oper} (x : Operand) (ho : o.op = .load 61 x) (b p : Nat) (hx : a.eval x = .pointer (some ⟨b, p, none⟩)) (m : List Int)
    (hC : ∀ w, C w → IsBytes w b m) (hp : p + 16 ≤ m.length) (hK : K (a.put o.dst (.agg (((m.drop p).take 16).map (Value.int .u8)).toArray))) : o.quiet Try.prog a C K := by
  refine ⟨_, fun w hw => ?_, hK⟩
  have hlen : (((m.drop p).take 16).map (Value.int .u8)).length = 16 := by simp; omega
  have hrun := run_loadAt_mid (P := Try.prog) w b p 61 (((m.drop p).take 16).map (Value.int .u8)) _ ((hC w hw).range p 16 hp) Try.underlying61 rfl (by rw [info61, hlen])
  unfold Oper.quietAt execOp
  simp only [ho, hx, hrun, Sem.run_bind, Sem.run_pure, Result.andThen_ok]
  exact ⟨rfl, rfl⟩

/-- A whole array of bytes stored. -/
theorem wpList_store_bytes {w : World} {ops : Array Oper} {rest : List Oper} {o : Oper} {a : Act} {Q : Exit → Act → World → Prop} (hgd : o.guard = none) (x y : Operand) (ho : o.op = .store 61 x y)
    (b p : Nat) (cs : List Int) (hx : a.eval x = .pointer (some ⟨b, p, none⟩)) (hy : a.eval y = .agg (cs.map (Value.int .u8)).toArray) (hcs : cs.length = 16) (m : List Int) (hm : IsBytes w b m) (hp : p + 16 ≤ m.length)
    (h : ∀ w', IsBytes w' b (Ring.over m p cs) → Turn (fun j => j = b) w w' → wpList Try.prog ops Q rest (a.put o.dst undef) w') : wpList Try.prog ops Q (o :: rest) a w := by
  refine wpList_plain hgd fun K hK => ?_
  have hst := run_storeCells_at Try.prog b p 5 (cs.map (Value.int .u8)) 0 _ w hm (by simp; omega) (fun v hv => by
    simp only [List.mem_map] at hv
    obtain ⟨x, _, rfl⟩ := hv
    rfl)
  obtain ⟨i, hi, hz⟩ := Option.map_eq_some_iff.1 info61
  have e : ((m.map (Value.int .u8)).toArray.toList.take (p + 0) ++ cs.map (Value.int .u8) ++ (m.map (Value.int .u8)).toArray.toList.drop (p + 0 + (cs.map (Value.int .u8)).length)).toArray = ((Ring.over m p cs).map (Value.int .u8)).toArray := by
    simp [Ring.over, List.map_take, List.map_drop]
  rw [e] at hst
  have hs : (storeVar 61 ⟨b, p, none⟩ (.agg (cs.map (Value.int .u8)).toArray)).run Try.prog w = .ok () (w.setRow b ((Ring.over m p cs).map (Value.int .u8)).toArray) := by
    simp [storeVar, sizeOf, typeInfo, hi, hz, Value.cells, hcs, hst]
  unfold Oper.wp execOp
  simp only [ho, hx, hy, Instr.storeAt, Instr.sureAddr, Sem.run_bind, Sem.run_pure, Result.andThen_ok, hs]
  exact hK _ _ (h _ (hm.setRow _) ((Turn.refl (fun j => j = b) w).setRow rfl _))

set_option maxHeartbeats 1000000 in
theorem copyWide_calls (w : World) (bd dl dc bs so sl sc d s : Nat) (m ms : List Int) (hm : IsBytes w bd m) (hms : IsBytes w bs ms)
    (h1 : d + 16 ≤ dc) (h2 : d + 16 ≤ m.length) (h3 : s + 16 ≤ sc) (h4 : so + s + 16 ≤ ms.length) (h5 : dc ≤ 1048576) (h6 : sc ≤ 1048576) (h7 : d + 16 ≤ dl) (h8 : s + 16 ≤ sl) :
    Calls Try.prog 37 #[.slice (some ⟨bd, 0, none⟩) dl dc, .int .i64 d, .slice (some ⟨bs, so, none⟩) sl sc, .int .i64 s] w fun e w' => e = .returned (.tuple #[]) ∧
      IsBytes w' bd (Ring.over m d ((ms.drop (so + s)).take 16)) ∧ Turn (fun j => j = bd) w w' := by
  have hat : ∀ (a : Option Addr) (cap : Nat) (w : World), (Instr.arrayAt 61 (.slice a 16 cap)).run Try.prog w = .ok (.pointer a) w := fun a cap w => run_arrayAt w 61 5 16 a 16 cap Try.underlying61 (Nat.le_refl _)
  go_enter Try.func37, Try.ntmps37
  refine region_tail 15 follows' (by kernel_rfl) _ _ (by simp only [List.take_succ_cons, List.take_zero]; rfl) (by simp only [List.drop_succ_cons, List.drop_zero]; rfl) (fun KK hKK => ?_)
  iterate 13 (go_big_quiet_step (fail))
  go_big_quiet_want
  refine quiet_load_bytes (.tmp 20) rfl bs (so + s) rfl ms (fun w' hw' => by rw [hw']; exact hms.drew) (by omega) ?_
  simp only [Act.put, List.setIfInBounds_toArray, List.set_cons_succ, List.set_cons_zero]
  go_big_quiet_on
  go_big_quiet_step (fail)
  refine wpQuiet_nil (hKK.out _ ?_)
  clear hKK KK
  refine wpList_store_bytes rfl (.tmp 22) (.tmp 21) rfl bd d ((ms.drop (so + s)).take 16) rfl rfl (by simp; omega) m hm.drew (by omega) (fun w' hB hT => ?_)
  go_wp2
  go_end0
  exact ⟨rfl, hB, ((Turn.refl _ w).drew).trans hT⟩

end Go.Proofs.Qxb6602383a
