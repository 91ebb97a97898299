/-
  SEQUENCES IN MEMORY: cloneSeqs, toSequences.
-/
import Derived.Test.Qxb6602383aMem2
import Derived.Test.Qxb6602383aPlain2
import Derived.Lib.SliceRun
import Derived.Outline
set_option linter.unusedVariables false
namespace Go.Proofs.Qxb6602383a
open Go.RowKit

/-- The sequences S lie in block b from off on. -/
def SeqAt (w : World) (b off : Nat) (S : List Sq) : Prop :=
  ∀ i s, S[i]? = some s → w.cell? ⟨b, off + i * 3, none⟩ = some (.int .u32 s.n) ∧ w.cell? ⟨b, off + i * 3 + 1, none⟩ = some (.int .u32 s.o) ∧ w.cell? ⟨b, off + i * 3 + 2, none⟩ = some (.int .u32 s.l)

theorem SeqAt.turn {w w' : World} {b off : Nat} {S : List Sq} {X : Nat → Prop} (h : SeqAt w b off S) (T : Turn X w w') (hb : b < w.heap.size) (hx : ¬ X b) : SeqAt w' b off S := by
  intro i s hi
  rw [T.cell hb hx, T.cell hb hx, T.cell hb hx]
  exact h i s hi

theorem SeqAt.drewN {w : World} {b off : Nat} {S : List Sq} (h : SeqAt w b off S) (n : Nat) : SeqAt (w.drewN n) b off S := h
theorem SeqAt.drop {w : World} {b off : Nat} {S : List Sq} (h : SeqAt w b off S) (k : Nat) : SeqAt w b (off + k * 3) (S.drop k) := by
  intro i s hi
  rw [List.getElem?_drop] at hi
  have := h (k + i) s hi
  rw [show off + k * 3 + i * 3 = off + (k + i) * 3 by omega]
  exact this

/-- A row of cells, known whole. -/
def IsCells (w : World) (b : Nat) (t : TypeId) (cs : List Value) : Prop := w.heap[b]? = some (.cells cs.toArray t (0, 0))
theorem IsCells.cell {w : World} {b : Nat} {t : TypeId} {cs : List Value} (h : IsCells w b t cs) (o : Nat) : w.cell? ⟨b, o, none⟩ = cs[o]? := by
  rw [cell_of h]; simp
theorem IsCells.thaw {w : World} {b : Nat} {t : TypeId} {cs : List Value} (h : IsCells w b t cs) (o : Nat) : w.frozen? ⟨b, o, none⟩ = false := frozen_of h o
theorem IsCells.set {w : World} {b : Nat} {t : TypeId} {cs : List Value} (h : IsCells w b t cs) (o : Nat) (v : Value) : IsCells (w.setCell ⟨b, o, none⟩ v) b t (cs.set o v) := by
  unfold IsCells
  rw [heap_set h]
  simp

theorem info51 : (Try.prog.info? 51).map (fun i => (i.zero, i.size, i.bytes)) = some (some (.agg #[.int .u32 0, .int .u32 0, .int .u32 0]), 3, 12) := by kernel_rfl
theorem info58 : (Try.prog.info? 58).map (fun i => (i.zero, i.size, i.bytes)) = some (some (.agg #[.int .u32 0, .int .u32 0, .int .u32 0]), 3, 12) := by kernel_rfl

/-- 'make([]Seq, n)', of whichever of the two types. -/
theorem wpList_make_seqs {w : World} {ops : Array Oper} {rest : List Oper} {o : Oper} {a : Act} {Q : Exit → Act → World → Prop} (t e : TypeId) (ht : Try.prog.underlying t = some (.slice e))
    (he : (Try.prog.info? e).map (fun i => (i.zero, i.size, i.bytes)) = some (some (.agg #[.int .u32 0, .int .u32 0, .int .u32 0]), 3, 12))
    (hg : o.guard = none) (l c : Operand) (hop : o.op = Op.makeSlice t l c)
    (kl kc : IntKind) (n : Nat) (hl : a.eval l = .int kl n) (hc : a.eval c = .int kc n) (b2 : n ≤ 1048576)
    (hK : ∀ w' cs, IsCells w' w.heap.size e cs → cs.length = n * 3 → w'.heap.size = w.heap.size + 1 → Turn (fun _ => False) w w' → wpList Try.prog ops Q rest (a.put o.dst (.slice (some ⟨w.heap.size, 0, none⟩) n n)) w') :
    wpList Try.prog ops Q (o :: rest) a w := by
  refine wpList_plain hg fun K hK' => ?_
  obtain ⟨i, hi, hz0, hz1, hz2⟩ := info_parts he
  have hrun := run_make (P := Try.prog) w t e i _ ht hi hz0 kl kc n n (by omega) (by omega) (by rw [hz2]; omega) (by omega)
  unfold Oper.wp
  simp only [Int.toNat_natCast, hz1] at hrun
  simp [execOp, hop, hl, hc, hrun, Result.andThen]
  refine hK' _ _ (hK _ (madeCells (Value.agg #[.int .u32 0, .int .u32 0, .int .u32 0]).cells (n * 3)).toList ?_ (by simp [size_madeCells]) (by simp) ((Turn.refl _ w).alloc _))
  unfold IsCells
  rw [heap_alloc_at]

/-- One more sequence is laid. -/
theorem seqs_step {wr : World} {B : Nat} {t : TypeId} {cs : List Value} {len k : Nat} {S : List Sq} {s : Sq} (hM : IsCells wr B t cs) (hlen : cs.length = len * 3) (heq : SeqAt wr B 0 (S.take k)) (hs : S[k]? = some s) (hk : k < len) :
    ∃ cs', IsCells (((wr.setCell ⟨B, k * 3, none⟩ (.int .u32 s.n)).setCell ⟨B, k * 3 + 1, none⟩ (.int .u32 s.o)).setCell ⟨B, k * 3 + 2, none⟩ (.int .u32 s.l)) B t cs' ∧ cs'.length = len * 3 ∧
      SeqAt (((wr.setCell ⟨B, k * 3, none⟩ (.int .u32 s.n)).setCell ⟨B, k * 3 + 1, none⟩ (.int .u32 s.o)).setCell ⟨B, k * 3 + 2, none⟩ (.int .u32 s.l)) B 0 (S.take (k + 1)) := by
  have h3 := ((hM.set (k * 3) (.int .u32 s.n)).set (k * 3 + 1) (.int .u32 s.o)).set (k * 3 + 2) (.int .u32 s.l)
  refine ⟨_, h3, by simpa using hlen, ?_⟩
  intro i x hi
  have hik : i < k + 1 := by
    have := (List.getElem?_eq_some_iff.1 hi).1
    simp at this
    omega
  rw [List.getElem?_take, if_pos hik] at hi
  rw [h3.cell, h3.cell, h3.cell]
  by_cases e : i = k
  · subst e
    rw [hs] at hi
    cases hi
    simp only [List.getElem?_set, List.length_set, Nat.zero_add]
    refine ⟨?_, ?_, ?_⟩
    · rw [if_neg (by omega), if_neg (by omega), if_pos trivial, if_pos (by omega)]
    · rw [if_neg (by omega), if_pos trivial, if_pos (by omega)]
    · rw [if_pos trivial, if_pos (by omega)]
  · have := heq i x (by rw [List.getElem?_take, if_pos (by omega)]; exact hi)
    rw [hM.cell, hM.cell, hM.cell] at this
    simp only [List.getElem?_set, List.length_set, Nat.zero_add] at this ⊢
    obtain ⟨a1, a2, a3⟩ := this
    refine ⟨?_, ?_, ?_⟩
    · rw [if_neg (by omega), if_neg (by omega), if_neg (by omega)]; exact a1
    · rw [if_neg (by omega), if_neg (by omega), if_neg (by omega)]; exact a2
    · rw [if_neg (by omega), if_neg (by omega), if_neg (by omega)]; exact a3

theorem turn_three {w wr : World} {B : Nat} (hB : w.heap.size ≤ B) (T : Turn (fun _ => False) w wr) (o1 o2 o3 : Nat) (a1 a2 a3 : Value) :
    Turn (fun _ => False) w (((wr.setCell ⟨B, o1, none⟩ a1).setCell ⟨B, o2, none⟩ a2).setCell ⟨B, o3, none⟩ a3) := by
  refine ⟨T.os, T.tape, T.output, by simpa using T.size, fun i hi hs => ?_⟩
  rw [heap_set_other _ _ (by omega), heap_set_other _ _ (by omega), heap_set_other _ _ (by omega)]
  exact T.block i hi hs

theorem cloneSeqs_nil (w : World) : Calls Try.prog 22 #[.slice none 0 0] w fun e w' => e = .returned (.slice none 0 0) ∧ w = w' := by
  have q35 : ∀ (w : World) (a : Option Addr) (n c n' c' : Nat), (binOp .eql 35 (.slice a n c) (.slice none n' c')).run Try.prog w = .ok (.bool a.isNone) w := fun w a n c n' c' => Lib.run_eql_slice_nil w _ _ a n c n' c' Try.underlying35
  go_enter Try.func22, Try.ntmps22
  go_wp2
  go_ret
  exact ⟨rfl, rfl⟩

set_option maxHeartbeats 1000000 in
theorem cloneSeqs_any (b off len cap : Nat) (S : List Sq) (w : World) (hb : b < w.heap.size) (hS : S.length = len) (hl : len ≤ 1048576) (hc : SeqAt w b off S) :
    Calls Try.prog 22 #[.slice (some ⟨b, off, none⟩) len cap] w fun e w' => e = .returned (.slice (some ⟨w.heap.size, 0, none⟩) len len) ∧
    SeqAt w' w.heap.size 0 S ∧ w'.heap.size = w.heap.size + 1 ∧ Turn (fun _ => False) w w' := by
  have q35 : ∀ (w : World) (a : Option Addr) (n c n' c' : Nat), (binOp .eql 35 (.slice a n c) (.slice none n' c')).run Try.prog w = .ok (.bool a.isNone) w := fun w a n c n' c' => Lib.run_eql_slice_nil w _ _ a n c n' c' Try.underlying35
  have HSL : Hid (S.length = len) := hS
  clear hS
  go_enter Try.func22, Try.ntmps22
  go_wp2_with (at_make; refine wpList_make_seqs 35 51 Try.underlying35 info51 rfl (.tmp 8) (.tmp 8) rfl .i64 .i64 len rfl rfl (by omega) ?_; intro w1 cs1 hB hcs hs hT)
  go_loopw [4] (fun i wr => ∃ (k : Nat) (cs : List Value), k ≤ len ∧ i = .int .i64 k ∧ IsCells wr w.heap.size 51 cs ∧ cs.length = len * 3 ∧ SeqAt wr w.heap.size 0 (S.take k) ∧ wr.heap.size = w.heap.size + 1 ∧ Turn (fun _ => False) w wr) (fun i _ => len - (intOf i).toNat)
  case atStart => exact ⟨0, cs1, Nat.zero_le _, rfl, hB, hcs, fun i s hi => by simp at hi, hs, hT⟩
  case round =>
    obtain ⟨k, cs, hk, rfl, hM, hlen, heq, hsz, hTr⟩ := hrel
    have HL : Hid (cs.length = len * 3) := hlen
    have HS : Hid (wr.heap.size = w.heap.size + 1) := hsz
    by_cases hlt : k < len
    · obtain ⟨s, hs'⟩ : ∃ s, S[k]? = some s := ⟨_, List.getElem?_eq_getElem (by have := HSL.out; omega)⟩
      obtain ⟨e0, e1, e2⟩ := (hc.turn hTr hb (fun h => h)) k s hs'
      obtain ⟨v0, f0⟩ : ∃ v, wr.cell? ⟨w.heap.size, k * 3, none⟩ = some v := ⟨_, by rw [hM.cell]; exact List.getElem?_eq_getElem (by omega)⟩
      obtain ⟨v1, f1⟩ : ∃ v, wr.cell? ⟨w.heap.size, k * 3 + 1, none⟩ = some v := ⟨_, by rw [hM.cell]; exact List.getElem?_eq_getElem (by omega)⟩
      obtain ⟨v2, f2⟩ : ∃ v, wr.cell? ⟨w.heap.size, k * 3 + 2, none⟩ = some v := ⟨_, by rw [hM.cell]; exact List.getElem?_eq_getElem (by omega)⟩
      have g0 := hM.thaw
      have HSK : Hid (S[k]? = some s) := hs'
      clear hs' hlen hsz
      go_wp2
      go_roundw
      case rel =>
        obtain ⟨cs', r1, r2, r3⟩ := seqs_step hM HL.out heq HSK.out hlt
        exact ⟨k + 1, cs', by omega, by go_num, r1, r2, r3, by simpa using HS.out, turn_three (Nat.le_refl _) hTr _ _ _ _ _ _⟩
      case measure => simp [intOf]; omega
    · clear hlen hsz
      go_wp2
      go_ret
      refine ⟨rfl, ?_, HS.out, hTr⟩
      rw [List.take_of_length_le (by have := HSL.out; omega)] at heq
      exact heq

set_option maxHeartbeats 1000000 in
theorem cloneSeqs_zero (x : Addr) (c : Nat) (w : World) : Calls Try.prog 22 #[.slice (some x) 0 c] w fun e w' => e = .returned (.slice (some ⟨w.heap.size, 0, none⟩) 0 0) ∧
    w'.heap.size = w.heap.size + 1 ∧ Turn (fun _ => False) w w' := by
  have q35 : ∀ (w : World) (a : Option Addr) (n c n' c' : Nat), (binOp .eql 35 (.slice a n c) (.slice none n' c')).run Try.prog w = .ok (.bool a.isNone) w := fun w a n c n' c' => Lib.run_eql_slice_nil w _ _ a n c n' c' Try.underlying35
  go_enter Try.func22, Try.ntmps22
  go_wp2_with (at_make; refine wpList_make_seqs 35 51 Try.underlying35 info51 rfl (.tmp 8) (.tmp 8) rfl .i64 .i64 0 rfl rfl (by omega) ?_; intro w1 cs1 hB hcs hs hT)
  go_loopw [4] (fun i wr => i = .int .i64 0 ∧ wr = w1) (fun _ _ => 0)
  case atStart => exact ⟨rfl, rfl⟩
  case round =>
    obtain ⟨rfl, rfl⟩ := hrel
    go_wp2
    go_ret
    exact ⟨rfl, hs, hT⟩

set_option maxHeartbeats 1000000 in
theorem toSequences_any (b off len cap : Nat) (S : List Sq) (w : World) (hb : b < w.heap.size) (hS : S.length = len) (hl : len ≤ 1048576) (hc : SeqAt w b off S) :
    Calls Try.prog 24 #[.slice (some ⟨b, off, none⟩) len cap] w fun e w' => e = .returned (.slice (some ⟨w.heap.size, 0, none⟩) len len) ∧
    SeqAt w' w.heap.size 0 S ∧ w'.heap.size = w.heap.size + 1 ∧ Turn (fun _ => False) w w' := by
  have HSL : Hid (S.length = len) := hS
  clear hS
  go_enter Try.func24, Try.ntmps24
  go_wp2_with (at_make; refine wpList_make_seqs 42 58 Try.underlying42 info58 rfl (.tmp 6) (.tmp 6) rfl .i64 .i64 len rfl rfl (by omega) ?_; intro w1 cs1 hB hcs hs hT)
  go_loopw [4] (fun i wr => ∃ (k : Nat) (cs : List Value), k ≤ len ∧ i = .int .i64 k ∧ IsCells wr w.heap.size 58 cs ∧ cs.length = len * 3 ∧ SeqAt wr w.heap.size 0 (S.take k) ∧ wr.heap.size = w.heap.size + 1 ∧ Turn (fun _ => False) w wr) (fun i _ => len - (intOf i).toNat)
  case atStart => exact ⟨0, cs1, Nat.zero_le _, rfl, hB, hcs, fun i s hi => by simp at hi, hs, hT⟩
  case round =>
    obtain ⟨k, cs, hk, rfl, hM, hlen, heq, hsz, hTr⟩ := hrel
    have HL : Hid (cs.length = len * 3) := hlen
    have HS : Hid (wr.heap.size = w.heap.size + 1) := hsz
    by_cases hlt : k < len
    · obtain ⟨s, hs'⟩ : ∃ s, S[k]? = some s := ⟨_, List.getElem?_eq_getElem (by have := HSL.out; omega)⟩
      obtain ⟨e0, e1, e2⟩ := (hc.turn hTr hb (fun h => h)) k s hs'
      obtain ⟨v0, f0⟩ : ∃ v, wr.cell? ⟨w.heap.size, k * 3, none⟩ = some v := ⟨_, by rw [hM.cell]; exact List.getElem?_eq_getElem (by omega)⟩
      obtain ⟨v1, f1⟩ : ∃ v, wr.cell? ⟨w.heap.size, k * 3 + 1, none⟩ = some v := ⟨_, by rw [hM.cell]; exact List.getElem?_eq_getElem (by omega)⟩
      obtain ⟨v2, f2⟩ : ∃ v, wr.cell? ⟨w.heap.size, k * 3 + 2, none⟩ = some v := ⟨_, by rw [hM.cell]; exact List.getElem?_eq_getElem (by omega)⟩
      have g0 := hM.thaw
      have HSK : Hid (S[k]? = some s) := hs'
      clear hs' hlen hsz
      go_wp2
      go_roundw
      case rel =>
        obtain ⟨cs', r1, r2, r3⟩ := seqs_step hM HL.out heq HSK.out hlt
        exact ⟨k + 1, cs', by omega, by go_num, r1, r2, r3, by simpa using HS.out, turn_three (Nat.le_refl _) hTr _ _ _ _ _ _⟩
      case measure => simp [intOf]; omega
    · clear hlen hsz
      go_wp2
      go_ret
      refine ⟨rfl, ?_, HS.out, hTr⟩
      rw [List.take_of_length_le (by have := HSL.out; omega)] at heq
      exact heq

set_option maxHeartbeats 1000000 in
theorem toSequences_zero (x : Option Addr) (c : Nat) (w : World) : Calls Try.prog 24 #[.slice x 0 c] w fun e w' => e = .returned (.slice (some ⟨w.heap.size, 0, none⟩) 0 0) ∧
    w'.heap.size = w.heap.size + 1 ∧ Turn (fun _ => False) w w' := by
  go_enter Try.func24, Try.ntmps24
  go_wp2_with (at_make; refine wpList_make_seqs 42 58 Try.underlying42 info58 rfl (.tmp 6) (.tmp 6) rfl .i64 .i64 0 rfl rfl (by omega) ?_; intro w1 cs1 hB hcs hs hT)
  go_loopw [4] (fun i wr => i = .int .i64 0 ∧ wr = w1) (fun _ _ => 0)
  case atStart => exact ⟨rfl, rfl⟩
  case round =>
    obtain ⟨rfl, rfl⟩ := hrel
    go_wp2
    go_ret
    exact ⟨rfl, hs, hT⟩

end Go.Proofs.Qxb6602383a
