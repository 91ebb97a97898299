/-
  MEMORY, MORE: stores into a row of bytes, new rows.
-/
import Derived.Test.Qxb6602383aMem
set_option linter.unusedVariables false
namespace Go.Proofs.Qxb6602383a
open Go.RowKit

theorem IsBytes.set {w : World} {b : Nat} {m : List Int} (h : IsBytes w b m) (o : Nat) (x : Int) : IsBytes (w.setCell ⟨b, o, none⟩ (.int .u8 x)) b (m.set o x) := by
  unfold IsBytes
  rw [heap_set h]
  simp [List.map_set]
theorem Turn.cell {S : Nat → Prop} {w w' : World} (T : Turn S w w') {b : Nat} (hb : b < w.heap.size) (hs : ¬ S b) (o : Nat) : w'.cell? ⟨b, o, none⟩ = w.cell? ⟨b, o, none⟩ :=
  World.cell?_of_block (w := w) (a := ⟨b, o, none⟩) (T.block b hb hs)
theorem heap_alloc_at (w : World) (o : Obj) : (w.alloc o).heap[w.heap.size]? = some o := by show (w.heap.push o)[w.heap.size]? = some o; simp
theorem heap_alloc_old {w : World} {b : Nat} (o : Obj) (h : b < w.heap.size) : (w.alloc o).heap[b]? = w.heap[b]? := Below.heap_alloc w o b h

theorem infoB : (Try.prog.info? 5).map (fun i => (i.zero, i.size, i.bytes)) = some (some (.int .u8 0), 1, 1) := by kernel_rfl

theorem made_bytes (n : Nat) : madeCells (Value.int .u8 0).cells (n * 1) = ((List.replicate n (0 : Int)).map (Value.int .u8)).toArray := by
  apply Array.ext
  · simp [size_madeCells]
  · intro i h1 h2
    simp [madeCells, Value.cells, Nat.mod_one]

/-- 'make([]byte, n)'. -/
theorem wpList_make_bytes {w : World} {ops : Array Oper} {rest : List Oper} {o : Oper} {a : Act} {Q : Exit → Act → World → Prop}
    (hg : o.guard = none) (l c : Operand) (hop : o.op = Op.makeSlice 22 l c)
    (kl kc : IntKind) (n : Nat) (hl : a.eval l = .int kl n) (hc : a.eval c = .int kc n) (b2 : n ≤ 1048576)
    (hK : ∀ w', IsBytes w' w.heap.size (List.replicate n 0) → w'.heap.size = w.heap.size + 1 → Turn (fun _ => False) w w' → wpList Try.prog ops Q rest (a.put o.dst (.slice (some ⟨w.heap.size, 0, none⟩) n n)) w') :
    wpList Try.prog ops Q (o :: rest) a w := by
  refine wpList_plain hg fun K hK' => ?_
  obtain ⟨i, hi, hz0, hz1, hz2⟩ := info_parts infoB
  have hrun := run_make (P := Try.prog) w 22 5 i (.int .u8 0) Try.underlying22 hi hz0 kl kc n n (by omega) (by omega) (by rw [hz2]; omega) (by omega)
  unfold Oper.wp
  simp only [Int.toNat_natCast, hz1, made_bytes] at hrun
  simp [execOp, hop, hl, hc, hrun, Result.andThen]
  refine hK' _ _ (hK _ ?_ (by simp) ((Turn.refl _ w).alloc _))
  unfold IsBytes
  rw [heap_alloc_at]
  simp


end Go.Proofs.Qxb6602383a
