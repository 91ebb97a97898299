/-
  MEMORY: the block of a Window, a row of bytes, and what a call leaves as it was.
-/
import Derived.Test.Qxb6602383aProg
import Derived.Test.Qxb6602383aPlain
import Derived.WalkKit
import Derived.WalkLawsBesides
import Derived.Below
import Derived.StillTailTactics
import Derived.Deep.QuietTactic
import Derived.BigQuiet
import Derived.Laws.CopyOwn
set_option linter.unusedVariables false
namespace Go.Proofs.Qxb6602383a
open Go.RowKit

/-- The seven cells of a Window. -/
def winCells (bb L : Nat) (size pos unread lent total has : Int) : Array Value :=
  #[.slice (some ⟨bb, 0, none⟩) L L, .int .i64 size, .int .i64 pos, .int .i64 unread, .int .i64 lent, .int .i64 total, .int .i64 has]

/-- Block b is a Window over the whole of block bb. -/
def IsWin (w : World) (b bb L : Nat) (size pos unread lent total has : Int) : Prop :=
  w.heap[b]? = some (.cells (winCells bb L size pos unread lent total has) 55 (0, 0))

/-- Block b is a row of bytes. -/
def IsBytes (w : World) (b : Nat) (m : List Int) : Prop :=
  w.heap[b]? = some (.cells (m.map (Value.int .u8)).toArray 5 (0, 0))

/-- From w to w' nothing has turned but the blocks of S (and new ones). -/
structure Turn (S : Nat → Prop) (w w' : World) : Prop where
  os : w'.os = w.os
  tape : w'.tape = w.tape
  output : w'.output = w.output
  size : w.heap.size ≤ w'.heap.size
  block : ∀ k, k < w.heap.size → ¬ S k → w'.heap[k]? = w.heap[k]?

theorem Turn.refl (S : Nat → Prop) (w : World) : Turn S w w := ⟨rfl, rfl, rfl, Nat.le_refl _, fun _ _ _ => rfl⟩
theorem Turn.trans {S : Nat → Prop} {a b c : World} (h : Turn S a b) (k : Turn S b c) : Turn S a c :=
  ⟨k.os.trans h.os, k.tape.trans h.tape, k.output.trans h.output, Nat.le_trans h.size k.size, fun i hi hs => (k.block i (Nat.lt_of_lt_of_le hi h.size) hs).trans (h.block i hi hs)⟩
theorem Turn.mono {S T : Nat → Prop} {a b : World} (h : Turn S a b) (hs : ∀ k, S k → T k) : Turn T a b :=
  ⟨h.os, h.tape, h.output, h.size, fun i hi ht => h.block i hi (fun s => ht (hs i s))⟩
theorem Turn.drewN {S : Nat → Prop} {a b : World} (h : Turn S a b) (n : Nat) : Turn S a (b.drewN n) := ⟨h.os, h.tape, h.output, h.size, h.block⟩
theorem Turn.drew {S : Nat → Prop} {a b : World} (h : Turn S a b) : Turn S a b.drew := ⟨h.os, h.tape, h.output, h.size, h.block⟩
theorem Turn.setCell {S : Nat → Prop} {a b : World} (h : Turn S a b) {p : Addr} (hp : S p.block) (u : Value) : Turn S a (b.setCell p u) :=
  ⟨h.os, h.tape, h.output, by simpa using h.size, fun i hi hs => by rw [Below.heap_setCell _ _ _ _ (fun e => hs (by rw [e]; exact hp))]; exact h.block i hi hs⟩
theorem Turn.setRow {S : Nat → Prop} {a b : World} (h : Turn S a b) {g : Nat} (hp : S g) (cs : Array Value) : Turn S a (b.setRow g cs) :=
  ⟨h.os, h.tape, h.output, by simpa [World.setRow] using h.size, fun i hi hs => by rw [setRow_other _ _ _ _ (fun e => hs (by rw [e]; exact hp))]; exact h.block i hi hs⟩
theorem Turn.alloc {S : Nat → Prop} {a b : World} (h : Turn S a b) (o : Obj) : Turn S a (b.alloc o) :=
  ⟨h.os, h.tape, h.output, by have := h.size; simp; omega, fun i hi hs => by rw [Below.heap_alloc _ _ _ (Nat.lt_of_lt_of_le hi h.size)]; exact h.block i hi hs⟩
theorem Turn.below {S : Nat → Prop} {a b : World} (h : Turn S a b) {B : Nat} (hB : B ≤ a.heap.size) (hs : ∀ k, S k → B ≤ k) : Below B a b :=
  ⟨h.os, h.tape, h.output, h.size, fun k hk => h.block k (by omega) (fun s => by have := hs k s; omega)⟩

theorem cell_of {w : World} {b : Nat} {cs : Array Value} {t : TypeId} {fr : Nat × Nat} (h : w.heap[b]? = some (.cells cs t fr)) (o : Nat) : w.cell? ⟨b, o, none⟩ = cs[o]? := by
  simp [World.cell?, h]
theorem frozen_of {w : World} {b : Nat} {cs : Array Value} {t : TypeId} (h : w.heap[b]? = some (.cells cs t (0, 0))) (o : Nat) : w.frozen? ⟨b, o, none⟩ = false := by
  simp [World.frozen?, h]
theorem heap_set {w : World} {b : Nat} {cs : Array Value} {t : TypeId} {fr : Nat × Nat} (h : w.heap[b]? = some (.cells cs t fr)) (o : Nat) (v : Value) :
    (w.setCell ⟨b, o, none⟩ v).heap[b]? = some (.cells (cs.setIfInBounds o v) t fr) := by
  have hlt : b < w.heap.size := (Array.getElem?_eq_some_iff.1 h).1
  have hv : w.heap[b] = .cells cs t fr := (Array.getElem?_eq_some_iff.1 h).2
  unfold World.setCell
  rw [Array.getElem?_eq_getElem (by simpa using hlt), Array.getElem_modify]
  simp [hv]
theorem heap_set_other {w : World} {b c : Nat} (o : Nat) (v : Value) (h : c ≠ b) : (w.setCell ⟨b, o, none⟩ v).heap[c]? = w.heap[c]? := Below.heap_setCell _ _ _ _ h

theorem IsWin.buf {w : World} {b bb L : Nat} {z p u l t h : Int} (H : IsWin w b bb L z p u l t h) : w.cell? ⟨b, 0, none⟩ = some (.slice (some ⟨bb, 0, none⟩) L L) := by rw [cell_of H]; rfl
theorem IsWin.csize {w : World} {b bb L : Nat} {z p u l t h : Int} (H : IsWin w b bb L z p u l t h) : w.cell? ⟨b, 1, none⟩ = some (.int .i64 z) := by rw [cell_of H]; rfl
theorem IsWin.cpos {w : World} {b bb L : Nat} {z p u l t h : Int} (H : IsWin w b bb L z p u l t h) : w.cell? ⟨b, 2, none⟩ = some (.int .i64 p) := by rw [cell_of H]; rfl
theorem IsWin.cunread {w : World} {b bb L : Nat} {z p u l t h : Int} (H : IsWin w b bb L z p u l t h) : w.cell? ⟨b, 3, none⟩ = some (.int .i64 u) := by rw [cell_of H]; rfl
theorem IsWin.clent {w : World} {b bb L : Nat} {z p u l t h : Int} (H : IsWin w b bb L z p u l t h) : w.cell? ⟨b, 4, none⟩ = some (.int .i64 l) := by rw [cell_of H]; rfl
theorem IsWin.ctotal {w : World} {b bb L : Nat} {z p u l t h : Int} (H : IsWin w b bb L z p u l t h) : w.cell? ⟨b, 5, none⟩ = some (.int .i64 t) := by rw [cell_of H]; rfl
theorem IsWin.chas {w : World} {b bb L : Nat} {z p u l t h : Int} (H : IsWin w b bb L z p u l t h) : w.cell? ⟨b, 6, none⟩ = some (.int .i64 h) := by rw [cell_of H]; rfl
theorem IsWin.thaw {w : World} {b bb L : Nat} {z p u l t h : Int} (H : IsWin w b bb L z p u l t h) (o : Nat) : w.frozen? ⟨b, o, none⟩ = false := frozen_of H o
theorem IsWin.lt {w : World} {b bb L : Nat} {z p u l t h : Int} (H : IsWin w b bb L z p u l t h) : b < w.heap.size := (Array.getElem?_eq_some_iff.1 H).1
theorem IsWin.setPos {w : World} {b bb L : Nat} {z p u l t h : Int} (H : IsWin w b bb L z p u l t h) (x : Int) : IsWin (w.setCell ⟨b, 2, none⟩ (.int .i64 x)) b bb L z x u l t h := heap_set H 2 _
theorem IsWin.setUnread {w : World} {b bb L : Nat} {z p u l t h : Int} (H : IsWin w b bb L z p u l t h) (x : Int) : IsWin (w.setCell ⟨b, 3, none⟩ (.int .i64 x)) b bb L z p x l t h := heap_set H 3 _
theorem IsWin.setTotal {w : World} {b bb L : Nat} {z p u l t h : Int} (H : IsWin w b bb L z p u l t h) (x : Int) : IsWin (w.setCell ⟨b, 5, none⟩ (.int .i64 x)) b bb L z p u l x h := heap_set H 5 _
theorem IsWin.setHas {w : World} {b bb L : Nat} {z p u l t h : Int} (H : IsWin w b bb L z p u l t h) (x : Int) : IsWin (w.setCell ⟨b, 6, none⟩ (.int .i64 x)) b bb L z p u l t x := heap_set H 6 _
theorem IsWin.drewN {w : World} {b bb L : Nat} {z p u l t h : Int} (H : IsWin w b bb L z p u l t h) (n : Nat) : IsWin (w.drewN n) b bb L z p u l t h := H
theorem IsWin.drew {w : World} {b bb L : Nat} {z p u l t h : Int} (H : IsWin w b bb L z p u l t h) : IsWin w.drew b bb L z p u l t h := H
theorem IsBytes.drewN {w : World} {b : Nat} {m : List Int} (h : IsBytes w b m) (n : Nat) : IsBytes (w.drewN n) b m := h
theorem IsBytes.drew {w : World} {b : Nat} {m : List Int} (h : IsBytes w b m) : IsBytes w.drew b m := h
theorem IsWin.turn {w : World} {b bb L : Nat} {z p u l t h : Int} (H : IsWin w b bb L z p u l t h) {w' : World} {S : Nat → Prop} (T : Turn S w w') (hs : ¬ S b) : IsWin w' b bb L z p u l t h := (T.block b H.lt hs).trans H

theorem IsBytes.cell {w : World} {b : Nat} {m : List Int} (h : IsBytes w b m) (o : Nat) (ho : o < m.length) : w.cell? ⟨b, o, none⟩ = some (.int .u8 (m.getD o 0)) := by
  rw [cell_of h]; simp [ho, List.getD_eq_getElem?_getD]
theorem IsBytes.thaw {w : World} {b : Nat} {m : List Int} (h : IsBytes w b m) (o : Nat) : w.frozen? ⟨b, o, none⟩ = false := frozen_of h o
theorem IsBytes.lt {w : World} {b : Nat} {m : List Int} (h : IsBytes w b m) : b < w.heap.size := (Array.getElem?_eq_some_iff.1 h).1
theorem IsBytes.turn {w w' : World} {b : Nat} {m : List Int} {S : Nat → Prop} (h : IsBytes w b m) (T : Turn S w w') (hs : ¬ S b) : IsBytes w' b m := (T.block b h.lt hs).trans h


/-- The walk in one world, from the quiet walk over that one world. -/
theorem still_of_quiet {P : Program} {ops : Array Oper} {w : World} {Q : Act → Prop} (l : List Oper) (a : Act) (h : wpQuiet P ops (fun w' => w' = w) Q l a) : wpStill P ops w Q l a := by
  induction l generalizing a with
  | nil => exact h
  | cons o l ih =>
    simp only [wpQuiet, wpStill] at h ⊢
    split
    · rename_i hw
      rw [if_pos hw] at h
      obtain ⟨v, h1, h2⟩ := h
      have h3 := h1 w rfl
      unfold Oper.quietAt at h3
      unfold Oper.still
      generalize (execOp a.eval o).run P w = r at h3
      cases r with
      | ok n w' =>
        cases n <;> simp only [Oper.quietUpon] at h3 <;> simp only [Oper.stillUpon]
        case value u => obtain ⟨e1, e2⟩ := h3; exact ⟨e1, by rw [e2]; exact ih _ h2⟩
        case skip => obtain ⟨e1, e2⟩ := h3; exact ⟨e1, by rw [← e2]; exact ih _ h2⟩
        case enter f args => obtain ⟨e1, e2⟩ := h3; exact ⟨e1, v, e2, ih _ h2⟩
      | halt x w' => simp only [Oper.quietUpon] at h3
    · rename_i hw
      rw [if_neg hw] at h
      exact ih _ h

/-- A region that draws its order, all of whose operations but the last ones only read: the first n in the order of the text, then the tail. -/
theorem region_tail {P : Program} {id : Nat} {Q : Exit → Act → World → Prop} {a : Act} {w : World} {l : List Oper} (n : Nat) (hm : P.follows .mixedOrders = true) (hB : Region.lexTailB .any l.toArray n = true) (l1 l2 : List Oper) (h1 : l.take n = l1) (h2 : l.drop n = l2)
    (h : ∀ K : Act → Prop, Hid (∀ a', wpList P l.toArray Q l2 a' w.drew → K a') → wpQuiet P l.toArray (fun w' => w' = w.drew) K l1 a) : (Code.region id l.toArray true).wp P Q a w := by
  subst h1; subst h2
  exact wp_region_still_tail n hm hB (still_of_quiet _ _ (h _ (fun _ h => h)))


theorem IsBytes.setRow {w : World} {b : Nat} {m : List Int} (h : IsBytes w b m) (m' : List Int) : IsBytes (w.setRow b (m'.map (Value.int .u8)).toArray) b m' := setRow_heap w b _ _ 5 _ h

/-- 'copy' between two rows of bytes (or within one). -/
theorem wpList_copy_bytes {P : Program} {w : World} {ops : Array Oper} {rest : List Oper} {o : Oper} {a : Act} {Q : Exit → Act → World → Prop} (hgd : o.guard = none) (d s : Operand) (dT sT : TypeId)
    (ho : o.op = .call { callee := .builtin .copy, args := #[d, s], argTypes := #[dT, sT] }) (elem : TypeId) (hu : P.underlying dT = some (.slice elem)) (hsz : (P.info? elem).map (·.size) = some 1)
    (bd bs dp sp dLen dCap sLen sCap : Nat) (hd : a.eval d = .slice (some ⟨bd, dp, none⟩) dLen dCap) (hs : a.eval s = .slice (some ⟨bs, sp, none⟩) sLen sCap)
    (m ms : List Int) (hm : IsBytes w bd m) (hms : IsBytes w bs ms) (k : Nat) (hk : k = Nat.min sLen dLen) (hfd : dp + k ≤ m.length) (hfs : sp + k ≤ ms.length)
    (h : ∀ w', IsBytes w' bd (Ring.over m dp ((ms.drop sp).take k)) → Turn (fun j => j = bd) w w' → wpList P ops Q rest (a.put o.dst (goInt k)) w') :
    wpList P ops Q (o :: rest) a w := by
  have hlen : (((ms.drop sp).take k).map (Value.int .u8)).length = k := by simp; omega
  refine wpList_copy_own hgd d s dT sT ho elem hu hsz bd dp dLen dCap ⟨bs, sp, none⟩ sLen sCap hd hs (m.map (Value.int .u8)).toArray 5 hm (((ms.drop sp).take k).map (Value.int .u8)) (by rw [hlen, hk]) ?_ (by rw [hlen]; simp; omega) ?_ ?_
  · intro j v hj
    have hjk : j < k := by
      have := (List.getElem?_eq_some_iff.1 hj).1
      omega
    have e1 : Addr.add ⟨bs, sp, none⟩ j = ⟨bs, sp + j, none⟩ := by simp [Addr.add]
    rw [e1, hms.cell (sp + j) (by omega)]
    simp only [List.getElem?_map, List.getElem?_take, List.getElem?_drop] at hj
    rw [if_pos hjk] at hj
    rw [← hj]
    simp [List.getD_eq_getElem?_getD, show sp + j < ms.length by omega]
  · intro v hv
    simp only [List.mem_map] at hv
    obtain ⟨x, _, rfl⟩ := hv
    rfl
  · rw [hlen]
    have e : (List.take dp (m.map (Value.int .u8)).toArray.toList ++ (List.map (Value.int .u8) ((ms.drop sp).take k) ++ List.drop (dp + k) (m.map (Value.int .u8)).toArray.toList)).toArray = ((Ring.over m dp ((ms.drop sp).take k)).map (Value.int .u8)).toArray := by
      have hl : ((ms.drop sp).take k).length = k := by simpa using hlen
      simp [Ring.over, hl, List.map_take, List.map_drop]
    rw [e]
    exact h _ (hm.setRow _) ((Turn.refl (fun j => j = bd) w).setRow rfl _)

end Go.Proofs.Qxb6602383a
