/-
  ARGUMENTS OPENED: a slice of bytes, a slice of sequences.
-/
import Derived.Test.Qxb6602383aLawIn
import Derived.ProofKit
import Derived.OpenShut
import Derived.Deep.Slices
import Derived.Deep.Strs
set_option linter.unusedVariables false
namespace Go.Proofs.Qxb6602383a
open Go.RowKit Go.Deep

theorem cells51 : Try.prog.cellsOf 51 = 3 := by kernel_rfl
theorem cells49 : Try.prog.cellsOf 49 = 1 := by kernel_rfl
theorem cells5 : Try.prog.cellsOf 5 = 1 := by kernel_rfl

theorem lt_of_cell {w : World} {b o : Nat} {v : Value} (h : w.cell? ⟨b, o, none⟩ = some v) : b < w.heap.size := by
  apply Classical.byContradiction
  intro hn
  have e : w.heap[b]? = none := Array.getElem?_eq_none (by omega)
  simp [World.cell?, e] at h

theorem nat_of_u32 {n : Int} (h : (Lit.int .u32 n).wf = true) : ∃ k : Nat, n = k ∧ k ≤ 4294967295 := by
  have := bounds_u32 h
  exact ⟨n.toNat, by omega, by omega⟩

theorem open_bytes {H : Type} {enc : TypeId × Value → H} {w : World} {a : Option Addr} {len cap : Nat} {d : DataW H} {p : List MemPlace} (h : DataW.Trod enc Try.prog w 0 (fun _ => true) true 22 (.slice a len cap) d p) :
    len ≤ maxLen ∧ ∃ b o zs, BIn w a len cap b o zs := by
  obtain ⟨fuel, hf⟩ := h
  rcases Go.ChangeShapes.open_ints Try.underlying22 Try.underlying5 cells5 hf with ⟨hcs, _⟩ | ⟨x, l, c, zs, hcs, _, hl, hm, hz, _, hcell, hwz⟩
  · simp [Value.cells] at hcs
    obtain ⟨rfl, rfl, rfl⟩ := hcs
    exact ⟨Nat.zero_le _, 0, 0, [], fun _ => ⟨rfl, rfl⟩, fun h => absurd h (by omega), Nat.zero_le _, fun i hi => absurd hi (by omega)⟩
  · simp [Value.cells] at hcs
    obtain ⟨rfl, rfl, rfl⟩ := hcs
    simp only [if_true] at hz
    refine ⟨by omega, ?_⟩
    by_cases h0 : len = 0
    · subst h0
      exact ⟨0, 0, zs, fun h => by simp at h, fun h => absurd h (by omega), Nat.zero_le _, fun i hi => absurd hi (by omega)⟩
    · obtain ⟨b, o, hx, hc⟩ := ints_at hcell (by omega)
      subst hx
      exact ⟨b, o, zs, fun h => by simp at h, fun _ => ⟨rfl, lt_of_cell (hc 0 (by omega))⟩, by omega, fun i hi => hc i (by omega)⟩

theorem open_seqs {H : Type} {enc : TypeId × Value → H} {w : World} {a : Option Addr} {len cap : Nat} {d : DataW H} {p : List MemPlace} (h : DataW.Trod enc Try.prog w 0 (fun _ => true) true 35 (.slice a len cap) d p) :
    len ≤ maxLen ∧ ∃ b o S, SIn w a len cap b o S := by
  obtain ⟨fuel, hf⟩ := h
  rcases open_slice Try.underlying35 hf with ⟨hcs, _⟩ | ⟨x, l, c, m, n, D, Pl, hcs, _, hl, hm, hmm, _, hx⟩
  · simp [Value.cells] at hcs
    obtain ⟨rfl, rfl, rfl⟩ := hcs
    exact ⟨Nat.zero_le _, 0, 0, [], fun _ => ⟨rfl, rfl⟩, fun h => absurd h (by omega), rfl, fun i s hi => by simp at hi, fun s hs => by simp at hs⟩
  · simp [Value.cells] at hcs
    obtain ⟨rfl, rfl, rfl⟩ := hcs
    simp only [if_true] at hmm
    refine ⟨by omega, ?_⟩
    have each : ∀ i, i < len → ∃ t : Nat × Nat × Nat, w.cell? (x.add (i * 3)) = some (.int .u32 t.1) ∧ w.cell? (x.add (i * 3 + 1)) = some (.int .u32 t.2.1) ∧ w.cell? (x.add (i * 3 + 2)) = some (.int .u32 t.2.2) ∧ t.1 ≤ 4294967295 ∧ t.2.1 ≤ 4294967295 ∧ t.2.2 ≤ 4294967295 := by
      intro i hi
      obtain ⟨cs, h1, h2⟩ := hx i (by omega)
      rw [cells51] at h1
      obtain ⟨_, hlen, hcell⟩ := World.cells?_some h1
      obtain ⟨y0, y1, y2, n', _, _, t0, t1, t2⟩ := trod_struct3 Try.underlying51 h2
      match cs, hlen with
      | [c0, c1, c2], _ =>
        simp only [cells49] at t0 t1 t2
        obtain ⟨k0, e0, _, w0⟩ := DataW.trod_int Try.underlying49 t0
        obtain ⟨k1, e1, _, w1⟩ := DataW.trod_int Try.underlying49 t1
        obtain ⟨k2, e2, _, w2⟩ := DataW.trod_int Try.underlying49 t2
        simp at e0 e1 e2
        subst e0 e1 e2
        obtain ⟨j0, rfl, b0⟩ := nat_of_u32 w0
        obtain ⟨j1, rfl, b1⟩ := nat_of_u32 w1
        obtain ⟨j2, rfl, b2⟩ := nat_of_u32 w2
        have g0 := hcell 0 (by omega)
        have g1 := hcell 1 (by omega)
        have g2 := hcell 2 (by omega)
        rw [add_add] at g0 g1 g2
        exact ⟨(j0, j1, j2), g0, g1, g2, b0, b1, b2⟩
    obtain ⟨f, hf'⟩ := choose_lt each
    by_cases h0 : len = 0
    · subst h0
      exact ⟨0, 0, [], fun h => by simp at h, fun h => absurd h (by omega), rfl, fun i s hi => by simp at hi, fun s hs => by simp at hs⟩
    · obtain ⟨b, o, spot⟩ := x
      have hsp : spot = none := by
        have := World.cell?_spot (hf' 0 (by omega)).1
        simpa [Addr.add] using this
      subst hsp
      have ad : ∀ j, (⟨b, o, none⟩ : Addr).add j = ⟨b, o + j, none⟩ := fun j => Go.WideShapes.add_plain ..
      simp only [ad] at hf'
      refine ⟨b, o, (List.range len).map (fun i => ⟨(f i).1, (f i).2.1, (f i).2.2⟩), fun h => by simp at h, fun _ => ⟨rfl, lt_of_cell (hf' 0 (by omega)).1⟩, by simp, ?_, ?_⟩
      · intro i s hi
        have hil : i < len := by
          have := (List.getElem?_eq_some_iff.1 hi).1
          simpa using this
        simp [hil] at hi
        subst hi
        exact ⟨(hf' i hil).1, (hf' i hil).2.1, (hf' i hil).2.2.1⟩
      · intro s hs
        simp at hs
        obtain ⟨i, hil, rfl⟩ := hs
        exact (hf' i hil).2.2.2

end Go.Proofs.Qxb6602383a
