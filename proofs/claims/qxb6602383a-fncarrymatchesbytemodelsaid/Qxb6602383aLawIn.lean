/-
  WHAT CAME IN: a slice of bytes, a slice of sequences.
-/
import Derived.Test.Qxb6602383aLawAux
set_option linter.unusedVariables false
namespace Go.Proofs.Qxb6602383a
open Go.RowKit

/-- A slice of bytes that can be read. -/
structure BIn (w : World) (a : Option Addr) (n c : Nat) (b o : Nat) (zs : List Int) : Prop where
  nil : a = none → n = 0 ∧ c = 0
  at0 : 0 < n → a = some ⟨b, o, none⟩ ∧ b < w.heap.size
  len : n ≤ zs.length
  cell : ∀ i, i < n → w.cell? ⟨b, o + i, none⟩ = some (.int .u8 (zs.getD i 0))

/-- A slice of sequences that can be read. -/
structure SIn (w : World) (a : Option Addr) (n c : Nat) (b o : Nat) (S : List Sq) : Prop where
  nil : a = none → n = 0 ∧ c = 0
  at0 : 0 < n → a = some ⟨b, o, none⟩ ∧ b < w.heap.size
  len : S.length = n
  seqs : SeqAt w b o S
  small : Small S

theorem BIn.turn {w w' : World} {a : Option Addr} {n c b o : Nat} {zs : List Int} (h : BIn w a n c b o zs) (T : Turn (fun _ => False) w w') : BIn w' a n c b o zs :=
  ⟨h.nil, fun hn => ⟨(h.at0 hn).1, Nat.lt_of_lt_of_le (h.at0 hn).2 T.size⟩, h.len, fun i hi => (T.cell (h.at0 (by omega)).2 (fun x => x) _).trans (h.cell i hi)⟩

theorem SIn.turn {w w' : World} {a : Option Addr} {n c b o : Nat} {S : List Sq} (h : SIn w a n c b o S) (T : Turn (fun _ => False) w w') : SIn w' a n c b o S := by
  refine ⟨h.nil, fun hn => ⟨(h.at0 hn).1, Nat.lt_of_lt_of_le (h.at0 hn).2 T.size⟩, h.len, ?_, h.small⟩
  by_cases h0 : n = 0
  · intro i s hi
    have e : S = [] := List.eq_nil_of_length_eq_zero (h.len.trans h0)
    rw [e] at hi
    simp at hi
  · exact h.seqs.turn T (h.at0 (by omega)).2 (fun x => x)

end Go.Proofs.Qxb6602383a
