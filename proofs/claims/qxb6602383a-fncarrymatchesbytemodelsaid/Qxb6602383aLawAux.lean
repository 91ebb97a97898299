/-
  WHAT THE FOUR LAWS OVER SEQUENCES SHARE: the bounds' functions, the copies, ZZCarryWide.
-/
import Derived.Test.Qxb6602383aAux
import Derived.Test.Qxb6602383aCarryWide
set_option linter.unusedVariables false
namespace Go.Proofs.Qxb6602383a
open Go.RowKit

set_option maxHeartbeats 1000000 in
theorem zz28_calls (a1 a2 a3 : Option Addr) (n1 c1 n2 c2 n3 c3 : Nat) (x1 x2 x3 x4 x5 x6 : Int) (w : World) (h1 : (n1 : Int) ≤ 9223372036854775807) (h2 : (n2 : Int) ≤ 9223372036854775807) (h3 : (n3 : Int) ≤ 9223372036854775807) :
    Calls Try.prog 28 #[.slice a1 n1 c1, .int .i64 x1, .int .i64 x2, .int .i64 x3, .int .i64 x4, .int .i64 x5, .int .i64 x6, .slice a2 n2 c2, .slice a3 n3 c3] w fun e w' => e = .returned (.bool (decide (n1 + n2 + n3 ≤ 1048576))) ∧ w = w' := by
  by_cases g1 : n1 ≤ 1048576
  · by_cases g2 : n2 ≤ 1048576
    · by_cases g3 : n1 + n2 ≤ 1048576
      · by_cases g4 : n3 ≤ 1048576
        · by_cases g5 : n1 + n2 + n3 ≤ 1048576
          · rw [decide_eq_true g5]
            go_enter Try.func28, Try.ntmps28
            go_wp2
            go_ret
            exact ⟨rfl, rfl⟩
          · rw [decide_eq_false g5]
            go_enter Try.func28, Try.ntmps28
            go_wp2
            go_ret
            exact ⟨rfl, rfl⟩
        · rw [decide_eq_false (by omega)]
          go_enter Try.func28, Try.ntmps28
          go_wp2
          go_ret
          exact ⟨rfl, rfl⟩
      · rw [decide_eq_false (by omega)]
        go_enter Try.func28, Try.ntmps28
        go_wp2
        go_ret
        exact ⟨rfl, rfl⟩
    · rw [decide_eq_false (by omega)]
      go_enter Try.func28, Try.ntmps28
      go_wp2
      go_ret
      exact ⟨rfl, rfl⟩
  · rw [decide_eq_false (by omega)]
    go_enter Try.func28, Try.ntmps28
    go_wp2
    go_ret
    exact ⟨rfl, rfl⟩

set_option maxHeartbeats 1000000 in
theorem zz19_calls (a1 a2 a3 : Option Addr) (n1 c1 n2 c2 n3 c3 : Nat) (x1 x2 x3 x4 x5 x6 : Int) (w : World) (h1 : (n1 : Int) ≤ 9223372036854775807) (h2 : (n2 : Int) ≤ 9223372036854775807) (h3 : (n3 : Int) ≤ 9223372036854775807) :
    Calls Try.prog 19 #[.slice a1 n1 c1, .int .i64 x1, .int .i64 x2, .int .i64 x3, .int .i64 x4, .int .i64 x5, .int .i64 x6, .slice a2 n2 c2, .slice a3 n3 c3] w fun e w' => e = .returned (.bool (decide (n1 + n2 + n3 ≤ 1048576))) ∧ w = w' := by
  by_cases g1 : n1 ≤ 1048576
  · by_cases g2 : n2 ≤ 1048576
    · by_cases g3 : n1 + n2 ≤ 1048576
      · by_cases g4 : n3 ≤ 1048576
        · by_cases g5 : n1 + n2 + n3 ≤ 1048576
          · rw [decide_eq_true g5]
            go_enter Try.func19, Try.ntmps19
            go_wp2
            go_ret
            exact ⟨rfl, rfl⟩
          · rw [decide_eq_false g5]
            go_enter Try.func19, Try.ntmps19
            go_wp2
            go_ret
            exact ⟨rfl, rfl⟩
        · rw [decide_eq_false (by omega)]
          go_enter Try.func19, Try.ntmps19
          go_wp2
          go_ret
          exact ⟨rfl, rfl⟩
      · rw [decide_eq_false (by omega)]
        go_enter Try.func19, Try.ntmps19
        go_wp2
        go_ret
        exact ⟨rfl, rfl⟩
    · rw [decide_eq_false (by omega)]
      go_enter Try.func19, Try.ntmps19
      go_wp2
      go_ret
      exact ⟨rfl, rfl⟩
  · rw [decide_eq_false (by omega)]
    go_enter Try.func19, Try.ntmps19
    go_wp2
    go_ret
    exact ⟨rfl, rfl⟩

set_option maxHeartbeats 1000000 in
theorem zz29_calls (a1 a2 a3 : Option Addr) (n1 c1 n2 c2 n3 c3 : Nat) (x1 x2 x3 x4 x5 x6 : Int) (w : World) (h1 : (n1 : Int) ≤ 9223372036854775807) (h2 : (n2 : Int) ≤ 9223372036854775807) (h3 : (n3 : Int) ≤ 9223372036854775807) :
    Calls Try.prog 29 #[.slice a1 n1 c1, .int .i64 x1, .int .i64 x2, .int .i64 x3, .int .i64 x4, .int .i64 x5, .int .i64 x6, .slice a2 n2 c2, .slice a3 n3 c3] w fun e w' => e = .returned (.bool (decide (n1 + n2 + n3 ≤ 1048576))) ∧ w = w' := by
  by_cases g1 : n1 ≤ 1048576
  · by_cases g2 : n2 ≤ 1048576
    · by_cases g3 : n1 + n2 ≤ 1048576
      · by_cases g4 : n3 ≤ 1048576
        · by_cases g5 : n1 + n2 + n3 ≤ 1048576
          · rw [decide_eq_true g5]
            go_enter Try.func29, Try.ntmps29
            go_wp2
            go_ret
            exact ⟨rfl, rfl⟩
          · rw [decide_eq_false g5]
            go_enter Try.func29, Try.ntmps29
            go_wp2
            go_ret
            exact ⟨rfl, rfl⟩
        · rw [decide_eq_false (by omega)]
          go_enter Try.func29, Try.ntmps29
          go_wp2
          go_ret
          exact ⟨rfl, rfl⟩
      · rw [decide_eq_false (by omega)]
        go_enter Try.func29, Try.ntmps29
        go_wp2
        go_ret
        exact ⟨rfl, rfl⟩
    · rw [decide_eq_false (by omega)]
      go_enter Try.func29, Try.ntmps29
      go_wp2
      go_ret
      exact ⟨rfl, rfl⟩
  · rw [decide_eq_false (by omega)]
    go_enter Try.func29, Try.ntmps29
    go_wp2
    go_ret
    exact ⟨rfl, rfl⟩

set_option maxHeartbeats 1000000 in
theorem zz31_calls (a1 a2 a3 : Option Addr) (n1 c1 n2 c2 n3 c3 : Nat) (x1 x2 x3 x4 x5 x6 : Int) (w : World) (h1 : (n1 : Int) ≤ 9223372036854775807) (h2 : (n2 : Int) ≤ 9223372036854775807) (h3 : (n3 : Int) ≤ 9223372036854775807) :
    Calls Try.prog 31 #[.slice a1 n1 c1, .int .i64 x1, .int .i64 x2, .int .i64 x3, .int .i64 x4, .int .i64 x5, .int .i64 x6, .slice a2 n2 c2, .slice a3 n3 c3] w fun e w' => e = .returned (.bool (decide (n1 + n2 + n3 ≤ 1048576))) ∧ w = w' := by
  by_cases g1 : n1 ≤ 1048576
  · by_cases g2 : n2 ≤ 1048576
    · by_cases g3 : n1 + n2 ≤ 1048576
      · by_cases g4 : n3 ≤ 1048576
        · by_cases g5 : n1 + n2 + n3 ≤ 1048576
          · rw [decide_eq_true g5]
            go_enter Try.func31, Try.ntmps31
            go_wp2
            go_ret
            exact ⟨rfl, rfl⟩
          · rw [decide_eq_false g5]
            go_enter Try.func31, Try.ntmps31
            go_wp2
            go_ret
            exact ⟨rfl, rfl⟩
        · rw [decide_eq_false (by omega)]
          go_enter Try.func31, Try.ntmps31
          go_wp2
          go_ret
          exact ⟨rfl, rfl⟩
      · rw [decide_eq_false (by omega)]
        go_enter Try.func31, Try.ntmps31
        go_wp2
        go_ret
        exact ⟨rfl, rfl⟩
    · rw [decide_eq_false (by omega)]
      go_enter Try.func31, Try.ntmps31
      go_wp2
      go_ret
      exact ⟨rfl, rfl⟩
  · rw [decide_eq_false (by omega)]
    go_enter Try.func31, Try.ntmps31
    go_wp2
    go_ret
    exact ⟨rfl, rfl⟩

/-- cloneBytes of whatever slice of bytes. -/
theorem clone_all (la : Option Addr) (bl lo nl lcap : Nat) (zs : List Int) (w : World) (hnil : la = none → nl = 0 ∧ lcap = 0) (h : 0 < nl → la = some ⟨bl, lo, none⟩ ∧ bl < w.heap.size) (hz : nl ≤ zs.length) (hl : nl ≤ 1048576)
    (hc : ∀ i, i < nl → w.cell? ⟨bl, lo + i, none⟩ = some (.int .u8 (zs.getD i 0))) :
    Calls Try.prog 10 #[.slice la nl lcap] w fun e w' => ∃ la', e = .returned (.slice la' nl nl) ∧ (0 < nl → la' = some ⟨w.heap.size, 0, none⟩ ∧ IsBytes w' w.heap.size (zs.take nl)) ∧ Turn (fun _ => False) w w' := by
  match la, hnil, h with
  | none, hnil, _ =>
    obtain ⟨rfl, rfl⟩ := hnil rfl
    refine (clone_nil w).mono ?_
    rintro e w' ⟨rfl, rfl⟩
    exact ⟨none, rfl, fun h => absurd h (by omega), Turn.refl _ _⟩
  | some x, _, h =>
    by_cases h0 : nl = 0
    · subst h0
      refine (clone_zero x lcap w).mono ?_
      rintro e w' ⟨rfl, _, _, hT⟩
      exact ⟨_, rfl, fun h => absurd h (by omega), hT⟩
    · obtain ⟨hx, hb⟩ := h (by omega)
      cases hx
      refine (clone_any bl lo nl lcap zs w hb hz hl hc).mono ?_
      rintro e w' ⟨rfl, hB, _, hT⟩
      exact ⟨_, rfl, fun _ => ⟨rfl, hB⟩, hT⟩

/-- cloneSeqs of whatever slice of sequences. -/
theorem cloneSeqs_all (sa : Option Addr) (bs so slen scap : Nat) (S : List Sq) (w : World) (hnil : sa = none → slen = 0 ∧ scap = 0) (h : 0 < slen → sa = some ⟨bs, so, none⟩ ∧ bs < w.heap.size) (hS : S.length = slen) (hl : slen ≤ 1048576) (hc : SeqAt w bs so S) :
    Calls Try.prog 22 #[.slice sa slen scap] w fun e w' => ∃ sa', e = .returned (.slice sa' slen slen) ∧ (0 < slen → sa' = some ⟨w.heap.size, 0, none⟩ ∧ w.heap.size < w'.heap.size) ∧ SeqAt w' w.heap.size 0 S ∧ Turn (fun _ => False) w w' := by
  match sa, hnil, h with
  | none, hnil, _ =>
    obtain ⟨rfl, rfl⟩ := hnil rfl
    have e0 : S = [] := List.eq_nil_of_length_eq_zero hS
    subst e0
    refine (cloneSeqs_nil w).mono ?_
    rintro e w' ⟨rfl, rfl⟩
    exact ⟨none, rfl, fun h => absurd h (by omega), fun i s hi => by simp at hi, Turn.refl _ _⟩
  | some x, _, h =>
    by_cases h0 : slen = 0
    · subst h0
      have e0 : S = [] := List.eq_nil_of_length_eq_zero hS
      subst e0
      refine (cloneSeqs_zero x scap w).mono ?_
      rintro e w' ⟨rfl, _, hT⟩
      exact ⟨_, rfl, fun h => absurd h (by omega), fun i s hi => by simp at hi, hT⟩
    · obtain ⟨hx, hb⟩ := h (by omega)
      cases hx
      refine (cloneSeqs_any bs so slen scap S w hb hS hl hc).mono ?_
      rintro e w' ⟨rfl, hB, hs, hT⟩
      exact ⟨_, rfl, fun _ => ⟨rfl, by omega⟩, hB, hT⟩

theorem toSequences_all (sa : Option Addr) (bs so slen scap : Nat) (S : List Sq) (w : World) (h : 0 < slen → sa = some ⟨bs, so, none⟩ ∧ bs < w.heap.size) (hS : S.length = slen) (hl : slen ≤ 1048576) (hc : SeqAt w bs so S) :
    Calls Try.prog 24 #[.slice sa slen scap] w fun e w' => e = .returned (.slice (some ⟨w.heap.size, 0, none⟩) slen slen) ∧ w.heap.size < w'.heap.size ∧ SeqAt w' w.heap.size 0 S ∧ Turn (fun _ => False) w w' := by
  by_cases h0 : slen = 0
  · subst h0
    have e0 : S = [] := List.eq_nil_of_length_eq_zero hS
    subst e0
    refine (toSequences_zero sa scap w).mono ?_
    rintro e w' ⟨rfl, hs, hT⟩
    exact ⟨rfl, by omega, fun i s hi => by simp at hi, hT⟩
  · obtain ⟨hx, hb⟩ := h (by omega)
    subst hx
    refine (toSequences_any bs so slen scap S w hb hS hl hc).mono ?_
    rintro e w' ⟨rfl, hB, hs, hT⟩
    exact ⟨rfl, by omega, hB, hT⟩

set_option maxHeartbeats 1000000 in
theorem zzCarryWide_calls (w : World) (b bb L : Nat) (z : Int) (p : Nat) (u l t y : Int) (g : List Int) (sa : Option Addr) (bs so slen scap : Nat) (S : List Sq) (la : Option Addr) (bl lo nl lcap : Nat) (X Y : List Int)
    (H : IsWin w b bb L z p u l t y) (HB : IsBytes w bb g) (hne : b ≠ bb) (hgL : g.length = L) (hL : L ≤ 1048576) (hp : p ≤ L)
    (hsl : S.length = slen) (hslm : slen ≤ 1048576) (hs : 0 < slen → sa = some ⟨bs, so, none⟩ ∧ bs < w.heap.size ∧ bs ≠ bb) (hS : SeqAt w bs so S) (hsm : Small S) (hso : ∀ s ∈ S, s.o ≤ L)
    (hl : 0 < nl → la = some ⟨bl, lo, none⟩ ∧ IsBytes w bl X ∧ lo + nl ≤ X.length ∧ bl ≠ bb ∧ Y = (X.drop lo).take nl) (hY : Y.length = nl) (hcap : nl ≤ lcap) (hcap2 : lcap ≤ 1048576) :
    Calls Try.prog 23 #[.pointer (some ⟨b, 0, none⟩), .slice sa slen scap, .slice la nl lcap] w fun e w' => WideDone w b bb L z p u l t y g S bl lo nl lcap slen Y e w' := by
  have C := carryWide_calls w b bb L z p u l t y g sa bs so slen scap S la bl lo nl lcap X Y H HB hne hgL hL hp hsl hslm hs hS hsm hso hl hY hcap hcap2
  have HC : Hid (Calls Try.prog 35 #[.pointer (some ⟨b, 0, none⟩), .slice sa slen scap, .slice la nl lcap] w fun e w' => WideDone w b bb L z p u l t y g S bl lo nl lcap slen Y e w') := C
  clear C hl hs hS hsm hso hsl hgL hY H HB
  go_enter Try.func23, Try.ntmps23
  go_wp2_with fail
  refine HC.out.mono ?_
  rintro e w' ⟨i, la', g', rfl, hD⟩
  go_wp2
  go_ret2
  exact ⟨i, la', g', rfl, hD⟩

end Go.Proofs.Qxb6602383a
