/-
  'padded := make([]byte, 0, n); append; append; append': the facts for the walk.
-/
import Derived.Test.Qxb6617070aCopy
namespace Go.Proofs.Qxb6617070a
open Go.RowKit
set_option linter.unusedSimpArgs false
set_option linter.unusedVariables false

/-- A slice of the world as it was reads alike behind what turns nothing old. -/
theorem Sl.below {w w' : World} {a : Option Addr} {n c : Nat} {zs : List Int} (h : Sl w a n c zs) {B : Nat} (hB : Below B w w') (hw : w.heap.size ≤ B) : Sl w' a n c zs :=
  ⟨h.len, h.le, h.few, h.byte, fun hn => by
    obtain ⟨b, off, e, hc⟩ := h.cell hn
    refine ⟨b, off, e, fun i hi => ?_⟩
    have hci := hc i hi
    have hblk : b < w.heap.size := by
      rcases Nat.lt_or_ge b w.heap.size with h' | h'
      · exact h'
      · simp [World.cell?, Array.getElem?_eq_none h'] at hci
    rw [hB.cell (p := ⟨b, off + i, none⟩) (by show b < B; omega)]
    exact hci⟩

/-- One append within the capacity. -/
theorem app1 {w : World} {base g k cap : Nat} {xs : List Value} (hown : w.ownsRow base 5 1 (.slice (some ⟨g, 0, none⟩) k cap) k xs) {a : Option Addr} {n c : Nat} {zs : List Int} (s : Sl w a n c zs) (hnil : a = none → n = 0 ∧ c = 0) (hfit : k + n ≤ cap) :
    ∃ w', (Builtin.append_ #[22, 22] 22 #[.slice (some ⟨g, 0, none⟩) k cap, .slice a n c]).run Try.prog w = .ok (.slice (some ⟨g, 0, none⟩) (k + n) cap) w' ∧
      w'.ownsRow base 5 1 (.slice (some ⟨g, 0, none⟩) (k + n) cap) (k + n) (xs ++ zs.map (Value.int .u8)) ∧ w.grownBy w' (some g) := by
  obtain ⟨i, hi, hz0, hz1, hz2⟩ := info_parts info5
  cases a with
  | none =>
    obtain ⟨rfl, rfl⟩ := hnil rfl
    have hzs : zs = [] := List.eq_nil_of_length_eq_zero s.len
    subst hzs
    refine ⟨w, run_append_owned_none (P := Try.prog) w base 22 22 5 i 1 Try.underlying22 hi _ k xs hown, ?_, World.grownBy.refl _ _⟩
    simpa using hown
  | some x =>
    refine run_append_fits (P := Try.prog) w base 22 22 5 i 1 Try.underlying22 hi hz1 g k cap xs hown x n c (zs.map (Value.int .u8)) (by simp [s.len]) ?_ (ints_oneCell _ _) hfit
    intro j u hj
    have hjl : j < zs.length := by
      have := (List.getElem?_eq_some_iff.1 hj).1
      simpa using this
    have hl := s.len
    obtain ⟨b, off, e, hc⟩ := s.cell (by omega)
    obtain rfl := Option.some.inj e
    rw [Addr.add_lit, hc j (by omega), ← hj]
    simp [List.getD, hjl]

/-- The three appends. -/
theorem pads {w : World} {a0 a1 a2 : Option Addr} {n0 c0 n1 c1 n2 c2 : Nat} {z0 z1 z2 : List Int} (s0 : Sl w a0 n0 c0 z0) (s1 : Sl w a1 n1 c1 z1) (s2 : Sl w a2 n2 c2 z2)
    (e0 : a0 = none → n0 = 0 ∧ c0 = 0) (e1 : a1 = none → n1 = 0 ∧ c1 = 0) (e2 : a2 = none → n2 = 0 ∧ c2 = 0) (l0 : n0 ≤ 65536) (l1 : n1 ≤ 65536) (l2 : n2 ≤ 65536) :
    ∃ w3 w4 w5 w6,
      (Instr.makeSlice 22 (.int .i64 0) (.int .i64 ((n0 : Int) + (n1 : Int) + (n2 : Int)))).run Try.prog w = .ok (.slice (some ⟨w.heap.size, 0, none⟩) 0 (n0 + n1 + n2)) w3 ∧
      (Builtin.append_ #[22, 22] 22 #[.slice (some ⟨w.heap.size, 0, none⟩) 0 (n0 + n1 + n2), .slice a0 n0 c0]).run Try.prog w3 = .ok (.slice (some ⟨w.heap.size, 0, none⟩) n0 (n0 + n1 + n2)) w4 ∧
      (Builtin.append_ #[22, 22] 22 #[.slice (some ⟨w.heap.size, 0, none⟩) n0 (n0 + n1 + n2), .slice a1 n1 c1]).run Try.prog w4 = .ok (.slice (some ⟨w.heap.size, 0, none⟩) (n0 + n1) (n0 + n1 + n2)) w5 ∧
      (Builtin.append_ #[22, 22] 22 #[.slice (some ⟨w.heap.size, 0, none⟩) (n0 + n1) (n0 + n1 + n2), .slice a2 n2 c2]).run Try.prog w5 = .ok (.slice (some ⟨w.heap.size, 0, none⟩) (n0 + n1 + n2) (n0 + n1 + n2)) w6 ∧
      Sl w6 (some ⟨w.heap.size, 0, none⟩) (n0 + n1 + n2) (n0 + n1 + n2) (z0 ++ (z1 ++ z2)) ∧ Below w.heap.size w w6 := by
  obtain ⟨i, hi, hz0, hz1, hz2⟩ := info_parts info5
  obtain ⟨w3, hm3, o3, g3⟩ := run_make_own (P := Try.prog) w w.heap.size 22 5 i (.int .u8 0) 1 Try.underlying22 hi hz0 hz1 .i64 .i64 (n0 + n1 + n2) (by rw [hz2]; omega) (by unfold maxLen; omega) (Nat.le_refl _)
  have ec : ((n0 + n1 + n2 : Nat) : Int) = (n0 : Int) + (n1 : Int) + (n2 : Int) := by omega
  rw [ec] at hm3
  have b3 : Below w.heap.size w w3 := (Below.refl _ _).grown g3 (Nat.le_refl _) (fun k e => by cases e)
  obtain ⟨w4, hm4, o4, g4⟩ := app1 o3 (s0.below b3 (Nat.le_refl _)) e0 (by omega)
  have b4 : Below w.heap.size w w4 := b3.grown g4 b3.size (fun k e => by cases e; exact Nat.le_refl _)
  rw [Nat.zero_add] at hm4 o4
  obtain ⟨w5, hm5, o5, g5⟩ := app1 o4 (s1.below b4 (Nat.le_refl _)) e1 (by omega)
  have b5 : Below w.heap.size w w5 := b4.grown g5 b4.size (fun k e => by cases e; exact Nat.le_refl _)
  obtain ⟨w6, hm6, o6, g6⟩ := app1 o5 (s2.below b5 (Nat.le_refl _)) e2 (by omega)
  have b6 : Below w.heap.size w w6 := b5.grown g6 b5.size (fun k e => by cases e; exact Nat.le_refl _)
  refine ⟨w3, w4, w5, w6, hm3, hm4, hm5, hm6, ?_, b6⟩
  have hl : (z0 ++ (z1 ++ z2)).length = n0 + n1 + n2 := by simp [s0.len, s1.len, s2.len]; omega
  refine ⟨hl, Nat.le_refl _, by omega, fun j hj => ?_, fun hn => ⟨_, 0, rfl, fun j hj => ?_⟩⟩
  · have q0 := s0.len
    have q1 := s1.len
    have q2 := s2.len
    rcases Nat.lt_or_ge j n0 with h | h
    · have := s0.byte j h
      simpa [List.getD, List.getElem?_append, show j < z0.length by omega] using this
    · rcases Nat.lt_or_ge j (n0 + n1) with h' | h'
      · have := s1.byte (j - n0) (by omega)
        simpa [List.getD, List.getElem?_append, show ¬ j < z0.length by omega, q0, show j - n0 < z1.length by omega, show ¬ j < n0 by omega] using this
      · have := s2.byte (j - n0 - n1) (by omega)
        simpa [List.getD, List.getElem?_append, show ¬ j < z0.length by omega, q0, q1, show ¬ j - n0 < z1.length by omega, show ¬ j < n0 by omega, show ¬ j - n0 < n1 by omega] using this
  · rw [Nat.zero_add, o6.cellAt j (by omega)]
    have : ([] ++ z0.map (Value.int .u8) ++ z1.map (Value.int .u8) ++ z2.map (Value.int .u8)) = (z0 ++ (z1 ++ z2)).map (Value.int .u8) := by simp
    rw [this]
    rw [List.getElem?_map]
    simp [List.getD, show j < (z0 ++ (z1 ++ z2)).length by omega, List.getElem?_eq_getElem (show j < (z0 ++ (z1 ++ z2)).length by omega)]
end Go.Proofs.Qxb6617070a
