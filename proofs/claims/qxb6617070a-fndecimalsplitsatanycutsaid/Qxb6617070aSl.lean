/-
  What a slice of bytes reads as, in whatever world.
-/
import Derived.WalkKit
import Derived.WalkLawsBesides
import Derived.WalkSpells
import Derived.WalkSmall
import Derived.Below
namespace Go.Proofs.Qxb6617070a
open Go.RowKit
set_option linter.unusedSimpArgs false
set_option linter.unusedVariables false

/-- The slice value (a, n, c) reads as the bytes zs in w: nothing is said of the address where there is no element. -/
structure Sl (w : World) (a : Option Addr) (n c : Nat) (zs : List Int) : Prop where
  len : zs.length = n
  le : n ≤ c
  few : n ≤ 1000000
  byte : ∀ i, i < n → 0 ≤ zs.getD i 0 ∧ zs.getD i 0 ≤ 255
  cell : 0 < n → ∃ b off, a = some ⟨b, off, none⟩ ∧ ∀ i, i < n → w.cell? ⟨b, off + i, none⟩ = some (.int .u8 (zs.getD i 0))

/-- A world that reads every cell alike reads the slice alike. -/
theorem Sl.same {w w' : World} {a : Option Addr} {n c : Nat} {zs : List Int} (h : Sl w a n c zs) (hw : ∀ x, w'.cell? x = w.cell? x) : Sl w' a n c zs :=
  ⟨h.len, h.le, h.few, h.byte, fun hn => by
    obtain ⟨b, off, e, hc⟩ := h.cell hn
    exact ⟨b, off, e, fun i hi => by rw [hw]; exact hc i hi⟩⟩
theorem Sl.drewN {w : World} {a : Option Addr} {n c : Nat} {zs : List Int} (h : Sl w a n c zs) (k : Nat) : Sl (w.drewN k) a n c zs := h.same (fun _ => rfl)

/-- s[l:h]: the address only matters where an element is left. -/
theorem Sl.cut {w : World} {a : Option Addr} {n c : Nat} {zs : List Int} (s : Sl w a n c zs) (l h : Nat) (hlh : l ≤ h) (hh : h ≤ n) {a' : Option Addr}
    (ha : ∀ b off, a = some ⟨b, off, none⟩ → ¬ c = l → a' = some ⟨b, off + l, none⟩) : Sl w a' (h - l) (c - l) ((zs.take h).drop l) := by
  refine ⟨by simp [s.len]; omega, by have := s.le; omega, by have := s.few; omega, fun i hi => ?_, fun hn => ?_⟩
  · have := s.byte (l + i) (by omega)
    simpa [List.getD, List.getElem?_drop, List.getElem?_take, show l + i < h by omega] using this
  · obtain ⟨b, off, e, hc⟩ := s.cell (by omega)
    refine ⟨b, off + l, ha b off e (by have := s.le; omega), fun i hi => ?_⟩
    have := hc (l + i) (by omega)
    rw [Nat.add_assoc, this]
    simp [List.getD, List.getElem?_drop, List.getElem?_take, show l + i < h by omega]
end Go.Proofs.Qxb6617070a
