/-
  'a copy first': make and copy of a slice of bytes.
-/
import Derived.Test.Qxb6617070aProg
import Derived.Test.Qxb6617070aSl
import Derived.Laws.CopyOwn
import Derived.Deep.OwnRows
namespace Go.Proofs.Qxb6617070a
open Go.RowKit
set_option linter.unusedSimpArgs false
set_option linter.unusedVariables false

theorem info5 : (Try.prog.info? 5).map (fun i => (i.zero, i.size, i.bytes)) = some (some (.int .u8 0), 1, 1) := by kernel_rfl
theorem size5 : (Try.prog.info? 5).map (·.size) = some 1 := by kernel_rfl

/-- A block of bytes, read as a slice. -/
theorem Sl.block {w : World} {g n : Nat} {zs : List Int} {t : TypeId} (h : w.heap[g]? = some (.cells (zs.map (Value.int .u8)).toArray t (0, 0))) (hl : zs.length = n) (hf : n ≤ 1000000) (hb : ∀ i, i < n → 0 ≤ zs.getD i 0 ∧ zs.getD i 0 ≤ 255) :
    Sl w (some ⟨g, 0, none⟩) n n zs :=
  ⟨hl, Nat.le_refl _, hf, hb, fun hn => ⟨g, 0, rfl, fun i hi => by simp [World.cell?, h, List.getD, show i < zs.length by omega]⟩⟩
theorem splice_all {α : Type} (L cs : List α) (h : cs.length = L.length) : splice L 0 cs = cs := by simp [splice, h]

/-- The make of the copy. -/
theorem made (n : Nat) (hn : n ≤ 65536) (w : World) : (Instr.makeSlice 22 (.int .i64 (n : Int)) (.int .i64 (n : Int))).run Try.prog w = .ok (.slice (some ⟨w.heap.size, 0, none⟩) n n) (w.alloc (.cells (madeCells #[.int .u8 0] n) 5)) :=
  run_make_row' 22 5 (.int .u8 0) 1 Try.underlying22 info5 rfl .i64 .i64 n (by omega) (by omega) w

/-- The copy: what is made reads as the source did; nothing old has turned. -/
theorem copied (x : Addr) (n c : Nat) (zs : List Int) (w : World) (hn : n ≤ 65536) (hlen : zs.length = n) (hb : ∀ i, i < n → 0 ≤ zs.getD i 0 ∧ zs.getD i 0 ≤ 255)
    (hcell : ∀ i, i < n → w.cell? (x.add i) = some (.int .u8 (zs.getD i 0))) :
    ∃ w2, (Builtin.copy_ #[22, 22] 3 #[.slice (some ⟨w.heap.size, 0, none⟩) n n, .slice (some x) n c]).run Try.prog (w.alloc (.cells (madeCells #[.int .u8 0] n) 5)) = .ok (goInt n) w2 ∧
      Sl w2 (some ⟨w.heap.size, 0, none⟩) n n zs ∧ Below w.heap.size w w2 := by
  have hB : Below w.heap.size w (w.alloc (.cells (madeCells #[.int .u8 0] n) 5)) := (Below.refl _ _).alloc (Nat.le_refl _) _
  by_cases h0 : n = 0
  · subst h0
    refine ⟨_, run_copy_none (P := Try.prog) _ 22 22 3 5 _ _ 0 0 0 c Try.underlying22 size5 (by simp), ?_, hB⟩
    exact ⟨hlen, Nat.le_refl _, by omega, fun i h => absurd h (by omega), fun h => absurd h (by omega)⟩
  · have hg : (w.alloc (.cells (madeCells #[.int .u8 0] n) 5)).heap[w.heap.size]? = some (.cells (madeCells #[.int .u8 0] n) 5 (0, 0)) := heap_alloc_new w _
    have hcs : (zs.map (Value.int .u8)).length = Nat.min n n := by simp [hlen]
    have hrun := run_copy_row (P := Try.prog) (w.alloc (.cells (madeCells #[.int .u8 0] n) 5)) 22 22 3 5 w.heap.size 0 n n x n c (madeCells #[.int .u8 0] n) 5 (zs.map (Value.int .u8)) Try.underlying22 size5 hg hcs
      (fun j v hj => by
        have hjl : j < zs.length := by
          have := (List.getElem?_eq_some_iff.1 hj).1
          simpa using this
        have hc := hcell j (by omega)
        have hblk : (x.add j).block < w.heap.size := by
          rcases Nat.lt_or_ge (x.add j).block w.heap.size with h | h
          · exact h
          · simp [World.cell?, Array.getElem?_eq_none h] at hc
        rw [hB.cell hblk, hc, ← hj]
        simp [List.getD, hjl])
      (by simp [hlen, size_madeCells]) (ints_oneCell _ _)
    have hl2 : (zs.map (Value.int .u8)).length = n := by simp [hlen]
    rw [hl2] at hrun
    refine ⟨_, hrun, ?_, below_setRow hB (Nat.le_refl _) _⟩
    have hh := setRow_heap (w.alloc (.cells (madeCells #[.int .u8 0] n) 5)) w.heap.size _ ((madeCells #[.int .u8 0] n).toList.take 0 ++ zs.map (Value.int .u8) ++ (madeCells #[.int .u8 0] n).toList.drop (0 + n)).toArray 5 _ hg
    refine Sl.block (t := 5) (hh.trans ?_) hlen (by omega) hb
    have : (madeCells #[.int .u8 0] n).toList.drop (0 + n) = [] := List.drop_eq_nil_of_le (by simp [size_madeCells])
    rw [this]; simp

/-- What a row that came in gives: its first 'len' cells. -/
theorem row_parts {w : World} {x : Addr} {len cap : Nat} {zs : List Int} (hl : len ≤ cap) (hz : zs.length = cap) (hcell : ∀ i, i < zs.length → w.cell? (x.add i) = some (.int .u8 (zs.getD i 0))) (hwz : ∀ n ∈ zs, (Lit.int .u8 n).wf = true) :
    (zs.take len).length = len ∧ (∀ i, i < len → 0 ≤ (zs.take len).getD i 0 ∧ (zs.take len).getD i 0 ≤ 255) ∧ ∀ i, i < len → w.cell? (x.add i) = some (.int .u8 ((zs.take len).getD i 0)) := by
  have hg : ∀ i, i < len → (zs.take len).getD i 0 = zs.getD i 0 := fun i hi => by simp [List.getD, List.getElem?_take, hi]
  refine ⟨by rw [List.length_take]; omega, fun i hi => ?_, fun i hi => ?_⟩
  · rw [hg i hi]
    have hm : zs.getD i 0 ∈ zs := by simp [List.getD, show i < zs.length by omega]
    have := hwz _ hm
    simp [Lit.wf, IntKind.min, IntKind.max, IntKind.signed, IntKind.bits] at this
    simpa using this
  · rw [hg i hi]; exact hcell i (by omega)
end Go.Proofs.Qxb6617070a
