/-
  Plain mathematics for the laws over trimSpace: no Go in sight.
-/
namespace Go.Proofs.Qxb6617070a.Trim

def blank (x : Int) : Bool := decide (x = 32 ∨ x = 9)
def allB (zs : List Int) : Bool := zs.all blank
def sameB (xs ys : List Int) : Bool := decide (xs = ys)

theorem blank_yes {x : Int} (h : x = 32 ∨ x = 9) : blank x = true := decide_eq_true h
theorem blank_no {x : Int} (h : ¬ (x = 32 ∨ x = 9)) : blank x = false := decide_eq_false h
theorem of_blank {x : Int} (h : blank x = true) : x = 32 ∨ x = 9 := of_decide_eq_true h
theorem of_not_blank {x : Int} (h : blank x = false) : ¬ (x = 32 ∨ x = 9) := of_decide_eq_false h

theorem allB_of (zs : List Int) (h : ∀ i, i < zs.length → blank (zs.getD i 0) = true) : allB zs = true := by
  unfold allB
  rw [List.all_eq_true]
  intro x hx
  obtain ⟨i, hi, rfl⟩ := List.getElem_of_mem hx
  have := h i hi
  simpa [List.getD, hi] using this
theorem allB_get (zs : List Int) (h : allB zs = true) (i : Nat) (hi : i < zs.length) : blank (zs.getD i 0) = true := by
  unfold allB at h
  rw [List.all_eq_true] at h
  have := h zs[i] (List.getElem_mem hi)
  simpa [List.getD, hi] using this
theorem allB_no (zs : List Int) (i : Nat) (hi : i < zs.length) (h : blank (zs.getD i 0) = false) : allB zs = false := by
  rw [Bool.eq_false_iff]
  intro e
  rw [allB_get zs e i hi] at h
  cases h

/-- The end bytes are not blank, or there is none. -/
def ends (rs : List Int) : Prop := 0 < rs.length → blank (rs.getD 0 0) = false ∧ blank (rs.getD (rs.length - 1) 0) = false
/-- rs is zs without the blanks around it. -/
def IsTrim (zs rs : List Int) : Prop := ∃ l r, zs = l ++ (rs ++ r) ∧ allB l = true ∧ allB r = true ∧ ends rs

def trim (zs : List Int) : List Int := ((zs.dropWhile blank).reverse.dropWhile blank).reverse

theorem drop_blank (l t : List Int) (h : allB l = true) : (l ++ t).dropWhile blank = t.dropWhile blank := by
  induction l with
  | nil => rfl
  | cons x l ih =>
    unfold allB at h
    simp only [List.all_cons, Bool.and_eq_true] at h
    rw [List.cons_append, List.dropWhile_cons, if_pos h.1]
    exact ih (by unfold allB; exact h.2)
theorem drop_stop (x : Int) (t : List Int) (h : blank x = false) : (x :: t).dropWhile blank = x :: t := by
  rw [List.dropWhile_cons, h]; rfl
theorem allB_reverse (l : List Int) (h : allB l = true) : allB l.reverse = true := by
  unfold allB at h ⊢
  rw [List.all_reverse]; exact h

theorem IsTrim.eq {zs rs : List Int} (h : IsTrim zs rs) : rs = trim zs := by
  obtain ⟨l, r, rfl, hl, hr, he⟩ := h
  unfold trim
  rw [drop_blank l _ hl]
  cases rs with
  | nil =>
    have e : ([] ++ r : List Int).dropWhile blank = [] := by
      have := drop_blank r [] hr
      simpa using this
    rw [e]; rfl
  | cons x t =>
    have hx := he (by simp)
    rw [List.cons_append, drop_stop x _ (by simpa using hx.1)]
    have e : (x :: (t ++ r)).reverse = r.reverse ++ (x :: t).reverse := by simp
    rw [e, drop_blank _ _ (allB_reverse r hr)]
    have hlast : blank ((x :: t).getLast (by simp)) = false := by
      have := hx.2
      rw [List.getLast_eq_getElem]
      simpa [List.getD] using this
    have hrev : (x :: t).reverse = (x :: t).getLast (by simp) :: ((x :: t).dropLast).reverse := by
      conv => lhs; rw [← List.dropLast_concat_getLast (l := x :: t) (by simp)]
      rw [List.reverse_append]; rfl
    rw [hrev, drop_stop _ _ hlast, ← hrev, List.reverse_reverse]
theorem IsTrim.unique {zs a b : List Int} (h : IsTrim zs a) (k : IsTrim zs b) : a = b := h.eq.trans k.eq.symm
theorem IsTrim.self {rs : List Int} (h : ends rs) : IsTrim rs rs := ⟨[], [], by simp, rfl, rfl, h⟩
theorem IsTrim.ends {zs rs : List Int} (h : IsTrim zs rs) : ends rs := by obtain ⟨_, _, _, _, _, h⟩ := h; exact h

/-- What the two loops leave. -/
theorem isTrim_of (zs : List Int) (k m : Nat) (hl : allB (zs.take k) = true) (hr : allB (zs.drop (k + m)) = true) (he : ends ((zs.drop k).take m)) : IsTrim zs ((zs.drop k).take m) := by
  refine ⟨zs.take k, zs.drop (k + m), ?_, hl, hr, he⟩
  rw [← List.drop_drop, List.take_append_drop, List.take_append_drop]

theorem allB_take_succ (zs : List Int) (k : Nat) (h : k < zs.length) (ha : allB (zs.take k) = true) (hx : blank (zs.getD k 0) = true) : allB (zs.take (k + 1)) = true := by
  rw [List.take_succ_eq_append_getElem h]
  unfold allB at ha ⊢
  rw [List.all_append, ha]
  simpa [List.getD, h] using hx
theorem allB_drop (zs : List Int) (k : Nat) (h : k < zs.length) (ha : allB (zs.drop (k + 1)) = true) (hx : blank (zs.getD k 0) = true) : allB (zs.drop k) = true := by
  rw [List.drop_eq_getElem_cons h]
  unfold allB at ha ⊢
  rw [List.all_cons, ha]
  simpa [List.getD, h] using hx
end Go.Proofs.Qxb6617070a.Trim
