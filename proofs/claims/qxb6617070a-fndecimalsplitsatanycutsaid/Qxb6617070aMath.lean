/-
  Plain mathematics for the laws over decimal: no Go in sight.
-/
namespace Go.Proofs.Qxb6617070a.Dec

/-- What a row of digit bytes says in decimal, from the left. -/
def val (zs : List Int) : Int := zs.foldl (fun n d => 10 * n + (d - 48)) 0
def dig (x : Int) : Prop := 48 ≤ x ∧ x ≤ 57
def digB (x : Int) : Bool := decide (48 ≤ x ∧ x ≤ 57)
def digs (zs : List Int) : Prop := ∀ x ∈ zs, 48 ≤ x ∧ x ≤ 57

theorem val_nil : val [] = 0 := rfl
theorem val_snoc (zs : List Int) (d : Int) : val (zs ++ [d]) = 10 * val zs + (d - 48) := by
  unfold val; rw [List.foldl_append]; rfl
theorem fold_acc (zs : List Int) : ∀ acc : Int, zs.foldl (fun n d => 10 * n + (d - 48)) acc = acc * 10 ^ zs.length + val zs := by
  induction zs with
  | nil => intro acc; simp [val]
  | cons d t ih =>
    intro acc
    rw [List.foldl_cons, ih]
    have e : val (d :: t) = (10 * 0 + (d - 48)) * 10 ^ t.length + val t := by
      show List.foldl _ _ t = _
      rw [ih]
    rw [e, List.length_cons, Int.pow_succ, Int.add_mul]
    have f : acc * (10 ^ t.length * 10) = 10 * acc * 10 ^ t.length := by
      rw [← Int.mul_assoc, Int.mul_comm (acc * 10 ^ t.length) 10, Int.mul_assoc]
    rw [f]; simp; omega
theorem val_cons (d : Int) (t : List Int) : val (d :: t) = (d - 48) * 10 ^ t.length + val t := by
  have h := fold_acc t (10 * 0 + (d - 48))
  have e : val (d :: t) = List.foldl (fun n d => 10 * n + (d - 48)) (10 * 0 + (d - 48)) t := rfl
  rw [e, h]; simp
theorem val_append (a b : List Int) : val (a ++ b) = val a * 10 ^ b.length + val b := by
  unfold val; rw [List.foldl_append, fold_acc]; rfl

theorem pow_pos' (k : Nat) : (0 : Int) < 10 ^ k := Int.pow_pos (by omega)

theorem val_bd (zs : List Int) (h : digs zs) : 0 ≤ val zs ∧ val zs < 10 ^ zs.length := by
  induction zs with
  | nil => simp [val]
  | cons d t ih =>
    have hd := h d (by simp)
    have ht := ih (fun x hx => h x (by simp [hx]))
    rw [val_cons, List.length_cons, Int.pow_succ]
    have hp := pow_pos' t.length
    have h1 : 0 ≤ (d - 48) * 10 ^ t.length := Int.mul_nonneg (by omega) (by omega)
    have h2 : (d - 48) * 10 ^ t.length ≤ 9 * 10 ^ t.length := Int.mul_le_mul_of_nonneg_right (by omega) (by omega)
    omega

theorem pow_le (a b : Nat) (h : a ≤ b) : (10 : Int) ^ a ≤ 10 ^ b := by
  obtain ⟨c, rfl⟩ := Nat.le.dest h
  rw [Int.pow_add]
  have h1 := pow_pos' a
  have h2 := pow_pos' c
  have : (10 : Int) ^ a * 1 ≤ 10 ^ a * 10 ^ c := Int.mul_le_mul_of_nonneg_left (by omega) (by omega)
  omega

/-- Does decimal accept these bytes? -/
def okB (zs : List Int) : Bool := decide (1 ≤ zs.length ∧ zs.length ≤ 18) && zs.all digB
/-- The number that decimal answers. -/
def num (zs : List Int) : Int := if okB zs then val zs else 0

theorem all_digB (zs : List Int) : zs.all digB = true ↔ digs zs := by
  simp [List.all_eq_true, digB, digs]
theorem ok_of (zs : List Int) (h1 : 1 ≤ zs.length) (h2 : zs.length ≤ 18) (h : digs zs) : okB zs = true := by
  unfold okB; rw [(all_digB zs).2 h]; simp [h1, h2]
theorem no_of_len (zs : List Int) (h : zs.length < 1 ∨ 18 < zs.length) : okB zs = false := by
  unfold okB
  have : decide (1 ≤ zs.length ∧ zs.length ≤ 18) = false := decide_eq_false (by omega)
  rw [this]; rfl
theorem no_of_bad (zs : List Int) (k : Nat) (hk : k < zs.length) (h : ¬ (48 ≤ zs.getD k 0 ∧ zs.getD k 0 ≤ 57)) : okB zs = false := by
  unfold okB
  have : zs.all digB = false := by
    rw [Bool.eq_false_iff]
    intro e
    have := (all_digB zs).1 e (zs.getD k 0) (by simp [List.getD, hk])
    exact h this
  rw [this]; simp
theorem num_no (zs : List Int) (h : okB zs = false) : num zs = 0 := by unfold num; simp [h]
theorem num_ok (zs : List Int) (h : okB zs = true) : num zs = val zs := by unfold num; simp [h]
theorem ok_parts (zs : List Int) (h : okB zs = true) : 1 ≤ zs.length ∧ zs.length ≤ 18 ∧ digs zs := by
  unfold okB at h
  simp only [Bool.and_eq_true, decide_eq_true_eq] at h
  exact ⟨h.1.1, h.1.2, (all_digB zs).1 h.2⟩

theorem take_snoc (zs : List Int) (k : Nat) (h : k < zs.length) : zs.take (k + 1) = zs.take k ++ [zs.getD k 0] := by
  rw [List.take_succ_eq_append_getElem h]; simp [List.getD, h]
theorem drop_cons (zs : List Int) (k : Nat) (h : k < zs.length) : zs.drop k = zs.getD k 0 :: zs.drop (k + 1) := by
  rw [List.drop_eq_getElem_cons h]; simp [List.getD, h]
theorem digs_take_succ (zs : List Int) (k : Nat) (h : k < zs.length) (hd : digs (zs.take k)) (hx : 48 ≤ zs.getD k 0 ∧ zs.getD k 0 ≤ 57) : digs (zs.take (k + 1)) := by
  rw [take_snoc zs k h]
  intro x hm
  rcases List.mem_append.1 hm with hm | hm
  · exact hd x hm
  · simp at hm; subst hm; simpa using hx
theorem digs_drop (zs : List Int) (k : Nat) (h : k < zs.length) (hd : digs (zs.drop (k + 1))) (hx : 48 ≤ zs.getD k 0 ∧ zs.getD k 0 ≤ 57) : digs (zs.drop k) := by
  rw [drop_cons zs k h]
  intro x hm
  rcases List.mem_cons.1 hm with hm | hm
  · subst hm; exact hx
  · exact hd x hm
end Go.Proofs.Qxb6617070a.Dec
