/-
  The law FnTrimSpaceIgnoresBlankPadding: the walk.
-/
import Derived.Test.Qxb6617070aSame
import Derived.Test.Qxb6617070aPads
namespace Go.Proofs.Qxb6617070a
open Go.RowKit
set_option linter.unusedSimpArgs false
set_option linter.unusedVariables false

/-- zzBytes: three short lengths. -/
theorem bytes22_ok (a0 a1 a2 : Option Addr) (n0 c0 n1 c1 n2 c2 : Nat) (w : World) (l0 : n0 ≤ 65536) (l1 : n1 ≤ 65536) (l2 : n2 ≤ 65536) :
    Calls Try.prog 22 #[.slice a0 n0 c0, .slice a1 n1 c1, .slice a2 n2 c2] w fun e w' => e = .returned (.bool true) ∧ w' = w := by
  go_enter Try.func22, Try.ntmps22
  go_wp2
  go_ret
  exact ⟨rfl, rfl⟩

/-- zzBytes at whatever lengths. -/
theorem bytes22_any (a0 a1 a2 : Option Addr) (n0 c0 n1 c1 n2 c2 : Nat) (w : World) (l0 : n0 ≤ 9223372036854775807) (l1 : n1 ≤ 9223372036854775807) (l2 : n2 ≤ 9223372036854775807) :
    Calls Try.prog 22 #[.slice a0 n0 c0, .slice a1 n1 c1, .slice a2 n2 c2] w fun e w' => (∃ b, e = .returned (.bool b)) ∧ w' = w := by
  go_enter Try.func22, Try.ntmps22
  go_wp2
  all_goals
    go_ret
    exact ⟨⟨_, rfl⟩, rfl⟩

theorem lawC_great (a0 a1 a2 : Option Addr) (n0 c0 n1 c1 n2 c2 : Nat) (w : World) (l0 : n0 ≤ maxLen) (l1 : n1 ≤ maxLen) (l2 : n2 ≤ maxLen) (h : 65536 < n0 ∨ 65536 < n1 ∨ 65536 < n2) :
    Calls Try.prog 7 #[.slice a0 n0 c0, .slice a1 n1 c1, .slice a2 n2 c2] w fun e w' => e = .returned (.bool true) ∧ Below w.heap.size w w' := by
  unfold maxLen at l0 l1 l2
  go_enter Try.func7, Try.ntmps7
  go_wp2_with fail
  refine (bytes22_any a0 a1 a2 n0 c0 n1 c1 n2 c2 _ l0 l1 l2).mono ?_
  rintro e w' ⟨⟨b, rfl⟩, rfl⟩
  cases b
  · go_wp2_with fail
    go_ret
    exact ⟨rfl, Below.refl _ _⟩
  · by_cases h0 : 65536 < n0
    · go_wp2_with fail
      go_ret
      exact ⟨rfl, Below.refl _ _⟩
    · have d0 : decide ((65536 : Int) < (n0 : Int)) = false := decide_eq_false (by omega)
      by_cases h1 : 65536 < n1
      · clear h0 h
        go_wp2_with fail
        go_ret
        exact ⟨rfl, Below.refl _ _⟩
      · have d1 : decide ((65536 : Int) < (n1 : Int)) = false := decide_eq_false (by omega)
        have h2 : 65536 < n2 := by omega
        clear h0 h1 h
        go_wp2_with fail
        go_ret
        exact ⟨rfl, Below.refl _ _⟩

section
variable (a0 a1 a2 : Option Addr) (n0 c0 n1 c1 n2 c2 : Nat) (z0 z1 z2 : List Int) (w : World) (s0 : Sl w a0 n0 c0 z0) (s1 : Sl w a1 n1 c1 z1) (s2 : Sl w a2 n2 c2 z2)
  (l0 : n0 ≤ 65536) (l1 : n1 ≤ 65536) (l2 : n2 ≤ 65536)

theorem lawC_left (h : Trim.allB z0 = false) (s0 : Sl w a0 n0 c0 z0) (l0 : n0 ≤ 65536) (l1 : n1 ≤ 65536) (l2 : n2 ≤ 65536) :
    Calls Try.prog 7 #[.slice a0 n0 c0, .slice a1 n1 c1, .slice a2 n2 c2] w fun e w' => e = .returned (.bool true) ∧ Below w.heap.size w w' := by
  have S0 := hide s0
  have H := hide h
  have d0 : decide ((65536 : Int) < (n0 : Int)) = false := decide_eq_false (by omega)
  have d1 : decide ((65536 : Int) < (n1 : Int)) = false := decide_eq_false (by omega)
  clear s0 h
  go_enter Try.func7, Try.ntmps7
  go_wp2_with fail
  refine (bytes22_ok a0 a1 a2 n0 c0 n1 c1 n2 c2 _ l0 l1 l2).mono ?_
  rintro e w' ⟨rfl, rfl⟩
  go_wp2_with fail
  refine (zzAllBlank_any a0 n0 c0 z0 _ S0.out).mono ?_
  rw [H.out]
  rintro e w' ⟨rfl, rfl⟩
  go_wp2_with fail
  go_ret
  exact ⟨rfl, Below.refl _ _⟩

theorem lawC_right (h0 : Trim.allB z0 = true) (h : Trim.allB z2 = false) (s0 : Sl w a0 n0 c0 z0) (s2 : Sl w a2 n2 c2 z2) (l0 : n0 ≤ 65536) (l1 : n1 ≤ 65536) (l2 : n2 ≤ 65536) :
    Calls Try.prog 7 #[.slice a0 n0 c0, .slice a1 n1 c1, .slice a2 n2 c2] w fun e w' => e = .returned (.bool true) ∧ Below w.heap.size w w' := by
  have S0 := hide s0
  have S2 := hide s2
  have H0 := hide h0
  have H := hide h
  have d0 : decide ((65536 : Int) < (n0 : Int)) = false := decide_eq_false (by omega)
  have d1 : decide ((65536 : Int) < (n1 : Int)) = false := decide_eq_false (by omega)
  clear s0 s2 h h0
  go_enter Try.func7, Try.ntmps7
  go_wp2_with fail
  refine (bytes22_ok a0 a1 a2 n0 c0 n1 c1 n2 c2 _ l0 l1 l2).mono ?_
  rintro e w' ⟨rfl, rfl⟩
  go_wp2_with fail
  refine (zzAllBlank_any a0 n0 c0 z0 _ S0.out).mono ?_
  rw [H0.out]
  rintro e w' ⟨rfl, rfl⟩
  go_wp2_with fail
  refine (zzAllBlank_any a2 n2 c2 z2 _ S2.out).mono ?_
  rw [H.out]
  rintro e w' ⟨rfl, rfl⟩
  go_wp2_with fail
  go_ret
  exact ⟨rfl, Below.refl _ _⟩

theorem lawC_ends (h0 : Trim.allB z0 = true) (h2 : Trim.allB z2 = true) (s0 : Sl w a0 n0 c0 z0) (s1 : Sl w a1 n1 c1 z1) (s2 : Sl w a2 n2 c2 z2) (l0 : n0 ≤ 65536) (l1 : n1 ≤ 65536) (l2 : n2 ≤ 65536) (h : ¬ Trim.ends z1) :
    Calls Try.prog 7 #[.slice a0 n0 c0, .slice a1 n1 c1, .slice a2 n2 c2] w fun e w' => e = .returned (.bool true) ∧ Below w.heap.size w w' := by
  have hp : 0 < n1 := by
    rcases Nat.eq_zero_or_pos n1 with e | e
    · exact absurd (fun hz => absurd hz (by rw [s1.len]; omega)) h
    · exact e
  have S0 := hide s0
  have S2 := hide s2
  have H0 := hide h0
  have H2 := hide h2
  have d0 : decide ((65536 : Int) < (n0 : Int)) = false := decide_eq_false (by omega)
  have d1 : decide ((65536 : Int) < (n1 : Int)) = false := decide_eq_false (by omega)
  obtain ⟨b1, off1, ha1, hc1⟩ := s1.cell hp
  subst ha1
  have hcf := hc1 0 (by omega)
  have hcl := hc1 (n1 - 1) (by omega)
  have hor : Trim.blank (z1.getD 0 0) = true ∨ (Trim.blank (z1.getD 0 0) = false ∧ Trim.blank (z1.getD (n1 - 1) 0) = true) := by
    cases e0 : Trim.blank (z1.getD 0 0)
    · cases e1 : Trim.blank (z1.getD (n1 - 1) 0)
      · exact absurd (fun _ => ⟨e0, by rw [s1.len]; exact e1⟩) h
      · exact .inr ⟨rfl, rfl⟩
    · exact .inl rfl
  obtain ⟨y0, hy0⟩ : ∃ y, y = z1.getD 0 0 := ⟨_, rfl⟩
  obtain ⟨y1, hy1⟩ : ∃ y, y = z1.getD (n1 - 1) 0 := ⟨_, rfl⟩
  rw [← hy0, ← hy1] at hor
  rw [← hy0] at hcf
  rw [← hy1] at hcl
  simp only [Nat.add_zero] at hcf
  clear s0 s2 h h0 h2 s1 hc1 hy0 hy1
  rcases hor with hb | ⟨hb, hb1⟩
  · go_enter Try.func7, Try.ntmps7
    go_wp2_with fail
    refine (bytes22_ok a0 _ a2 n0 c0 n1 c1 n2 c2 _ l0 l1 l2).mono ?_
    rintro e w' ⟨rfl, rfl⟩
    go_wp2_with fail
    refine (zzAllBlank_any a0 n0 c0 z0 _ S0.out).mono ?_
    rw [H0.out]
    rintro e w' ⟨rfl, rfl⟩
    go_wp2_with fail
    refine (zzAllBlank_any a2 n2 c2 z2 _ S2.out).mono ?_
    rw [H2.out]
    rintro e w' ⟨rfl, rfl⟩
    go_wp2_with (go_at_call 20; refine (zzBlank_any _ _).mono ?_; rintro e w4 ⟨rfl, rfl⟩)
    go_ret
    exact ⟨rfl, Below.refl _ _⟩
  · go_enter Try.func7, Try.ntmps7
    go_wp2_with fail
    refine (bytes22_ok a0 _ a2 n0 c0 n1 c1 n2 c2 _ l0 l1 l2).mono ?_
    rintro e w' ⟨rfl, rfl⟩
    go_wp2_with fail
    refine (zzAllBlank_any a0 n0 c0 z0 _ S0.out).mono ?_
    rw [H0.out]
    rintro e w' ⟨rfl, rfl⟩
    go_wp2_with fail
    refine (zzAllBlank_any a2 n2 c2 z2 _ S2.out).mono ?_
    rw [H2.out]
    rintro e w' ⟨rfl, rfl⟩
    go_wp2_with (go_at_call 20; refine (zzBlank_any _ _).mono ?_; rintro e w4 ⟨rfl, rfl⟩)
    go_ret
    exact ⟨rfl, Below.refl _ _⟩
end

/-- The rest of the law: left and right are blank, core's ends are not. Core is nil. -/
theorem isTrim_pad (z0 z1 z2 : List Int) (h0 : Trim.allB z0 = true) (h2 : Trim.allB z2 = true) (he : Trim.ends z1) : Trim.IsTrim (z0 ++ (z1 ++ z2)) z1 := ⟨z0, z2, rfl, h0, h2, he⟩

/-- An append whose run is known. -/
theorem wpList_app {P : Program} {w : World} {ops : Array Oper} {rest : List Oper} {o : Oper} {a : Act} {Q : Exit → Act → World → Prop} (hgd : o.guard = none) (d s : Operand) (t : TypeId)
    (ho : o.op = .call { callee := .builtin .append, args := #[d, s], argTypes := #[t, t] }) (vd vs v : Value) (w' : World) (hd : a.eval d = vd) (hs : a.eval s = vs)
    (hrun : (Builtin.append_ #[t, t] o.type #[vd, vs]).run P w = .ok v w') (h : wpList P ops Q rest (a.put o.dst v) w') : wpList P ops Q (o :: rest) a w := by
  refine wpList_plain hgd fun K hK => ?_
  unfold Oper.wp
  simp [execOp, ho, resolve, invoke, builtin, hd, hs, hrun, Result.andThen]
  exact hK _ _ h

set_option maxHeartbeats 1600000 in
theorem lawC_nil (a0 a2 : Option Addr) (n0 c0 n1 c1 n2 c2 : Nat) (z0 z1 z2 : List Int) (w : World) (s0 : Sl w a0 n0 c0 z0) (s1 : Sl w none n1 c1 z1) (s2 : Sl w a2 n2 c2 z2)
    (e0 : a0 = none → n0 = 0 ∧ c0 = 0) (e1 : n1 = 0 ∧ c1 = 0) (e2 : a2 = none → n2 = 0 ∧ c2 = 0) (l0 : n0 ≤ 65536) (l1 : n1 ≤ 65536) (l2 : n2 ≤ 65536) (h0 : Trim.allB z0 = true) (h2 : Trim.allB z2 = true) (he : Trim.ends z1) :
    Calls Try.prog 7 #[.slice a0 n0 c0, .slice none n1 c1, .slice a2 n2 c2] w fun e w' => e = .returned (.bool true) ∧ Below w.heap.size w w' := by
  have S0 := hide s0
  have S2 := hide s2
  have H0 := hide h0
  have H2 := hide h2
  have EN := hide he
  have PT := hide (isTrim_pad z0 z1 z2 h0 h2 he)
  have d0 : decide ((65536 : Int) < (n0 : Int)) = false := decide_eq_false (by omega)
  have d1 : decide ((65536 : Int) < (n1 : Int)) = false := decide_eq_false (by omega)
  have d3 : decide (0 < n1) = false := decide_eq_false (by omega)
  have hnn := fun w => run_neq_slice_nil_any (P := Try.prog) w 22 5 none n1 c1 0 0 Try.underlying22
  obtain ⟨w3, w4, w5, w6, q3, q4, q5, q6, sp, hb⟩ := pads s0 s1 s2 e0 (fun _ => e1) e2 l0 l1 l2
  have SP := hide sp
  have SC := hide (s1.below hb (Nat.le_refl _))
  have HB := hide hb
  have Q4 := hide q4
  have Q5 := hide q5
  have Q6 := hide q6
  clear q4 q5 q6
  clear s0 s1 s2 h0 h2 he e0 e1 e2 sp hb
  go_enter Try.func7, Try.ntmps7
  go_wp2_with fail
  refine (bytes22_ok a0 _ a2 n0 c0 n1 c1 n2 c2 _ l0 l1 l2).mono ?_
  rintro e w' ⟨rfl, rfl⟩
  go_wp2_with fail
  refine (zzAllBlank_any a0 n0 c0 z0 _ S0.out).mono ?_
  rw [H0.out]
  rintro e w' ⟨rfl, rfl⟩
  go_wp2_with fail
  refine (zzAllBlank_any a2 n2 c2 z2 _ S2.out).mono ?_
  rw [H2.out]
  rintro e w' ⟨rfl, rfl⟩
  go_wp2_with (first | (at_builtin; refine wpList_app rfl (.tmp 73) (.tmp 74) 22 rfl _ _ _ _ rfl rfl Q4.out ?_) | (at_builtin; refine wpList_app rfl (.tmp 76) (.tmp 77) 22 rfl _ _ _ _ rfl rfl Q5.out ?_) | (at_builtin; refine wpList_app rfl (.tmp 79) (.tmp 80) 22 rfl _ _ _ _ rfl rfl Q6.out ?_) | (go_at_call 20; refine (zzBlank_any _ _).mono ?_; rintro e w4 ⟨rfl, rfl⟩))
  refine (zztrim_any _ _ _ (z0 ++ (z1 ++ z2)) _ SP.out).mono ?_
  rintro e w' ⟨⟨a3, m3, c3, rs, rfl, s3, t3⟩, rfl⟩
  obtain rfl : rs = z1 := t3.unique PT.out
  obtain rfl : m3 = n1 := s3.len.symm.trans SC.out.len
  have S3 := hide s3
  clear s3 t3
  go_wp2_with fail
  refine (zztrim_any _ _ _ rs _ SC.out).mono ?_
  rintro e w' ⟨⟨a4, m4, c4, rs', rfl, s4, t4⟩, rfl⟩
  obtain rfl : rs' = rs := t4.unique (Trim.IsTrim.self EN.out)
  obtain rfl : m4 = m3 := s4.len.symm.trans SC.out.len
  have S4 := hide s4
  clear s4 t4
  have hsame : Trim.sameB rs' rs' = true := decide_eq_true rfl
  have HSAME := hide hsame
  clear hsame
  go_wp2_with fail
  refine (same_any _ _ _ _ _ _ rs' rs' _ S3.out SC.out).mono ?_
  rw [HSAME.out]
  rintro e w3 ⟨rfl, q, rfl⟩
  go_wp2_with fail
  refine (same_any _ _ _ _ _ _ rs' rs' _ (S4.out.drewN _) (SC.out.drewN _)).mono ?_
  rw [HSAME.out]
  rintro e w3 ⟨rfl, q', rfl⟩
  go_wp2_with fail
  go_ret
  exact ⟨rfl, below_drewN HB.out _⟩

set_option maxHeartbeats 3200000 in
theorem lawC_row (a0 a2 : Option Addr) (x : Addr) (n0 c0 n1 c1 n2 c2 : Nat) (z0 z1 z2 : List Int) (w : World) (s0 : Sl w a0 n0 c0 z0) (s1 : Sl w (some x) n1 c1 z1) (s2 : Sl w a2 n2 c2 z2)
    (e0 : a0 = none → n0 = 0 ∧ c0 = 0) (e2 : a2 = none → n2 = 0 ∧ c2 = 0) (l0 : n0 ≤ 65536) (l1 : n1 ≤ 65536) (l2 : n2 ≤ 65536) (h0 : Trim.allB z0 = true) (h2 : Trim.allB z2 = true) (he : Trim.ends z1) :
    Calls Try.prog 7 #[.slice a0 n0 c0, .slice (some x) n1 c1, .slice a2 n2 c2] w fun e w' => e = .returned (.bool true) ∧ Below w.heap.size w w' := by
  have S0 := hide s0
  have S2 := hide s2
  have H0 := hide h0
  have H2 := hide h2
  have EN := hide he
  have PT := hide (isTrim_pad z0 z1 z2 h0 h2 he)
  have d0 : decide ((65536 : Int) < (n0 : Int)) = false := decide_eq_false (by omega)
  have d1 : decide ((65536 : Int) < (n1 : Int)) = false := decide_eq_false (by omega)
  have hnn := fun w => run_neq_slice_nil_any (P := Try.prog) w 22 5 (some x) n1 c1 0 0 Try.underlying22
  have hmk := made n1 l1
  obtain ⟨w2, hcp, sc, hbel⟩ := copied x n1 c1 z1 w l1 s1.len s1.byte (fun i hi => by
    obtain ⟨b, off, e, hc⟩ := s1.cell (by omega)
    obtain rfl := Option.some.inj e
    rw [Addr.add_lit]; exact hc i hi)
  obtain ⟨w3, w4, w5, w6, q3, q4, q5, q6, sp, hb⟩ := pads (s0.below hbel (Nat.le_refl _)) sc (s2.below hbel (Nat.le_refl _)) e0 (fun e => by cases e) e2 l0 l1 l2
  have SP := hide sp
  have SC := hide (sc.below hb (Nat.le_refl _))
  have HB := hide (hbel.trans (hb.mono hbel.size))
  have Q4 := hide q4
  have Q5 := hide q5
  have Q6 := hide q6
  clear q4 q5 q6
  by_cases hn1 : n1 = 0
  · have d3 : decide (0 < n1) = false := decide_eq_false (by omega)
    clear s0 s1 s2 h0 h2 he e0 e2 sp hb hbel sc hn1
    go_enter Try.func7, Try.ntmps7
    go_wp2_with fail
    refine (bytes22_ok a0 _ a2 n0 c0 n1 c1 n2 c2 _ l0 l1 l2).mono ?_
    rintro e w' ⟨rfl, rfl⟩
    go_wp2_with fail
    refine (zzAllBlank_any a0 n0 c0 z0 _ S0.out).mono ?_
    rw [H0.out]
    rintro e w' ⟨rfl, rfl⟩
    go_wp2_with fail
    refine (zzAllBlank_any a2 n2 c2 z2 _ S2.out).mono ?_
    rw [H2.out]
    rintro e w' ⟨rfl, rfl⟩
    go_wp2_with (first | (at_builtin; refine wpList_app rfl (.tmp 73) (.tmp 74) 22 rfl _ _ _ _ rfl rfl Q4.out ?_) | (at_builtin; refine wpList_app rfl (.tmp 76) (.tmp 77) 22 rfl _ _ _ _ rfl rfl Q5.out ?_) | (at_builtin; refine wpList_app rfl (.tmp 79) (.tmp 80) 22 rfl _ _ _ _ rfl rfl Q6.out ?_) | (go_at_call 20; refine (zzBlank_any _ _).mono ?_; rintro e w4 ⟨rfl, rfl⟩))
    refine (zztrim_any _ _ _ (z0 ++ (z1 ++ z2)) _ SP.out).mono ?_
    rintro e w' ⟨⟨a3, m3, c3, rs, rfl, s3, t3⟩, rfl⟩
    obtain rfl : rs = z1 := t3.unique PT.out
    obtain rfl : m3 = n1 := s3.len.symm.trans SC.out.len
    have S3 := hide s3
    clear s3 t3
    go_wp2_with fail
    refine (zztrim_any _ _ _ rs _ SC.out).mono ?_
    rintro e w' ⟨⟨a4, m4, c4, rs', rfl, s4, t4⟩, rfl⟩
    obtain rfl : rs' = rs := t4.unique (Trim.IsTrim.self EN.out)
    obtain rfl : m4 = m3 := s4.len.symm.trans SC.out.len
    have S4 := hide s4
    clear s4 t4
    have hsame : Trim.sameB rs' rs' = true := decide_eq_true rfl
    have HSAME := hide hsame
    clear hsame
    go_wp2_with fail
    refine (same_any _ _ _ _ _ _ rs' rs' _ S3.out SC.out).mono ?_
    rw [HSAME.out]
    rintro e w3 ⟨rfl, q, rfl⟩
    go_wp2_with fail
    refine (same_any _ _ _ _ _ _ rs' rs' _ (S4.out.drewN _) (SC.out.drewN _)).mono ?_
    rw [HSAME.out]
    rintro e w3 ⟨rfl, q', rfl⟩
    go_wp2_with fail
    go_ret
    exact ⟨rfl, below_drewN HB.out _⟩
  · have hp : 0 < n1 := by omega
    have hen := he (by rw [s1.len]; omega)
    rw [s1.len] at hen
    obtain ⟨b1, off1, ha1, hc1⟩ := s1.cell hp
    obtain rfl := Option.some.inj ha1
    have hcf := hc1 0 (by omega)
    have hcl := hc1 (n1 - 1) (by omega)
    obtain ⟨y0, hy0⟩ : ∃ y, y = z1.getD 0 0 := ⟨_, rfl⟩
    obtain ⟨y1, hy1⟩ : ∃ y, y = z1.getD (n1 - 1) 0 := ⟨_, rfl⟩
    rw [← hy0] at hcf hen
    rw [← hy1] at hcl hen
    obtain ⟨hb0, hb1⟩ := hen
    simp only [Nat.add_zero] at hcf
    clear s0 s1 s2 h0 h2 he e0 e2 sp hb hbel sc hn1 hc1 hy0 hy1 ha1
    go_enter Try.func7, Try.ntmps7
    go_wp2_with fail
    refine (bytes22_ok a0 _ a2 n0 c0 n1 c1 n2 c2 _ l0 l1 l2).mono ?_
    rintro e w' ⟨rfl, rfl⟩
    go_wp2_with fail
    refine (zzAllBlank_any a0 n0 c0 z0 _ S0.out).mono ?_
    rw [H0.out]
    rintro e w' ⟨rfl, rfl⟩
    go_wp2_with fail
    refine (zzAllBlank_any a2 n2 c2 z2 _ S2.out).mono ?_
    rw [H2.out]
    rintro e w' ⟨rfl, rfl⟩
    go_wp2_with (first | (at_builtin; refine wpList_app rfl (.tmp 73) (.tmp 74) 22 rfl _ _ _ _ rfl rfl Q4.out ?_) | (at_builtin; refine wpList_app rfl (.tmp 76) (.tmp 77) 22 rfl _ _ _ _ rfl rfl Q5.out ?_) | (at_builtin; refine wpList_app rfl (.tmp 79) (.tmp 80) 22 rfl _ _ _ _ rfl rfl Q6.out ?_) | (go_at_call 20; refine (zzBlank_any _ _).mono ?_; rintro e w4 ⟨rfl, rfl⟩))
    refine (zztrim_any _ _ _ (z0 ++ (z1 ++ z2)) _ SP.out).mono ?_
    rintro e w' ⟨⟨a3, m3, c3, rs, rfl, s3, t3⟩, rfl⟩
    obtain rfl : rs = z1 := t3.unique PT.out
    obtain rfl : m3 = n1 := s3.len.symm.trans SC.out.len
    have S3 := hide s3
    clear s3 t3
    go_wp2_with fail
    refine (zztrim_any _ _ _ rs _ SC.out).mono ?_
    rintro e w' ⟨⟨a4, m4, c4, rs', rfl, s4, t4⟩, rfl⟩
    obtain rfl : rs' = rs := t4.unique (Trim.IsTrim.self EN.out)
    obtain rfl : m4 = m3 := s4.len.symm.trans SC.out.len
    have S4 := hide s4
    clear s4 t4
    have hsame : Trim.sameB rs' rs' = true := decide_eq_true rfl
    have HSAME := hide hsame
    clear hsame
    go_wp2_with fail
    refine (same_any _ _ _ _ _ _ rs' rs' _ S3.out SC.out).mono ?_
    rw [HSAME.out]
    rintro e w3 ⟨rfl, q, rfl⟩
    go_wp2_with fail
    refine (same_any _ _ _ _ _ _ rs' rs' _ (S4.out.drewN _) (SC.out.drewN _)).mono ?_
    rw [HSAME.out]
    rintro e w3 ⟨rfl, q', rfl⟩
    go_wp2_with fail
    go_ret
    exact ⟨rfl, below_drewN HB.out _⟩

/-- A row that came in, as Sl. -/
theorem Sl.of_row {w : World} {x : Addr} {len cap : Nat} {zs : List Int} (hl : len ≤ cap) (hz : zs.length = cap) (hcell : ∀ i, i < zs.length → w.cell? (x.add i) = some (.int .u8 (zs.getD i 0))) (hwz : ∀ n ∈ zs, (Lit.int .u8 n).wf = true) (hf : len ≤ 65536) :
    Sl w (some x) len cap (zs.take len) := by
  obtain ⟨h1, h2, h3⟩ := row_parts hl hz hcell hwz
  refine ⟨h1, hl, by omega, h2, fun hn => ?_⟩
  obtain ⟨b, off, spot⟩ := x
  have hspot : spot = none := by simpa [Addr.add] using World.cell?_spot (h3 0 hn)
  subst hspot
  exact ⟨b, off, rfl, fun i hi => by have := h3 i hi; rwa [Addr.add_lit] at this⟩
theorem Sl.nil (w : World) : Sl w none 0 0 [] := ⟨rfl, Nat.le_refl _, by omega, fun i h => absurd h (by omega), fun h => absurd h (by omega)⟩

/-- The law at three slices that read. -/
theorem lawC_any (a0 a1 a2 : Option Addr) (n0 c0 n1 c1 n2 c2 : Nat) (z0 z1 z2 : List Int) (w : World) (s0 : Sl w a0 n0 c0 z0) (s1 : Sl w a1 n1 c1 z1) (s2 : Sl w a2 n2 c2 z2)
    (e0 : a0 = none → n0 = 0 ∧ c0 = 0) (e1 : a1 = none → n1 = 0 ∧ c1 = 0) (e2 : a2 = none → n2 = 0 ∧ c2 = 0) (l0 : n0 ≤ 65536) (l1 : n1 ≤ 65536) (l2 : n2 ≤ 65536) :
    Calls Try.prog 7 #[.slice a0 n0 c0, .slice a1 n1 c1, .slice a2 n2 c2] w fun e w' => e = .returned (.bool true) ∧ Below w.heap.size w w' := by
  cases h0 : Trim.allB z0
  · exact lawC_left a0 a1 a2 n0 c0 n1 c1 n2 c2 z0 w h0 s0 l0 l1 l2
  · cases h2 : Trim.allB z2
    · exact lawC_right a0 a1 a2 n0 c0 n1 c1 n2 c2 z0 z2 w h0 h2 s0 s2 l0 l1 l2
    · by_cases he : Trim.ends z1
      · cases a1 with
        | none => exact lawC_nil a0 a2 n0 c0 n1 c1 n2 c2 z0 z1 z2 w s0 s1 s2 e0 (e1 rfl) e2 l0 l1 l2 h0 h2 he
        | some x => exact lawC_row a0 a2 x n0 c0 n1 c1 n2 c2 z0 z1 z2 w s0 s1 s2 e0 e2 l0 l1 l2 h0 h2 he
      · exact lawC_ends a0 a1 a2 n0 c0 n1 c1 n2 c2 z0 z1 z2 w h0 h2 s0 s1 s2 l0 l1 l2 he
end Go.Proofs.Qxb6617070a
