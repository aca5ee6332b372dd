import Derived.Test.Qxb6606399aDoorPlainC
namespace Go.Proofs.Qxb6606399aDoor

theorem val_zeros (k : Nat) : valN (List.replicate k 48) = 0 := by
  induction k with
  | zero => rfl
  | succ k ih => rw [List.replicate_succ, valN_cons, ih]; simp
theorem val_nines (k : Nat) : valN (List.replicate k 57) + 1 = 10 ^ k := by
  induction k with
  | zero => rfl
  | succ k ih =>
    rw [List.replicate_succ, valN_cons, List.length_replicate, Nat.pow_succ]
    have : (57 : UInt8).toNat - 48 = 9 := rfl
    rw [this]
    omega
theorem val_tL (l : List UInt8) : valN (tL l) = valN l := by
  obtain ⟨k, e, _⟩ := tL_split l
  conv => rhs; rw [e]
  rw [valN_app, val_zeros]
  omega
theorem zeros_dig (k : Nat) : AllDig (List.replicate k 48) := fun x hx => by rw [(List.mem_replicate.1 hx).2]; rfl
theorem nines_dig (k : Nat) : AllDig (List.replicate k 57) := fun x hx => by rw [(List.mem_replicate.1 hx).2]; rfl
/-- The low part, padded. -/
theorem pad_facts (low : Nat) (h : low < 10 ^ 18) : ∃ P, Lib.decDigits (low + 10 ^ 18) = 49 :: P ∧ P.length = 18 ∧ AllDig P ∧ valN P = low := by
  obtain ⟨h1, h2, h3, h4⟩ := num_facts (low + 10 ^ 18)
  have hz := h4 (by omega)
  cases hd : Lib.decDigits (low + 10 ^ 18) with
  | nil => exact absurd hd h3
  | cons c P =>
    rw [hd] at h1 h2 hz
    have hc := (digB_iff c).1 h1.head
    have hP := valN_lt P h1.tail
    have hge := valN_ge c P h1.head (fun e => hz (by rw [e]; rfl))
    have hlt := valN_lt (c :: P) h1
    rw [h2] at hge hlt
    have e1 : P.length < 19 := pow_lt_of (Nat.lt_of_le_of_lt hge (by have : (10 : Nat) ^ 19 = 10 ^ 18 * 10 := rfl; omega))
    have e2 : 18 < (c :: P).length := pow_lt_of (Nat.lt_of_le_of_lt (by omega) hlt)
    rw [List.length_cons] at e2
    have hl : P.length = 18 := by omega
    rw [valN_cons, hl] at h2
    rw [hl] at hP
    have hc1 : c.toNat - 48 = 1 := by
      obtain ⟨k, hk⟩ : ∃ k, k = c.toNat - 48 := ⟨_, rfl⟩
      rw [← hk] at h2 ⊢
      rcases Nat.lt_or_ge k 1 with h' | h'
      · have : k = 0 := by omega
        subst this
        rw [Nat.zero_mul] at h2
        omega
      · rcases Nat.lt_or_ge k 2 with h'' | h''
        · omega
        · have := Nat.mul_le_mul_right (10 ^ 18) h''
          omega
    refine ⟨P, by rw [show c = 49 from UInt8.toNat_inj.1 (by show c.toNat = 49; omega)], hl, h1.tail, ?_⟩
    rw [hc1] at h2
    omega
theorem noZero_of_big (P : List UInt8) (hl : P.length = 18) (hP : AllDig P) (h : 10 ^ 17 ≤ valN P) : NoZero P := fun e => by
  cases P with
  | nil => cases e
  | cons c r =>
    simp only [List.head?_cons, Option.some.injEq] at e
    subst e
    rw [List.length_cons] at hl
    have := valN_lt r hP.tail
    rw [valN_cons, show r.length = 17 by omega] at h
    rw [show r.length = 17 by omega] at this
    have h0 : (48 : UInt8).toNat - 48 = 0 := rfl
    rw [h0] at h
    omega
theorem big_text (H P : List UInt8) (hH : AllDig H) (hz : NoZero H) (hl : P.length = 18) (hP : AllDig P) (h0 : H = [] → NoZero P) (N : Nat) (hN : valN H * 10 ^ 18 + valN P = N) (hpos : 0 < N) : H ++ P = Lib.decDigits N := by
  obtain ⟨h1, h2, h3, h4⟩ := num_facts N
  refine val_inj _ _ (hH.append hP) h1 ?_ (h4 hpos) (by rw [valN_app, hl, hN, h2])
  cases H with
  | nil => exact h0 rfl
  | cons c r => exact hz
theorem tail_split (z : UInt8) (l : List UInt8) : ∃ A k, l = A ++ List.replicate k z ∧ A.getLast? ≠ some z := by
  induction l with
  | nil => exact ⟨[], 0, rfl, by simp⟩
  | cons c r ih =>
    obtain ⟨A, k, e, h⟩ := ih
    cases A with
    | nil =>
      by_cases hc : c = z
      · exact ⟨[], k + 1, by rw [e, hc, List.nil_append, List.nil_append, List.replicate_succ], by simp⟩
      · exact ⟨[c], k, by rw [e]; rfl, fun h' => hc (by simpa using h')⟩
    | cons d t => exact ⟨c :: d :: t, k, by rw [e]; rfl, by rw [List.getLast?_cons_cons]; exact h⟩
theorem last_split {A : List UInt8} (h : A ≠ []) : ∃ A' c, A = A' ++ [c] := ⟨A.dropLast, A.getLast h, (List.dropLast_concat_getLast h).symm⟩
/-- One less: what stands before the zeros that end it is lowered, they turn to nines. -/
theorem dec_split (h : List UInt8) (hd : AllDig h) (hz : NoZero h) (hne : h ≠ []) :
    ∃ A c k, h = A ++ (c :: List.replicate k 48) ∧ 49 ≤ c.toNat ∧ c.toNat ≤ 57 := by
  obtain ⟨A0, k, e, hA⟩ := tail_split 48 h
  have hA0 : A0 ≠ [] := fun e0 => by
    subst e0
    rw [List.nil_append] at e
    cases k with
    | zero => exact hne e
    | succ k => exact hz (by rw [e, List.replicate_succ]; rfl)
  obtain ⟨A, c, rfl⟩ := last_split hA0
  refine ⟨A, c, k, by rw [e, List.append_assoc]; rfl, ?_⟩
  have hc := (digB_iff c).1 (hd c (by rw [e]; simp))
  have hne' : c.toNat ≠ 48 := fun e' => hA (by rw [List.getLast?_append, List.getLast?_singleton, UInt8.toNat_inj.1 (show c.toNat = (48 : UInt8).toNat from e')]; rfl)
  omega
theorem low_nat (c : UInt8) (h : 1 ≤ c.toNat) : (UInt8.ofNat (c.toNat - 1)).toNat = c.toNat - 1 := by rw [UInt8.toNat_ofNat']; have := c.toNat_lt; omega
theorem up_nat (c : UInt8) (h : c.toNat ≤ 57) : (UInt8.ofNat (c.toNat + 1)).toNat = c.toNat + 1 := by rw [UInt8.toNat_ofNat']; omega
theorem lower_val (A : List UInt8) (c : UInt8) (k : Nat) (h1 : 49 ≤ c.toNat) : valN (A ++ (UInt8.ofNat (c.toNat - 1) :: List.replicate k 57)) + 1 = valN (A ++ (c :: List.replicate k 48)) := by
  rw [valN_app, valN_app, valN_cons, valN_cons, val_zeros, low_nat c (by omega)]
  have h9 := val_nines k
  simp only [List.length_cons, List.length_replicate]
  have : (c.toNat - 48) * 10 ^ k = (c.toNat - 1 - 48) * 10 ^ k + 10 ^ k := by
    rw [show c.toNat - 48 = (c.toNat - 1 - 48) + 1 by omega, Nat.add_mul, Nat.one_mul]
  omega
theorem inc_split (h : List UInt8) (hd : AllDig h) : (∃ k, h = List.replicate k 57) ∨ ∃ A c k, h = A ++ (c :: List.replicate k 57) ∧ 48 ≤ c.toNat ∧ c.toNat < 57 := by
  obtain ⟨A0, k, e, hA⟩ := tail_split 57 h
  by_cases hA0 : A0 = []
  · exact .inl ⟨k, by rw [e, hA0]; rfl⟩
  · obtain ⟨A, c, rfl⟩ := last_split hA0
    refine .inr ⟨A, c, k, by rw [e, List.append_assoc]; rfl, ?_⟩
    have hc := (digB_iff c).1 (hd c (by rw [e]; simp))
    have hne' : c.toNat ≠ 57 := fun e' => hA (by rw [List.getLast?_append, List.getLast?_singleton, UInt8.toNat_inj.1 (show c.toNat = (57 : UInt8).toNat from e')]; rfl)
    omega
theorem raise_val (A : List UInt8) (c : UInt8) (k : Nat) (h0 : 48 ≤ c.toNat) (h1 : c.toNat < 57) : valN (A ++ (UInt8.ofNat (c.toNat + 1) :: List.replicate k 48)) = valN (A ++ (c :: List.replicate k 57)) + 1 := by
  rw [valN_app, valN_app, valN_cons, valN_cons, val_zeros, up_nat c (by omega)]
  have h9 := val_nines k
  simp only [List.length_cons, List.length_replicate]
  have : (c.toNat + 1 - 48) * 10 ^ k = (c.toNat - 48) * 10 ^ k + 10 ^ k := by
    rw [show c.toNat + 1 - 48 = (c.toNat - 48) + 1 by omega, Nat.add_mul, Nat.one_mul]
  omega
theorem raise_val_all (k : Nat) : valN (49 :: List.replicate k 48) = valN (List.replicate k 57) + 1 := by
  rw [valN_cons, val_zeros, val_nines, List.length_replicate]
  show 1 * 10 ^ k + 0 = 10 ^ k
  omega
/-- The exponent past 18 digits. -/
theorem exp_big (y : List UInt8) (sh : Int) (d : List UInt8) (hd : d = tL (expDigits y)) (neg : Bool) (hneg : neg = decide (y.head? = some 45)) (N : Nat) (hN : (N : Int) = (valN d : Int) + (if neg then -sh else sh)) (hpos : 0 < N) :
    expText (expOf y + sh) = 101 :: ((if neg then [45] else []) ++ Lib.decDigits N) := by
  have hv : valN (expDigits y) = valN d := by rw [hd, val_tL]
  unfold expOf expText
  rw [hv]
  by_cases h : y.head? = some 45
  · rw [decide_eq_true h] at hneg
    subst hneg
    rw [if_pos h]
    simp only [if_true] at hN ⊢
    rw [if_neg (by omega)]
    unfold Lib.itoa
    rw [if_pos (by omega), show (-(valN d : Int) + sh).natAbs = N by omega]
    rfl
  · rw [decide_eq_false h] at hneg
    subst hneg
    rw [if_neg h]
    simp only [Bool.false_eq_true, if_false] at hN ⊢
    rw [if_neg (by omega)]
    unfold Lib.itoa
    rw [if_neg (by omega), show ((valN d : Int) + sh).toNat = N by omega]
    rfl
end Go.Proofs.Qxb6606399aDoor
