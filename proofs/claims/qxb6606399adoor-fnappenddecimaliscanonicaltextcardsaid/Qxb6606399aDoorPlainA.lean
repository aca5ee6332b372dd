import Derived.Lib.ItoaNum
import Derived.Lib.SlTrimSet
namespace Go.Proofs.Qxb6606399aDoor

/-! ### Digits and their value -/
def digB (c : UInt8) : Bool := decide (48 ≤ c.toNat) && decide (c.toNat ≤ 57)
theorem digB_iff (c : UInt8) : digB c = true ↔ 48 ≤ c.toNat ∧ c.toNat ≤ 57 := by simp [digB]
def AllDig (l : List UInt8) : Prop := ∀ c ∈ l, digB c = true
theorem AllDig.nil : AllDig [] := fun _ h => by simp at h
theorem AllDig.cons {c : UInt8} {l : List UInt8} (h : digB c = true) (hl : AllDig l) : AllDig (c :: l) := fun x hx => by
  rcases List.mem_cons.1 hx with rfl | h'
  · exact h
  · exact hl _ h'
theorem AllDig.head {c : UInt8} {l : List UInt8} (h : AllDig (c :: l)) : digB c = true := h c (by simp)
theorem AllDig.tail {c : UInt8} {l : List UInt8} (h : AllDig (c :: l)) : AllDig l := fun x hx => h x (by simp [hx])
theorem AllDig.append {a b : List UInt8} (ha : AllDig a) (hb : AllDig b) : AllDig (a ++ b) := fun x hx => by
  rcases List.mem_append.1 hx with h | h
  · exact ha _ h
  · exact hb _ h
theorem AllDig.left {a b : List UInt8} (h : AllDig (a ++ b)) : AllDig a := fun x hx => h x (by simp [hx])
theorem AllDig.right {a b : List UInt8} (h : AllDig (a ++ b)) : AllDig b := fun x hx => h x (by simp [hx])
theorem AllDig.sub {a b : List UInt8} (h : AllDig b) (hs : ∀ x ∈ a, x ∈ b) : AllDig a := fun x hx => h x (hs x hx)

def stepV (a : Nat) (c : UInt8) : Nat := a * 10 + (c.toNat - 48)
/-- The value of a run of digits. -/
def valN (l : List UInt8) : Nat := l.foldl stepV 0
theorem valN_snoc (l : List UInt8) (c : UInt8) : valN (l ++ [c]) = valN l * 10 + (c.toNat - 48) := by simp [valN, stepV]
theorem fold_app (a : Nat) (l : List UInt8) : l.foldl stepV a = a * 10 ^ l.length + valN l := by
  induction l generalizing a with
  | nil => simp [valN]
  | cons c r ih =>
    rw [List.foldl_cons, ih]
    show _ = a * 10 ^ (c :: r).length + (c :: r).foldl stepV 0
    rw [List.foldl_cons, ih (stepV 0 c), List.length_cons]
    unfold stepV
    rw [Nat.pow_succ, Nat.add_mul, Nat.zero_mul, Nat.zero_add, Nat.mul_assoc, Nat.mul_comm 10, Nat.add_assoc]
theorem valN_app (a b : List UInt8) : valN (a ++ b) = valN a * 10 ^ b.length + valN b := by
  show (a ++ b).foldl stepV 0 = _
  rw [List.foldl_append, fold_app]
  rfl
theorem valN_cons (c : UInt8) (r : List UInt8) : valN (c :: r) = (c.toNat - 48) * 10 ^ r.length + valN r := by
  have := valN_app [c] r
  rw [List.singleton_append] at this
  rw [this]
  simp [valN, stepV]
theorem valN_lt (l : List UInt8) (h : AllDig l) : valN l < 10 ^ l.length := by
  induction l with
  | nil => simp [valN]
  | cons c r ih =>
    rw [valN_cons, List.length_cons, Nat.pow_succ]
    have h1 := ih h.tail
    have h2 := (digB_iff c).1 h.head
    have h3 : (c.toNat - 48) * 10 ^ r.length ≤ 9 * 10 ^ r.length := Nat.mul_le_mul_right _ (by omega)
    omega
/-- A run of digits with no zero ahead is told by its value. -/
theorem valN_ge (c : UInt8) (r : List UInt8) (h : digB c = true) (h0 : c ≠ 48) : 10 ^ r.length ≤ valN (c :: r) := by
  rw [valN_cons]
  have h2 := (digB_iff c).1 h
  have h3 : c.toNat ≠ 48 := fun e => h0 (UInt8.toNat_inj.1 e)
  have : 1 * 10 ^ r.length ≤ (c.toNat - 48) * 10 ^ r.length := Nat.mul_le_mul_right _ (by omega)
  omega
def NoZero (l : List UInt8) : Prop := l.head? ≠ some 48
theorem pow_lt_of {a b : Nat} (h : 10 ^ a < 10 ^ b) : a < b := by
  rcases Nat.lt_or_ge a b with h' | h'
  · exact h'
  · have := Nat.pow_le_pow_right (n := 10) (by omega) h'; omega
theorem len_eq (a b : List UInt8) (ha : AllDig a) (hb : AllDig b) (za : NoZero a) (zb : NoZero b) (h : valN a = valN b) : a.length = b.length := by
  have key : ∀ (a b : List UInt8), AllDig a → AllDig b → NoZero a → valN a = valN b → a.length ≤ b.length := fun a b ha hb za h => by
    cases a with
    | nil => simp
    | cons c r =>
      have h1 := valN_ge c r ha.head (fun e => za (by rw [e]; rfl))
      have h2 := valN_lt b hb
      rw [h] at h1
      have := pow_lt_of (Nat.lt_of_le_of_lt h1 h2)
      rw [List.length_cons]
      omega
  exact Nat.le_antisymm (key a b ha hb za h) (key b a hb ha zb h.symm)
theorem val_inj_len (a b : List UInt8) (hl : a.length = b.length) (ha : AllDig a) (hb : AllDig b) (h : valN a = valN b) : a = b := by
  induction a generalizing b with
  | nil => cases b with
    | nil => rfl
    | cons _ _ => simp at hl
  | cons c r ih =>
    cases b with
    | nil => simp at hl
    | cons d s =>
      rw [List.length_cons, List.length_cons] at hl
      have hl' : r.length = s.length := by omega
      rw [valN_cons, valN_cons, hl'] at h
      have h1 := valN_lt r ha.tail
      have h2 := valN_lt s hb.tail
      rw [hl'] at h1
      have hc := (digB_iff c).1 ha.head
      have hd := (digB_iff d).1 hb.head
      have hcd : c.toNat - 48 = d.toNat - 48 := by
        have e1 : ((c.toNat - 48) * 10 ^ s.length + valN r) / 10 ^ s.length = c.toNat - 48 := by
          rw [Nat.mul_comm, Nat.mul_add_div (Nat.pow_pos (by omega)), Nat.div_eq_of_lt h1, Nat.add_zero]
        have e2 : ((d.toNat - 48) * 10 ^ s.length + valN s) / 10 ^ s.length = d.toNat - 48 := by
          rw [Nat.mul_comm, Nat.mul_add_div (Nat.pow_pos (by omega)), Nat.div_eq_of_lt h2, Nat.add_zero]
        rw [← e1, ← e2, h]
      have : c = d := UInt8.toNat_inj.1 (by omega)
      subst this
      rw [ih s hl' ha.tail hb.tail (by omega)]
theorem val_inj (a b : List UInt8) (ha : AllDig a) (hb : AllDig b) (za : NoZero a) (zb : NoZero b) (h : valN a = valN b) : a = b :=
  val_inj_len a b (len_eq a b ha hb za zb h) ha hb h

/-! ### The decimal numeral -/
theorem digit_nat (k : Nat) (h : k < 10) : (UInt8.ofNat (48 + k)).toNat = 48 + k := by rw [UInt8.toNat_ofNat']; omega
theorem num_facts (u : Nat) : AllDig (Lib.decDigits u) ∧ valN (Lib.decDigits u) = u ∧ Lib.decDigits u ≠ [] ∧ (0 < u → NoZero (Lib.decDigits u)) := by
  induction u using Nat.strongRecOn with
  | _ u ih =>
    by_cases h : u < 10
    · rw [Lib.decDigits_one h]
      have hd := digit_nat u h
      refine ⟨.cons ((digB_iff _).2 (by omega)) .nil, ?_, by simp, fun h0 e => ?_⟩
      · simp only [valN, stepV, List.foldl_cons, List.foldl_nil, hd]; omega
      · simp only [List.head?_cons, Option.some.injEq] at e
        rw [e] at hd
        have : (48 : UInt8).toNat = 48 := rfl
        omega
    · obtain ⟨h1, h2, h3, h4⟩ := ih (u / 10) (by omega)
      have hm := digit_nat (u % 10) (by omega)
      have hu : Lib.decDigits u = Lib.decDigits (u / 10) ++ [UInt8.ofNat (48 + u % 10)] := by
        rw [Lib.decDigits, dif_neg h]
      rw [hu]
      refine ⟨h1.append (.cons ((digB_iff _).2 (by omega)) .nil), ?_, by simp, fun _ e => ?_⟩
      · rw [valN_snoc, h2, hm]; omega
      · have := h4 (by omega)
        cases hd : Lib.decDigits (u / 10) with
        | nil => exact h3 hd
        | cons c r => rw [hd] at e this; exact this e
end Go.Proofs.Qxb6606399aDoor
