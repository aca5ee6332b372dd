import Derived.Lib.Bytealg
namespace Go.Proofs.Qxb6608677aDoor
open Go.Lib

/-- The parts of a text between its commas. -/
def splitC : List UInt8 → List (List UInt8)
  | [] => [[]]
  | c :: l => if c = 44 then [] :: splitC l else match splitC l with
    | h :: t => (c :: h) :: t
    | [] => [[c]]
theorem splitC_ne (l : List UInt8) : ∃ h t, splitC l = h :: t := by
  cases l with
  | nil => exact ⟨_, _, rfl⟩
  | cons c l =>
    rw [splitC]
    split
    · exact ⟨_, _, rfl⟩
    · split <;> exact ⟨_, _, rfl⟩
theorem splitC_cons (c : UInt8) (l h : List UInt8) (t : List (List UInt8)) (hc : c ≠ 44) (e : splitC l = h :: t) : splitC (c :: l) = (c :: h) :: t := by
  rw [splitC, if_neg hc, e]
theorem splitC_comma (l : List UInt8) : splitC (44 :: l) = [] :: splitC l := by rw [splitC, if_pos rfl]
theorem idx_cases (l : List UInt8) : (indexByte l 44 = -1 ∧ splitC l = [l]) ∨ ∃ i : Nat, indexByte l 44 = (i : Int) ∧ i < l.length ∧ splitC l = l.take i :: splitC (l.drop (i + 1)) := by
  induction l with
  | nil => exact .inl ⟨rfl, rfl⟩
  | cons c l ih =>
    by_cases hc : c = 44
    · subst hc
      exact .inr ⟨0, by simp [indexByte], by simp, by rw [splitC_comma]; rfl⟩
    · have hb : (c == 44) = false := beq_eq_false_iff_ne.2 hc
      rcases ih with ⟨h1, h2⟩ | ⟨i, h1, h2, h3⟩
      · refine .inl ⟨?_, splitC_cons c l l [] hc h2⟩
        simp [indexByte, hb, h1]
      · refine .inr ⟨i + 1, ?_, by rw [List.length_cons]; omega, ?_⟩
        · rw [indexByte, hb, h1]
          have : ((i : Int) == -1) = false := beq_eq_false_iff_ne.2 (by omega)
          rw [this]
          simp
        · rw [splitC_cons c l _ _ hc h3]
          rfl
theorem splitC_app (a b : List UInt8) : splitC (a ++ 44 :: b) = splitC a ++ splitC b := by
  induction a with
  | nil => rw [List.nil_append, splitC_comma]; rfl
  | cons c l ih =>
    obtain ⟨h, t, e⟩ := splitC_ne l
    by_cases hc : c = 44
    · subst hc
      rw [List.cons_append, splitC_comma, splitC_comma, ih]
      rfl
    · rw [List.cons_append, splitC_cons c (l ++ 44 :: b) h (t ++ splitC b) hc (by rw [ih, e]; rfl), splitC_cons c l h t hc e]
      rfl
theorem splitC_plain (l : List UInt8) (h : ∀ c ∈ l, c ≠ 44) : splitC l = [l] := by
  induction l with
  | nil => rfl
  | cons c l ih => exact splitC_cons c l l [] (h c (by simp)) (ih (fun x hx => h x (by simp [hx])))
end Go.Proofs.Qxb6608677aDoor
