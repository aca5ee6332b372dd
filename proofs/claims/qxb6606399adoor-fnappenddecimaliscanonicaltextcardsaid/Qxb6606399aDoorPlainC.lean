import Derived.Test.Qxb6606399aDoorPlainB
namespace Go.Proofs.Qxb6606399aDoor

/-! ### Zeros cut off -/
def tL (l : List UInt8) : List UInt8 := Lib.trimLeftS l [48]
def tR (l : List UInt8) : List UInt8 := Lib.trimRightS l [48]
theorem c48 (c : UInt8) : [(48 : UInt8)].contains c = (c == 48) := Lib.contains_one 48 c
theorem tL_nil : tL [] = [] := rfl
theorem tL_zero (r : List UInt8) : tL (48 :: r) = tL r := by unfold tL Lib.trimLeftS; rw [List.dropWhile_cons, c48]; rfl
theorem tL_keep (c : UInt8) (r : List UInt8) (h : c ≠ 48) : tL (c :: r) = c :: r := by
  unfold tL Lib.trimLeftS
  rw [List.dropWhile_cons, c48, beq_eq_false_iff_ne.2 h]; rfl
/-- What is cut off the front: zeros. -/
theorem tL_split (l : List UInt8) : ∃ k, l = List.replicate k 48 ++ tL l ∧ NoZero (tL l) := by
  induction l with
  | nil => exact ⟨0, rfl, by simp [tL_nil, NoZero]⟩
  | cons c r ih =>
    by_cases h : c = 48
    · subst h
      obtain ⟨k, e, hz⟩ := ih
      rw [tL_zero]
      exact ⟨k + 1, by rw [List.replicate_succ, List.cons_append, ← e], hz⟩
    · rw [tL_keep c r h]
      exact ⟨0, rfl, fun e => h (by simpa using e)⟩
theorem tL_of_noZero {l : List UInt8} (h : NoZero l) : tL l = l := by
  cases l with
  | nil => rfl
  | cons c r => exact tL_keep c r (fun e => h (by rw [e]; rfl))
theorem tR_rev (l : List UInt8) : tR l = (tL l.reverse).reverse := rfl
def NoZeroEnd (l : List UInt8) : Prop := l.getLast? ≠ some 48
theorem tR_split (l : List UInt8) : ∃ k, l = tR l ++ List.replicate k 48 ∧ NoZeroEnd (tR l) := by
  obtain ⟨k, e, hz⟩ := tL_split l.reverse
  refine ⟨k, ?_, ?_⟩
  · have := congrArg List.reverse e
    rw [List.reverse_reverse, List.reverse_append, List.reverse_replicate, ← tR_rev] at this
    exact this
  · unfold NoZeroEnd
    rw [tR_rev, List.getLast?_reverse]
    exact hz
theorem tR_of_noZero {l : List UInt8} (h : NoZeroEnd l) : tR l = l := by
  rw [tR_rev, tL_of_noZero, List.reverse_reverse]
  unfold NoZero
  rw [List.head?_reverse]
  exact h
theorem tR_nil : tR [] = [] := rfl
theorem tL_sub (l : List UInt8) (h : AllDig l) : AllDig (tL l) := by
  obtain ⟨k, e, _⟩ := tL_split l
  rw [e] at h
  exact h.right
theorem tR_sub (l : List UInt8) (h : AllDig l) : AllDig (tR l) := by
  obtain ⟨k, e, _⟩ := tR_split l
  rw [e] at h
  exact h.left
theorem tL_len (l : List UInt8) : (tL l).length ≤ l.length := by
  obtain ⟨k, e, _⟩ := tL_split l
  have := congrArg List.length e
  rw [List.length_append] at this
  omega
theorem tR_len (l : List UInt8) : (tR l).length ≤ l.length := by
  obtain ⟨k, e, _⟩ := tR_split l
  have := congrArg List.length e
  rw [List.length_append] at this
  omega
/-- Cutting the front leaves the end, where something is left. -/
theorem tL_end {l : List UInt8} (h : NoZeroEnd l) : NoZeroEnd (tL l) ∧ (l ≠ [] → tL l ≠ []) := by
  obtain ⟨k, e, _⟩ := tL_split l
  by_cases h0 : tL l = []
  · rw [h0, List.append_nil] at e
    refine ⟨by rw [h0]; simp [NoZeroEnd], fun hne => ?_⟩
    cases k with
    | zero => exact absurd e hne
    | succ k =>
      rw [e] at h
      exact absurd (by rw [List.replicate_succ', List.getLast?_append]; rfl) h
  · refine ⟨?_, fun _ => h0⟩
    unfold NoZeroEnd at h ⊢
    rw [e, List.getLast?_append] at h
    intro e2
    exact h (by rw [e2]; rfl)

/-! ### The canonical text -/
def ipOf (ip fd : List UInt8) : List UInt8 := tL (if tR fd = [] then tR ip else ip)
def fdOf (ip fd : List UInt8) : List UInt8 := if ipOf ip fd = [] then tL (tR fd) else tR fd
def coreOf (ip fd : List UInt8) : List UInt8 := ipOf ip fd ++ fdOf ip fd
def shiftOf (ip fd : List UInt8) : Int := if tR fd = [] then (ip.length : Int) - ((tR ip).length : Int) else -((tR fd).length : Int)
def expDigits (y : List UInt8) : List UInt8 := Lib.trimLeftS y [43, 45]
def expOf (y : List UInt8) : Int := if y.head? = some 45 then -(valN (expDigits y) : Int) else (valN (expDigits y) : Int)
def expText (E : Int) : List UInt8 := if E = 0 then [] else 101 :: Lib.itoa E
def canonOf (s ip fd y : List UInt8) : List UInt8 := if coreOf ip fd = [] then [48] else s ++ (coreOf ip fd ++ expText (expOf y + shiftOf ip fd))

theorem core_dig (ip fd : List UInt8) (hi : AllDig ip) (hf : AllDig fd) : AllDig (coreOf ip fd) := by
  unfold coreOf
  refine AllDig.append ?_ ?_
  · unfold ipOf
    split
    · exact tL_sub _ (tR_sub _ hi)
    · exact tL_sub _ hi
  · unfold fdOf
    split
    · exact tL_sub _ (tR_sub _ hf)
    · exact tR_sub _ hf
theorem ip_noZero (ip fd : List UInt8) : NoZero (ipOf ip fd) := by
  unfold ipOf
  obtain ⟨_, _, h⟩ := tL_split (if tR fd = [] then tR ip else ip)
  exact h
theorem core_noZero (ip fd : List UInt8) : NoZero (coreOf ip fd) := by
  unfold coreOf
  by_cases h : ipOf ip fd = []
  · rw [h, List.nil_append]
    unfold fdOf
    rw [if_pos h]
    obtain ⟨_, _, h'⟩ := tL_split (tR fd)
    exact h'
  · cases hi : ipOf ip fd with
    | nil => exact absurd hi h
    | cons c r =>
      have := ip_noZero ip fd
      rw [hi] at this
      exact this
theorem core_noZeroEnd (ip fd : List UInt8) : NoZeroEnd (coreOf ip fd) := by
  obtain ⟨_, _, hf⟩ := tR_split fd
  obtain ⟨_, _, hi⟩ := tR_split ip
  unfold coreOf
  by_cases h : tR fd = []
  · have hfd : fdOf ip fd = [] := by unfold fdOf; rw [h]; split <;> rfl
    rw [hfd, List.append_nil]
    unfold ipOf
    rw [if_pos h]
    exact (tL_end hi).1
  · have hx : NoZeroEnd (fdOf ip fd) ∧ fdOf ip fd ≠ [] := by
      unfold fdOf
      split
      · exact ⟨(tL_end hf).1, (tL_end hf).2 h⟩
      · exact ⟨hf, h⟩
    unfold NoZeroEnd at *
    rw [List.getLast?_append]
    cases hl : (fdOf ip fd).getLast? with
    | none => exact absurd (List.getLast?_eq_none_iff.1 hl) hx.2
    | some c => rw [hl] at hx; exact hx.1

/-! ### The exponent's numeral -/
theorem c2 (c : UInt8) : [(43 : UInt8), 45].contains c = (c == 43 || c == 45) := by
  simp [List.contains, List.elem]
  cases (c == 43) <;> cases (c == 45) <;> rfl
theorem expDigits_keep (d : List UInt8) (hd : AllDig d) : expDigits d = d := by
  cases d with
  | nil => rfl
  | cons c r =>
    unfold expDigits Lib.trimLeftS
    have h := (digB_iff c).1 hd.head
    have h1 : (c == 43) = false := beq_eq_false_iff_ne.2 (by rintro rfl; exact absurd h.1 (by decide))
    have h2 : (c == 45) = false := beq_eq_false_iff_ne.2 (by rintro rfl; exact absurd h.1 (by decide))
    rw [List.dropWhile_cons, c2, h1, h2]
    rfl
theorem expDigits_sign (sg d : List UInt8) (hs : sg = [] ∨ sg = [43] ∨ sg = [45]) (hd : AllDig d) : expDigits (sg ++ d) = d := by
  rcases hs with rfl | rfl | rfl
  · exact expDigits_keep d hd
  · show expDigits (43 :: d) = d
    have := expDigits_keep d hd
    unfold expDigits Lib.trimLeftS at *
    rw [List.dropWhile_cons, c2]
    exact this
  · show expDigits (45 :: d) = d
    have := expDigits_keep d hd
    unfold expDigits Lib.trimLeftS at *
    rw [List.dropWhile_cons, c2]
    exact this
theorem dig_not45 {d : List UInt8} (hd : AllDig d) : d.head? ≠ some 45 := fun e => by
  cases d with
  | nil => cases e
  | cons c r =>
    have h := (digB_iff c).1 hd.head
    simp only [List.head?_cons, Option.some.injEq] at e
    subst e
    exact absurd h.1 (by decide)
theorem itoa_ext (E : Int) : ExT (Lib.itoa E) := by
  unfold Lib.itoa
  split
  · obtain ⟨h1, _, h3, _⟩ := num_facts E.natAbs
    exact ⟨[45], _, rfl, .inr (.inr rfl), h3, h1⟩
  · obtain ⟨h1, _, h3, _⟩ := num_facts E.toNat
    exact ⟨[], _, rfl, .inl rfl, h3, h1⟩
theorem expOf_itoa (E : Int) : expOf (Lib.itoa E) = E := by
  unfold Lib.itoa
  split
  · obtain ⟨h1, h2, _, _⟩ := num_facts E.natAbs
    unfold expOf
    rw [if_pos List.head?_cons]
    have := expDigits_sign [45] _ (.inr (.inr rfl)) h1
    rw [List.singleton_append] at this
    rw [this, h2]
    omega
  · obtain ⟨h1, h2, _, _⟩ := num_facts E.toNat
    unfold expOf
    rw [if_neg (dig_not45 h1), expDigits_keep _ h1, h2]
    omega

/-! ### The three laws, plain -/
/-- The parts of a canonical text. -/
def yOf (x : List UInt8) : List UInt8 := x.drop 1
def fdText (f : List UInt8) : List UInt8 := f.drop 1
def canon (s ip f x : List UInt8) : List UInt8 := canonOf s ip (fdText f) (yOf x)
theorem fd_dig {f : List UInt8} (h : IsFrac f) : AllDig (fdText f) := by
  rcases h with rfl | ⟨d, rfl, _, hd⟩
  · exact .nil
  · exact hd
theorem int_dig {ip : List UInt8} (h : IsInt ip) : AllDig ip := by
  obtain ⟨c, r, rfl, h1, h2⟩ := int_head h
  exact .cons h1 h2
theorem canon_zero (s ip f x : List UInt8) (h : coreOf ip (fdText f) = []) : canon s ip f x = [48] := by unfold canon canonOf; rw [if_pos h]
theorem canon_parts {s ip f x : List UInt8} (hs : s = [] ∨ s = [45]) (hi : IsInt ip) (hf : IsFrac f) (h : coreOf ip (fdText f) ≠ []) :
    Parts (canon s ip f x) s (coreOf ip (fdText f)) [] (expText (expOf (yOf x) + shiftOf ip (fdText f))) := by
  refine ⟨?_, hs, ?_, .inl rfl, ?_⟩
  · unfold canon canonOf; rw [if_neg h]; rfl
  · refine .inr ?_
    have hd := core_dig ip (fdText f) (int_dig hi) (fd_dig hf)
    have hz := core_noZero ip (fdText f)
    cases hc : coreOf ip (fdText f) with
    | nil => exact absurd hc h
    | cons c r =>
      rw [hc] at hd hz
      exact ⟨c, r, rfl, hd.head, fun e => hz (by rw [e]; rfl), hd.tail⟩
  · unfold expText
    split
    · exact .inl rfl
    · exact .inr ⟨101, _, rfl, .inl rfl, itoa_ext _⟩
/-- The canonical text of a canonical text is itself. -/
theorem canon_again {s ip f x : List UInt8} (h : coreOf ip (fdText f) ≠ []) (E : Int) (hE : E = expOf (yOf x) + shiftOf ip (fdText f)) : canon s (coreOf ip (fdText f)) [] (expText E) = canon s ip f x := by
  have h1 : tR (coreOf ip (fdText f)) = coreOf ip (fdText f) := tR_of_noZero (core_noZeroEnd _ _)
  have h2 : tL (coreOf ip (fdText f)) = coreOf ip (fdText f) := tL_of_noZero (core_noZero _ _)
  have hi : ipOf (coreOf ip (fdText f)) [] = coreOf ip (fdText f) := by unfold ipOf; rw [if_pos tR_nil, h1, h2]
  have hc : coreOf (coreOf ip (fdText f)) [] = coreOf ip (fdText f) := by
    show ipOf _ [] ++ fdOf _ [] = _
    have : fdOf (coreOf ip (fdText f)) [] = [] := by unfold fdOf; split <;> rfl
    rw [this, hi, List.append_nil]
  have hsft : shiftOf (coreOf ip (fdText f)) [] = 0 := by unfold shiftOf; rw [if_pos tR_nil, h1]; omega
  have hy : expOf (yOf (expText E)) = E := by
    unfold expText
    split
    · next h0 => rw [h0]; rfl
    · exact expOf_itoa E
  unfold canon canonOf
  show (if coreOf (coreOf ip (fdText f)) [] = [] then _ else s ++ (coreOf (coreOf ip (fdText f)) [] ++ expText (expOf (yOf (expText E)) + shiftOf (coreOf ip (fdText f)) []))) = _
  rw [hc, hsft, hy, if_neg h, if_neg h, Int.add_zero, hE]
/-- The sign alone is what a '-' ahead adds. -/
theorem canon_neg {ip f x : List UInt8} (h : coreOf ip (fdText f) ≠ []) : canon [45] ip f x = 45 :: canon [] ip f x := by
  unfold canon canonOf
  rw [if_neg h, if_neg h]
  rfl
end Go.Proofs.Qxb6606399aDoor
