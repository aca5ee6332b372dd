import Derived.Test.Qxb6606353aDoorPlainA
import Derived.Lib.ParseIntB
import Derived.Lib.TrimByte
import Derived.Lib.SlTrimSet
import Derived.Lib.Case
import Derived.Lib.IndexMore
namespace Go.Proofs.Qxb6606353aDoor.Pl
open Go

/-! ### strings.Cut at one byte -/
theorem index_none (l : List UInt8) (c : UInt8) (h : c ∉ l) : Lib.index l [c] = -1 := by
  induction l with
  | nil => rfl
  | cons b l ih =>
    simp only [List.mem_cons, not_or] at h
    unfold Lib.index
    rw [if_neg (by simp [List.isPrefixOf]; exact h.1), ih h.2]; rfl
theorem index_at (u r : List UInt8) (c : UInt8) (h : c ∉ u) : Lib.index (u ++ c :: r) [c] = u.length := by
  induction u with
  | nil => unfold Lib.index; simp [List.isPrefixOf]
  | cons b u ih =>
    simp only [List.mem_cons, not_or] at h
    have e := ih h.2
    show Lib.index (b :: (u ++ c :: r)) [c] = _
    unfold Lib.index
    rw [if_neg (by simp [List.isPrefixOf]; exact h.1), e, if_neg (by simp)]
    simp
theorem cut_none (l : List UInt8) (c : UInt8) (h : c ∉ l) : (Lib.cut l [c]).1 = l ∧ (Lib.cut l [c]).2.1 = [] := by
  unfold Lib.cut
  rw [index_none l c h, if_neg (by omega)]; exact ⟨rfl, rfl⟩
theorem cut_at (u r : List UInt8) (c : UInt8) (h : c ∉ u) : (Lib.cut (u ++ c :: r) [c]).1 = u ∧ (Lib.cut (u ++ c :: r) [c]).2.1 = r := by
  unfold Lib.cut
  rw [index_at u r c h, if_pos (by omega)]
  constructor
  · simp
  · have : ((u.length : Int)).toNat + [c].length = u.length + 1 := by simp
    rw [this]; simp

/-! ### The text's parts -/
theorem dgs_not (l : List UInt8) (h : dgs l) (c : UInt8) (hc : c.toNat < 48 ∨ 57 < c.toNat) : c ∉ l := fun hm => by
  have := h c hm; omega
theorem MantF.chars {u m : List UInt8} {pt : Int} (h : MantF u m pt) (c : UInt8) (hc : c ∈ u) : (48 ≤ c.toNat ∧ c.toNat ≤ 57) ∨ c = 46 := by
  rcases h.2 with ⟨_, rfl⟩ | ⟨A, B, rfl, rfl, _⟩
  · exact .inl (h.1 c hc)
  · rcases List.mem_append.1 hc with hc | hc
    · exact .inl (h.1 c (by simp [hc]))
    · rcases List.mem_cons.1 hc with hc | hc
      · exact .inr hc
      · exact .inl (h.1 c (by simp [hc]))
theorem MantF.ne_nil {u m : List UInt8} {pt : Int} (h : MantF u m pt) (hm : m ≠ []) : u ≠ [] := by
  rcases h.2 with ⟨_, rfl⟩ | ⟨A, B, rfl, rfl, _⟩
  · exact hm
  · simp
theorem trim_sign {l : List UInt8} {neg : Bool} {m : List UInt8} {pt : Int} {sg u X : List UInt8} (hl : l = sg ++ (u ++ X)) (hs : Sgn sg neg) (hM : MantF u m pt) (hm : m ≠ []) :
    Lib.trimLeftS l [43, 45] = u ++ X ∧ Lib.hasPrefix l [45] = neg := by
  obtain ⟨c, r, rfl⟩ : ∃ c r, u = c :: r := List.exists_cons_of_ne_nil (hM.ne_nil hm)
  have hc := hM.chars c (by simp)
  have hc2 : c ≠ 43 ∧ c ≠ 45 := by
    constructor <;> (intro h; subst h; rcases hc with h | h <;> revert h <;> decide)
  have hk : [43, 45].contains c = false := by simp [hc2.1, hc2.2]
  rcases hs with ⟨rfl, rfl⟩ | ⟨rfl, rfl⟩ | ⟨rfl, rfl⟩
  · subst hl
    refine ⟨?_, ?_⟩
    · unfold Lib.trimLeftS; simp only [List.nil_append, List.cons_append, List.dropWhile_cons, hk]; rfl
    · simp [Lib.hasPrefix, List.isPrefixOf]; exact fun h => hc2.2 h.symm
  · subst hl
    refine ⟨?_, ?_⟩
    · unfold Lib.trimLeftS; simp only [List.cons_append, List.nil_append, List.dropWhile_cons, hk]; rfl
    · simp [Lib.hasPrefix, List.isPrefixOf]
  · subst hl
    refine ⟨?_, ?_⟩
    · unfold Lib.trimLeftS; simp only [List.cons_append, List.nil_append, List.dropWhile_cons, hk]; rfl
    · simp [Lib.hasPrefix, List.isPrefixOf]
theorem lower_id (c : UInt8) (h : ¬ (65 ≤ c.toNat ∧ c.toNat ≤ 90)) : Lib.lowerB c = c := by
  unfold Lib.lowerB Lib.isUpperB
  rw [if_neg]
  simp only [Bool.and_eq_true, decide_eq_true_eq, UInt8.le_iff_toNat_le]
  exact h
theorem lower_ids (l : List UInt8) (h : ∀ c ∈ l, ¬ (65 ≤ c.toNat ∧ c.toNat ≤ 90)) : Lib.toLowerA l = l := by
  unfold Lib.toLowerA
  induction l with
  | nil => rfl
  | cons c l ih =>
    rw [List.map_cons, lower_id c (h c (by simp)), ih (fun x hx => h x (by simp [hx]))]
theorem ESgn.chars {es : List UInt8} {eneg : Bool} (h : ESgn es eneg) (c : UInt8) (hc : c ∈ es) : c.toNat < 48 := by
  rcases h with ⟨rfl, _⟩ | ⟨rfl, _⟩ | ⟨rfl, _⟩ <;> simp at hc <;> subst hc <;> decide
/-- The exponent's text as wholeNumber reads it. -/
def xTail (X : List UInt8) : List UInt8 := X.drop 1
theorem cut_exp {u m X : List UInt8} {pt exp : Int} (hM : MantF u m pt) (hX : ExpOk X exp) :
    (Lib.cut (Lib.toLowerA (u ++ X)) [101]).1 = u ∧ (Lib.cut (Lib.toLowerA (u ++ X)) [101]).2.1 = xTail X := by
  have hu : ∀ c ∈ u, ¬ (65 ≤ c.toNat ∧ c.toNat ≤ 90) := fun c hc => by
    rcases hM.chars c hc with h | h
    · omega
    · subst h; decide
  have he : (101 : UInt8) ∉ u := fun h => by
    rcases hM.chars _ h with h | h
    · revert h; decide
    · revert h; decide
  have e1 : Lib.toLowerA (u ++ X) = u ++ Lib.toLowerA X := by
    have := lower_ids u hu
    unfold Lib.toLowerA at *
    rw [List.map_append, this]
  rcases hX with ⟨rfl, _⟩ | ⟨c, es, D, eneg, rfl, hc, hes, hD, hD0, _⟩
  · rw [e1]
    have e0 : u ++ Lib.toLowerA [] = u := by simp [Lib.toLowerA]
    rw [e0]
    exact cut_none u 101 he
  · have e2 : Lib.toLowerA (c :: (es ++ D)) = 101 :: (es ++ D) := by
      have h1 : Lib.lowerB c = 101 := by rcases hc with rfl | rfl <;> decide
      have h2 : Lib.toLowerA (es ++ D) = es ++ D := lower_ids _ (fun x hx => by
        rcases List.mem_append.1 hx with hx | hx
        · have := hes.chars x hx; omega
        · have := hD x hx; omega)
      unfold Lib.toLowerA at *
      rw [List.map_cons, h1, h2]
    rw [e1, e2]
    exact cut_at u _ 101 he
theorem cut_dot {u m : List UInt8} {pt : Int} (hM : MantF u m pt) :
    ∃ A B, (Lib.cut u [46]).1 = A ∧ (Lib.cut u [46]).2.1 = B ∧ A ++ B = m ∧ (B.length : Int) = m.length - pt := by
  rcases hM.2 with ⟨hp, rfl⟩ | ⟨A, B, rfl, rfl, hp⟩
  · have := cut_none u 46 (dgs_not u hM.1 46 (by decide))
    exact ⟨u, [], this.1, this.2, by simp, by simp; omega⟩
  · have := cut_at A B 46 (dgs_not A (fun c hc => hM.1 c (by simp [hc])) 46 (by decide))
    exact ⟨A, B, this.1, this.2, rfl, by simp; omega⟩

/-! ### strconv.ParseInt over a sign and digits -/
theorem parseUintM_digits (acc : Nat) (D : List UInt8) (hD : dgs D) :
    (dvalA acc D ≤ 18446744073709551615 → Lib.parseUintM 18446744073709551615 acc D = .ok (dvalA acc D)) ∧
    (18446744073709551615 < dvalA acc D → acc ≤ 18446744073709551615 → Lib.parseUintM 18446744073709551615 acc D = .range) := by
  induction D generalizing acc with
  | nil => exact ⟨fun _ => rfl, fun h1 h2 => by simp [dvalA] at h1; omega⟩
  | cons c D ih =>
    have hc := hD c (by simp)
    have hD' : dgs D := fun x hx => hD x (by simp [hx])
    have e : dvalA acc (c :: D) = dvalA (acc * 10 + (c.toNat - 48)) D := dvalA_cons acc c D
    have hge := dvalA_ge (acc * 10 + (c.toNat - 48)) D
    obtain ⟨i1, i2⟩ := ih (acc * 10 + (c.toNat - 48)) hD'
    rw [e]
    generalize dvalA (acc * 10 + (c.toNat - 48)) D = v at *
    constructor
    · intro h
      unfold Lib.parseUintM
      rw [if_pos hc, if_neg (by omega), if_neg (by omega)]
      exact i1 h
    · intro h hacc
      unfold Lib.parseUintM
      rw [if_pos hc]
      by_cases h1 : 1844674407370955162 ≤ acc
      · rw [if_pos h1]
      · rw [if_neg h1]
        by_cases h2 : 18446744073709551615 < acc * 10 + (c.toNat - 48)
        · rw [if_pos h2]
        · rw [if_neg h2]; exact i2 h (by omega)

theorem parseUintB_digits (D : List UInt8) (hD : dgs D) (h0 : D ≠ []) :
    (dval D ≤ 18446744073709551615 → Lib.parseUintB 64 D = .ok (dval D)) ∧ (18446744073709551615 < dval D → Lib.parseUintB 64 D = .range) := by
  have e : (2 ^ 64 - 1 : Nat) = 18446744073709551615 := by decide
  obtain ⟨h1, h2⟩ := parseUintM_digits 0 D hD
  unfold Lib.parseUintB dval
  rw [if_neg h0, e]
  exact ⟨h1, fun h => h2 h (by omega)⟩
def clampE (x : Int) : Int := min (max x (-4294967296)) 4294967296
theorem clampE_cap (v : Nat) (a : Int) (h : (a = v ∧ v < 1099511627776) ∨ (1099511627776 ≤ v ∧ 1099511627776 ≤ a)) (c : Int) (hc : c = if (v : Int) < 1099511627776 then (v : Int) else 1099511627776) : clampE a = clampE c := by
  by_cases hv : (v : Int) < 1099511627776
  · rw [if_pos hv] at hc
    rcases h with ⟨h, _⟩ | ⟨h, _⟩
    · rw [h, hc]
    · omega
  · rw [if_neg hv] at hc
    rcases h with ⟨_, h⟩ | ⟨_, h⟩
    · omega
    · unfold clampE; omega
theorem capE_def (D : List UInt8) : capE D = if (dval D : Int) < 1099511627776 then (dval D : Int) else 1099511627776 := by unfold capE; rfl
theorem clampE_neg (a b : Int) (h : clampE a = clampE b) : clampE (-a) = clampE (-b) := by unfold clampE at *; omega
/-- What strconv.ParseInt makes of a sign and digits: a number, or 'out of range'; either way it is the exponent, once held within 2^32 either way. -/
theorem parse_exp (es D : List UInt8) (eneg : Bool) (hes : ESgn es eneg) (hD : dgs D) (h0 : D ≠ []) :
    (∃ v, Lib.parseIntB 64 (es ++ D) = .ok v ∧ clampE v = clampE (if eneg then - capE D else capE D) ∧ -9223372036854775808 ≤ v ∧ v ≤ 9223372036854775807) ∨
    (Lib.parseIntB 64 (es ++ D) = .range ∧ clampE (Lib.intSat 64 (es ++ D)) = clampE (if eneg then - capE D else capE D) ∧ -9223372036854775808 ≤ Lib.intSat 64 (es ++ D) ∧ Lib.intSat 64 (es ++ D) ≤ 9223372036854775807) := by
  obtain ⟨c, r, rfl⟩ := List.exists_cons_of_ne_nil h0
  have hc := hD c (by simp)
  obtain ⟨u1, u2⟩ := parseUintB_digits (c :: r) hD h0
  have p63 : (2 ^ (64 - 1) : Nat) = 9223372036854775808 := by decide
  have p63' : (2 ^ (64 - 1) - 1 : Nat) = 9223372036854775807 := by decide
  rcases hes with ⟨rfl, rfl⟩ | ⟨rfl, rfl⟩ | ⟨rfl, rfl⟩
  · have n43 : ¬ (c.toNat = 43 ∨ c.toNat = 45) := by omega
    have n45 : ¬ c.toNat = 45 := by omega
    have es : Lib.intSat 64 ([] ++ c :: r) = 9223372036854775807 := by
      unfold Lib.intSat
      rw [if_neg (by simp; exact n45), p63']; rfl
    by_cases hv : dval (c :: r) < 9223372036854775808
    · refine .inl ⟨(dval (c :: r) : Int), ?_, ?_, by omega, by omega⟩
      · show Lib.parseIntB 64 (c :: r) = _
        unfold Lib.parseIntB
        simp only [if_neg n43, u1 (by omega), p63]
        rw [if_neg (by omega), if_neg (by omega), if_neg n45]
      · rw [if_neg Bool.false_ne_true]; exact clampE_cap (dval (c :: r)) _ (by omega) _ (capE_def _)
    · refine .inr ⟨?_, ?_, by rw [es]; omega, by rw [es]; omega⟩
      · show Lib.parseIntB 64 (c :: r) = _
        unfold Lib.parseIntB
        by_cases hb : dval (c :: r) ≤ 18446744073709551615
        · simp only [if_neg n43, u1 hb, p63]
          rw [if_pos (by omega)]
        · simp only [if_neg n43, u2 (by omega)]
      · rw [es]
        rw [if_neg Bool.false_ne_true]; exact clampE_cap (dval (c :: r)) _ (by omega) _ (capE_def _)
  · have es : Lib.intSat 64 ([43] ++ c :: r) = 9223372036854775807 := by
      unfold Lib.intSat
      rw [if_neg (by simp), p63']; rfl
    have h43 : ((43 : UInt8).toNat = 43 ∨ (43 : UInt8).toNat = 45) := by decide
    have h45 : ¬ ((43 : UInt8).toNat = 45) := by decide
    by_cases hv : dval (c :: r) < 9223372036854775808
    · refine .inl ⟨(dval (c :: r) : Int), ?_, ?_, by omega, by omega⟩
      · show Lib.parseIntB 64 (43 :: c :: r) = _
        unfold Lib.parseIntB
        simp only [if_pos h43, u1 (by omega), p63]
        rw [if_neg (by omega), if_neg (by omega), if_neg h45]
      · rw [if_neg Bool.false_ne_true]; exact clampE_cap (dval (c :: r)) _ (by omega) _ (capE_def _)
    · refine .inr ⟨?_, ?_, by rw [es]; omega, by rw [es]; omega⟩
      · show Lib.parseIntB 64 (43 :: c :: r) = _
        unfold Lib.parseIntB
        by_cases hb : dval (c :: r) ≤ 18446744073709551615
        · simp only [if_pos h43, u1 hb, p63]
          rw [if_pos (by omega)]
        · simp only [if_pos h43, u2 (by omega)]
      · rw [es]
        rw [if_neg Bool.false_ne_true]; exact clampE_cap (dval (c :: r)) _ (by omega) _ (capE_def _)
  · have es : Lib.intSat 64 ([45] ++ c :: r) = -9223372036854775808 := by
      unfold Lib.intSat
      rw [if_pos (by simp), p63]; rfl
    have h43 : ((45 : UInt8).toNat = 43 ∨ (45 : UInt8).toNat = 45) := by decide
    have h45 : ((45 : UInt8).toNat = 45) := by decide
    by_cases hv : dval (c :: r) ≤ 9223372036854775808
    · refine .inl ⟨-(dval (c :: r) : Int), ?_, ?_, by omega, by omega⟩
      · show Lib.parseIntB 64 (45 :: c :: r) = _
        unfold Lib.parseIntB
        simp only [if_pos h43, u1 (by omega), p63]
        rw [if_neg (by simp), if_neg (by omega), if_pos h45]
      · rw [if_pos rfl]; exact clampE_neg _ _ (clampE_cap (dval (c :: r)) _ (by omega) _ (capE_def _))
    · refine .inr ⟨?_, ?_, by rw [es]; omega, by rw [es]; omega⟩
      · show Lib.parseIntB 64 (45 :: c :: r) = _
        unfold Lib.parseIntB
        by_cases hb : dval (c :: r) ≤ 18446744073709551615
        · simp only [if_pos h43, u1 hb, p63]
          rw [if_neg (by simp), if_pos (by omega)]
        · simp only [if_pos h43, u2 (by omega)]
      · rw [es]
        rw [if_pos rfl]; exact clampE_neg 9223372036854775808 _ (clampE_cap (dval (c :: r)) _ (by omega) _ (capE_def _))
end Go.Proofs.Qxb6606353aDoor.Pl
