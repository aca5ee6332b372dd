namespace Go.Proofs.Qxb6606353aDoor.Pl
def dg (c : UInt8) : Prop := 48 ≤ c.toNat ∧ c.toNat ≤ 57
def dgs (l : List UInt8) : Prop := ∀ c ∈ l, 48 ≤ c.toNat ∧ c.toNat ≤ 57
def dgv (c : UInt8) : Nat := c.toNat - 48
/-- The value of a run of digits. -/
def dvalA (a : Nat) (l : List UInt8) : Nat := l.foldl (fun a c => a * 10 + dgv c) a
def dval (l : List UInt8) : Nat := dvalA 0 l
theorem dvalA_cons (a : Nat) (c : UInt8) (l : List UInt8) : dvalA a (c :: l) = dvalA (a * 10 + dgv c) l := by
  unfold dvalA; rw [List.foldl_cons]
theorem dvalA_append (a : Nat) (l r : List UInt8) : dvalA a (l ++ r) = dvalA (dvalA a l) r := by
  unfold dvalA; rw [List.foldl_append]
theorem dval_snoc (l : List UInt8) (c : UInt8) : dval (l ++ [c]) = dval l * 10 + dgv c := by
  unfold dval; rw [dvalA_append]; rfl
theorem dvalA_ge (a : Nat) (l : List UInt8) : a ≤ dvalA a l := by
  induction l generalizing a with
  | nil => exact Nat.le_refl _
  | cons c l ih =>
    rw [dvalA_cons]
    have := ih (a * 10 + dgv c)
    omega
theorem dval_append_ge (l r : List UInt8) : dval l ≤ dval (l ++ r) := by
  unfold dval; rw [dvalA_append]; exact dvalA_ge _ _
theorem dvalA_lt (a : Nat) (l : List UInt8) (h : dgs l) : dvalA a l < (a + 1) * 10 ^ l.length := by
  induction l generalizing a with
  | nil => simp [dvalA]
  | cons c l ih =>
    have hc := h c (by simp)
    have hv : dgv c ≤ 9 := by unfold dgv; omega
    have h1 := ih (a * 10 + dgv c) (fun x hx => h x (by simp [hx]))
    have h2 : (a * 10 + dgv c + 1) * 10 ^ l.length ≤ (a + 1) * 10 * 10 ^ l.length := Nat.mul_le_mul_right _ (by omega)
    rw [dvalA_cons, List.length_cons, Nat.pow_succ, Nat.mul_comm (10 ^ l.length) 10, ← Nat.mul_assoc]
    exact Nat.lt_of_lt_of_le h1 h2
theorem dval_lt (l : List UInt8) (h : dgs l) : dval l < 10 ^ l.length := by
  have := dvalA_lt 0 l h
  simpa [dval] using this

/-- The exponent as the law's text gathers it: held once it has come to the cap. -/
def ecapK (K : Int) (l : List UInt8) : Int := l.foldl (fun e c => if e < K then e * 10 + (dgv c : Int) else e) 0
theorem ecapK_snoc (K : Int) (l : List UInt8) (c : UInt8) : ecapK K (l ++ [c]) = if ecapK K l < K then ecapK K l * 10 + (dgv c : Int) else ecapK K l := by
  unfold ecapK; rw [List.foldl_append]; rfl
theorem rev_ind {P : List UInt8 → Prop} (h0 : P []) (h1 : ∀ l c, P l → P (l ++ [c])) : ∀ l, P l := by
  intro l
  have : ∀ r : List UInt8, P r.reverse := by
    intro r
    induction r with
    | nil => exact h0
    | cons c r ih => rw [List.reverse_cons]; exact h1 _ _ ih
  simpa using this l.reverse
def EcapOk (K : Int) (l : List UInt8) : Prop := dgs l → (ecapK K l < K → ecapK K l = dval l) ∧ (K ≤ ecapK K l → K ≤ dval l) ∧ 0 ≤ ecapK K l ∧ ecapK K l ≤ K * 10 + 9
theorem ecapK_spec (K : Int) (hK : 0 < K) : ∀ l, EcapOk K l := by
  refine rev_ind ?_ ?_
  · intro _
    have e1 : ecapK K [] = 0 := rfl
    have e2 : dval [] = 0 := rfl
    rw [e1, e2]
    refine ⟨fun _ => rfl, fun h => by omega, by omega, by omega⟩
  · intro l c ih h
    have hl : dgs l := fun x hx => h x (by simp [hx])
    have hc := h c (by simp)
    have hv : dgv c ≤ 9 := by unfold dgv; omega
    obtain ⟨h1, h2, h3, h4⟩ := ih hl
    have hge := dval_append_ge l [c]
    rw [ecapK_snoc]
    by_cases hlt : ecapK K l < K
    · rw [if_pos hlt, dval_snoc]
      have := h1 hlt
      refine ⟨fun _ => by omega, fun _ => by omega, by omega, by omega⟩
    · rw [if_neg hlt]
      have := h2 (by omega)
      refine ⟨fun _ => by omega, fun _ => by omega, by omega, by omega⟩
/-- What the text makes of it in the end: the value, held at the cap. -/
theorem ecapK_min (K : Int) (hK : 0 < K) (l : List UInt8) (h : dgs l) : (if K < ecapK K l then K else ecapK K l) = if (dval l : Int) < K then (dval l : Int) else K := by
  obtain ⟨h1, h2, h3, h4⟩ := ecapK_spec K hK l h
  by_cases hlt : ecapK K l < K
  · have := h1 hlt
    rw [if_neg (by omega), if_pos (by omega)]; exact this
  · have := h2 (by omega)
    rw [if_neg (by omega : ¬ (dval l : Int) < K)]
    by_cases he : K < ecapK K l
    · rw [if_pos he]
    · rw [if_neg he]; omega

def ecap (l : List UInt8) : Int := ecapK 1099511627776 l
theorem ecap_snoc (l : List UInt8) (c : UInt8) : ecap (l ++ [c]) = if ecap l < 1099511627776 then ecap l * 10 + (dgv c : Int) else ecap l := ecapK_snoc _ _ _
theorem ecap_nil : ecap [] = 0 := rfl
theorem ecap_bd (l : List UInt8) (h : dgs l) : 0 ≤ ecap l ∧ ecap l ≤ 10995116277769 := by
  obtain ⟨_, _, h1, h2⟩ := ecapK_spec 1099511627776 (by omega) l h
  unfold ecap
  omega
def capE (D : List UInt8) : Int := if (dval D : Int) < 1099511627776 then (dval D : Int) else 1099511627776
theorem capE_hi (l : List UInt8) (h : dgs l) (he : 1099511627776 < ecap l) : capE l = 1099511627776 := by
  have := ecapK_min 1099511627776 (by omega) l h
  rw [if_pos (show _ < ecapK 1099511627776 l from he)] at this
  unfold capE; exact this.symm
theorem capE_lo (l : List UInt8) (h : dgs l) (he : ¬ 1099511627776 < ecap l) : capE l = ecap l := by
  have := ecapK_min 1099511627776 (by omega) l h
  rw [if_neg (show ¬ _ < ecapK 1099511627776 l from he)] at this
  unfold capE; exact this.symm

/-! ### What the law's own parser has read -/
def Sgn (sg : List UInt8) (neg : Bool) : Prop := (sg = [] ∧ neg = false) ∨ (sg = [43] ∧ neg = false) ∨ (sg = [45] ∧ neg = true)
/-- Mantissa read so far: 'u' the bytes, 'm' the digits, 'pt' the point's place (-1: none yet). -/
def Mant (u m : List UInt8) (pt : Int) : Prop := dgs m ∧ ((pt = -1 ∧ u = m) ∨ ∃ A B, u = A ++ 46 :: B ∧ m = A ++ B ∧ pt = A.length)
def MantF (u m : List UInt8) (pt : Int) : Prop := dgs m ∧ ((pt = m.length ∧ u = m) ∨ ∃ A B, u = A ++ 46 :: B ∧ m = A ++ B ∧ pt = A.length)
theorem Mant.nil : Mant [] [] (-1) := ⟨fun _ h => by simp at h, .inl ⟨rfl, rfl⟩⟩
theorem Mant.digit {u m : List UInt8} {pt : Int} (h : Mant u m pt) (c : UInt8) (h1 : 48 ≤ c.toNat) (h2 : c.toNat ≤ 57) : Mant (u ++ [c]) (m ++ [c]) pt := by
  refine ⟨fun x hx => ?_, ?_⟩
  · rcases List.mem_append.1 hx with hx | hx
    · exact h.1 x hx
    · simp at hx; subst hx; exact ⟨h1, h2⟩
  · rcases h.2 with ⟨hp, hu⟩ | ⟨A, B, hu, hm, hp⟩
    · exact .inl ⟨hp, by rw [hu]⟩
    · exact .inr ⟨A, B ++ [c], by rw [hu]; simp, by rw [hm]; simp, hp⟩
theorem Mant.lt {u m : List UInt8} {pt : Int} (h : Mant u m pt) : -1 ≤ pt ∧ pt ≤ m.length ∧ m.length ≤ u.length := by
  rcases h.2 with ⟨hp, hu⟩ | ⟨A, B, hu, hm, hp⟩
  · subst hu; omega
  · subst hu hm; simp; omega
theorem Mant.dot {u m : List UInt8} {pt : Int} (h : Mant u m pt) (hp : pt < 0) : Mant (u ++ [46]) m m.length := by
  rcases h.2 with ⟨hp, hu⟩ | ⟨A, B, hu, hm, hp⟩
  · exact ⟨h.1, .inr ⟨m, [], by rw [hu], by simp, rfl⟩⟩
  · omega
theorem Mant.fin {u m : List UInt8} {pt : Int} (h : Mant u m pt) : MantF u m (if pt < 0 then (m.length : Int) else pt) := by
  refine ⟨h.1, ?_⟩
  rcases h.2 with ⟨hp, hu⟩ | ⟨A, B, hu, hm, hp⟩
  · rw [if_pos (by omega)]; exact .inl ⟨rfl, hu⟩
  · rw [if_neg (by omega)]; exact .inr ⟨A, B, hu, hm, hp⟩
theorem MantF.lt {u m : List UInt8} {pt : Int} (h : MantF u m pt) : 0 ≤ pt ∧ pt ≤ m.length ∧ m.length ≤ u.length := by
  rcases h.2 with ⟨hp, hu⟩ | ⟨A, B, hu, hm, hp⟩
  · subst hu; omega
  · subst hu hm; simp; omega

/-- The exponent's text and what the parser makes of it. -/
def ESgn (es : List UInt8) (eneg : Bool) : Prop := (es = [] ∧ eneg = false) ∨ (es = [43] ∧ eneg = false) ∨ (es = [45] ∧ eneg = true)
def ExpOk (X : List UInt8) (exp : Int) : Prop :=
  (X = [] ∧ exp = 0) ∨ ∃ (c : UInt8) (es D : List UInt8) (eneg : Bool), X = c :: (es ++ D) ∧ (c = 101 ∨ c = 69) ∧ ESgn es eneg ∧ dgs D ∧ D ≠ [] ∧ exp = if eneg then - capE D else capE D
theorem capE_bd (D : List UInt8) : 0 ≤ capE D ∧ capE D ≤ 1099511627776 := by
  unfold capE
  by_cases h : (dval D : Int) < 1099511627776
  · rw [if_pos h]; omega
  · rw [if_neg h]; omega
def IsDec (l : List UInt8) (neg : Bool) (m : List UInt8) (pt exp : Int) : Prop :=
  ∃ sg u X, l = sg ++ (u ++ X) ∧ Sgn sg neg ∧ MantF u m pt ∧ m ≠ [] ∧ ExpOk X exp
theorem ExpOk.bd {X : List UInt8} {exp : Int} (h : ExpOk X exp) : -1099511627776 ≤ exp ∧ exp ≤ 1099511627776 := by
  rcases h with ⟨_, rfl⟩ | ⟨c, es, D, eneg, _, _, _, _, _, rfl⟩
  · omega
  · have := capE_bd D
    cases eneg <;> simp <;> omega
theorem take_snoc (l : List UInt8) (k : Nat) (h : k < l.length) : l.take (k + 1) = l.take k ++ [l[k]] := by
  rw [List.take_add_one, List.getElem?_eq_getElem h]; rfl
end Go.Proofs.Qxb6606353aDoor.Pl
