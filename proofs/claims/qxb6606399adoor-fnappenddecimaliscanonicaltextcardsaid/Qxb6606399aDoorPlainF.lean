import Derived.Test.Qxb6606399aDoorPlainE
namespace Go.Proofs.Qxb6606399aDoor

/-- The digits that canonicalNumber's first loop gathers. -/
def gatD : List UInt8 → List UInt8
  | [] => []
  | c :: r => if c = 101 ∨ c = 69 then [] else if c = 46 then gatD r else c :: gatD r
/-- The fraction's digits that it counts. -/
def gatF : List UInt8 → Bool → Nat
  | [], _ => 0
  | c :: r, b => if c = 101 ∨ c = 69 then 0 else if c = 46 then gatF r true else (if b then 1 else 0) + gatF r b
/-- The bytes that it eats. -/
def gatK : List UInt8 → Nat
  | [] => 0
  | c :: r => if c = 101 ∨ c = 69 then 0 else 1 + gatK r
theorem gat_e (c : UInt8) (r : List UInt8) (b : Bool) (h : c = 101 ∨ c = 69) : gatD (c :: r) = [] ∧ gatF (c :: r) b = 0 ∧ gatK (c :: r) = 0 := by
  refine ⟨?_, ?_, ?_⟩
  · rw [gatD, if_pos h]
  · rw [gatF, if_pos h]
  · rw [gatK, if_pos h]
theorem gat_dot (r : List UInt8) (b : Bool) : gatD (46 :: r) = gatD r ∧ gatF (46 :: r) b = gatF r true ∧ gatK (46 :: r) = 1 + gatK r := by
  refine ⟨?_, ?_, ?_⟩
  · rw [gatD, if_neg (by decide), if_pos rfl]
  · rw [gatF, if_neg (by decide), if_pos rfl]
  · rw [gatK, if_neg (by decide)]
theorem gat_one (c : UInt8) (r : List UInt8) (b : Bool) (h : ¬ (c = 101 ∨ c = 69)) (h2 : c ≠ 46) : gatD (c :: r) = c :: gatD r ∧ gatF (c :: r) b = (if b then 1 else 0) + gatF r b ∧ gatK (c :: r) = 1 + gatK r := by
  refine ⟨?_, ?_, ?_⟩
  · rw [gatD, if_neg h, if_neg h2]
  · rw [gatF, if_neg h, if_neg h2]
  · rw [gatK, if_neg h]
theorem dig_not (c : UInt8) (h : digB c = true) : ¬ (c = 101 ∨ c = 69) ∧ c ≠ 46 := by
  have := (digB_iff c).1 h
  refine ⟨?_, ?_⟩
  · rintro (rfl | rfl)
    · exact absurd this.2 (by decide)
    · exact absurd this.2 (by decide)
  · rintro rfl
    exact absurd this.1 (by decide)
theorem gat_dig (d r : List UInt8) (b : Bool) (hd : AllDig d) : gatD (d ++ r) = d ++ gatD r ∧ gatF (d ++ r) b = (if b then d.length else 0) + gatF r b ∧ gatK (d ++ r) = d.length + gatK r := by
  induction d with
  | nil => refine ⟨rfl, ?_, ?_⟩ <;> simp
  | cons c t ih =>
    obtain ⟨h1, h2⟩ := dig_not c hd.head
    obtain ⟨a1, a2, a3⟩ := gat_one c (t ++ r) b h1 h2
    obtain ⟨b1, b2, b3⟩ := ih hd.tail
    rw [List.cons_append, a1, a2, a3, b1, b2, b3]
    refine ⟨rfl, ?_, ?_⟩
    · cases b
      · simp
      · simp; omega
    · rw [List.length_cons]; omega
theorem gat_exp {x : List UInt8} (h : IsExp x) (b : Bool) : gatD x = [] ∧ gatF x b = 0 ∧ gatK x = 0 := by
  rcases h with rfl | ⟨e, y, rfl, he, _⟩
  · exact ⟨rfl, rfl, rfl⟩
  · exact gat_e e y b he
theorem gat_parts {ip f x : List UInt8} (hi : AllDig ip) (hf : IsFrac f) (hx : IsExp x) : gatD (ip ++ (f ++ x)) = ip ++ fdText f ∧ gatF (ip ++ (f ++ x)) false = (fdText f).length ∧ gatK (ip ++ (f ++ x)) = ip.length + f.length := by
  obtain ⟨a1, a2, a3⟩ := gat_dig ip (f ++ x) false hi
  rw [a1, a2, a3]
  rcases hf with rfl | ⟨d, rfl, _, hd⟩
  · obtain ⟨b1, b2, b3⟩ := gat_exp hx false
    rw [List.nil_append, b1, b2, b3]
    refine ⟨rfl, ?_, ?_⟩ <;> simp [fdText]
  · rw [List.cons_append]
    obtain ⟨c1, c2, c3⟩ := gat_dot (d ++ x) false
    obtain ⟨d1, d2, d3⟩ := gat_dig d x true hd
    obtain ⟨b1, b2, b3⟩ := gat_exp hx true
    rw [c1, c2, c3, d1, d2, d3, b1, b2, b3]
    refine ⟨?_, ?_, ?_⟩
    · rw [List.append_nil]; rfl
    · simp [fdText]
    · rw [List.length_cons]; omega
theorem gatD_len (l : List UInt8) : (gatD l).length ≤ l.length := by
  induction l with
  | nil => exact Nat.le_refl _
  | cons c r ih =>
    rw [gatD]
    split
    · simp
    · split
      · rw [List.length_cons]; omega
      · rw [List.length_cons, List.length_cons]; omega

theorem tR_more (T : List UInt8) (n : Nat) (hn : n < T.length) (h : T[n] = 48) : tR (T.take (n + 1)) = tR (T.take n) := by
  rw [List.take_add_one, List.getElem?_eq_getElem hn, h]
  exact tR_zeros 1 _
theorem tR_stop (T : List UInt8) (n : Nat) (hn : n < T.length) (h : T[n] ≠ 48) : tR (T.take (n + 1)) = T.take (n + 1) := by
  refine tR_of_noZero ?_
  unfold NoZeroEnd
  rw [List.take_add_one, List.getElem?_eq_getElem hn]
  show (T.take n ++ [T[n]]).getLast? ≠ some 48
  rw [List.getLast?_append]
  exact fun e => h (Option.some.inj e)
theorem core_ne {G : List UInt8} (h : tL G ≠ []) : tR (tL G) ≠ [] := fun e => by
  obtain ⟨k, e1, _⟩ := tR_split (tL G)
  obtain ⟨_, _, hz⟩ := tL_split G
  rw [e, List.nil_append] at e1
  rw [e1] at hz h
  cases k with
  | zero => exact h rfl
  | succ k => exact hz rfl
end Go.Proofs.Qxb6606399aDoor
