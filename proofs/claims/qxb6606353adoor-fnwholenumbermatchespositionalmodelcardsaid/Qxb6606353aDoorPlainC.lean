import Derived.Test.Qxb6606353aDoorPlainB
namespace Go.Proofs.Qxb6606353aDoor.Pl
open Go

/-- The digits without the zeros at either end. -/
def core (m : List UInt8) : List UInt8 := Lib.trimLeftB (Lib.trimRightB m 48) 48
/-- The power of ten behind them. -/
def shiftOf (m : List UInt8) (pt exp : Int) : Int := (m.length : Int) - ((Lib.trimRightB m 48).length : Int) - ((m.length : Int) - pt) + clampE exp
/-- What wholeNumber answers. -/
def wres (neg : Bool) (m : List UInt8) (pt exp : Int) : Int × Bool :=
  if core m = [] then (0, true)
  else if neg = true ∨ shiftOf m pt exp < 0 ∨ 10 < ((core m).length : Int) + shiftOf m pt exp then (0, false)
  else ((dval (core m ++ List.replicate (shiftOf m pt exp).toNat 48) : Int), true)

theorem dgs_take {l : List UInt8} (h : dgs l) (k : Nat) : dgs (l.take k) := fun c hc => h c (List.mem_of_mem_take hc)
theorem dgs_drop {l : List UInt8} (h : dgs l) (k : Nat) : dgs (l.drop k) := fun c hc => h c (List.mem_of_mem_drop hc)
theorem trimL_of (l : List UInt8) (a : Nat) (h0 : ∀ i, (h : i < l.length) → i < a → l[i] = 48) (ha : (h : a < l.length) → l[a] ≠ 48) (hl : a ≤ l.length) : Lib.trimLeftB l 48 = l.drop a := by
  unfold Lib.trimLeftB
  induction a generalizing l with
  | zero =>
    cases l with
    | nil => rfl
    | cons c r =>
      have := ha (by simp)
      simp only [List.getElem_cons_zero] at this
      rw [List.dropWhile_cons, if_neg (by simpa using this)]; rfl
  | succ a ih =>
    cases l with
    | nil => rfl
    | cons c r =>
      have h1 := h0 0 (by simp) (by omega)
      simp only [List.getElem_cons_zero] at h1
      rw [List.dropWhile_cons, if_pos (by simpa using h1), List.drop_succ_cons]
      refine ih r (fun i hi hia => ?_) (fun h => ?_) (by simpa using hl)
      · have := h0 (i + 1) (by simp; omega) (by omega); simpa using this
      · have := ha (by simp; omega); simpa using this
theorem trimR_of (l : List UInt8) (b : Nat) (hb : b < l.length) (h1 : l[b] ≠ 48) (h0 : ∀ i, (h : i < l.length) → b < i → l[i] = 48) : Lib.trimRightB l 48 = l.take (b + 1) := by
  have e : Lib.trimRightB l 48 = (Lib.trimLeftB l.reverse 48).reverse := rfl
  rw [e, trimL_of l.reverse (l.length - (b + 1)) ?_ ?_ (by simp), List.drop_reverse, List.reverse_reverse]
  · congr 1; omega
  · intro i hi hlt
    rw [List.getElem_reverse]
    exact h0 _ _ (by omega)
  · intro h
    rw [List.getElem_reverse]
    have : l.length - 1 - (l.length - (b + 1)) = b := by omega
    simp only [this]; exact h1
theorem trimR_zero (l : List UInt8) (h0 : ∀ i, (h : i < l.length) → l[i] = 48) : Lib.trimRightB l 48 = [] := by
  have e : Lib.trimRightB l 48 = (Lib.trimLeftB l.reverse 48).reverse := rfl
  rw [e, trimL_of l.reverse l.length (fun i hi _ => by rw [List.getElem_reverse]; exact h0 _ _) (fun h => by simp at h) (by simp)]
  simp
theorem core_zero (l : List UInt8) (h0 : ∀ i, (h : i < l.length) → l[i] = 48) : core l = [] := by
  unfold core; rw [trimR_zero l h0]; rfl

/-- The first and the last digit that is no zero. -/
structure Ends (m : List UInt8) (a b : Nat) : Prop where
  ab : a ≤ b
  bl : b < m.length
  za : ∀ i, (h : i < m.length) → i < a → m[i] = 48
  na : m[a] ≠ 48
  nb : m[b] ≠ 48
  zb : ∀ i, (h : i < m.length) → b < i → m[i] = 48

theorem Ends.right {m : List UInt8} {a b : Nat} (h : Ends m a b) : Lib.trimRightB m 48 = m.take (b + 1) := trimR_of m b h.bl h.nb h.zb
theorem Ends.core {m : List UInt8} {a b : Nat} (h : Ends m a b) : core m = (m.take (b + 1)).drop a := by
  have hab := h.ab
  have hbl := h.bl
  unfold Pl.core
  rw [h.right, trimL_of (m.take (b + 1)) a ?_ ?_ (by simp; omega)]
  · intro i hi hia
    rw [List.getElem_take]; exact h.za _ _ hia
  · intro hi
    rw [List.getElem_take]; exact h.na
theorem Ends.core_len {m : List UInt8} {a b : Nat} (h : Ends m a b) : ((Pl.core m).length : Int) = b + 1 - a := by
  have hab := h.ab
  have hbl := h.bl
  rw [h.core, List.length_drop, List.length_take]; omega
theorem Ends.core_ne {m : List UInt8} {a b : Nat} (h : Ends m a b) : Pl.core m ≠ [] := fun e => by
  have := h.core_len
  have hab := h.ab
  rw [e] at this; simp at this; omega
theorem Ends.shift {m : List UInt8} {a b : Nat} (h : Ends m a b) (pt exp : Int) : shiftOf m pt exp = pt - (b + 1) + clampE exp := by
  have hbl := h.bl
  unfold shiftOf
  rw [h.right, List.length_take]
  omega

theorem clampE_lo (x : Int) (h : x < -4294967296) : clampE x = -4294967296 := by unfold clampE; omega
theorem clampE_hi (x : Int) (h : 4294967296 < x) : clampE x = 4294967296 := by unfold clampE; omega
theorem clampE_id (x : Int) (h : -4294967296 ≤ x) (h2 : x ≤ 4294967296) : clampE x = x := by unfold clampE; omega

/-! ### The law's answers -/
theorem law_zero (neg : Bool) (m : List UInt8) (pt exp : Int) (h0 : ∀ i, (h : i < m.length) → m[i] = 48) : wres neg m pt exp = (0, true) := by
  unfold wres; rw [if_pos (core_zero m h0)]
theorem law_neg {m : List UInt8} {a b : Nat} (h : Ends m a b) (pt exp : Int) : wres true m pt exp = (0, false) := by
  unfold wres; rw [if_neg h.core_ne, if_pos (.inl rfl)]
theorem law_frac {m : List UInt8} {a b : Nat} (h : Ends m a b) (neg : Bool) (pt exp : Int) (hm : m.length ≤ 1048576) (hp0 : 0 ≤ pt) (hp : pt ≤ m.length) (hc : pt + exp ≤ b) : wres neg m pt exp = (0, false) := by
  have hbl := h.bl
  unfold wres; rw [if_neg h.core_ne, if_pos]
  refine .inr (.inl ?_)
  rw [h.shift]
  by_cases h1 : exp < -4294967296
  · rw [clampE_lo _ h1]; omega
  · rw [clampE_id _ (by omega) (by omega)]; omega
theorem law_long {m : List UInt8} {a b : Nat} (h : Ends m a b) (neg : Bool) (pt exp : Int) (hm : m.length ≤ 1048576) (hp0 : 0 ≤ pt) (hp : pt ≤ m.length) (hc : 10 < pt + exp - a) : wres neg m pt exp = (0, false) := by
  have hbl := h.bl
  have hab := h.ab
  unfold wres; rw [if_neg h.core_ne, if_pos]
  refine .inr (.inr ?_)
  rw [h.shift, h.core_len]
  by_cases h1 : 4294967296 < exp
  · rw [clampE_hi _ h1]; omega
  · rw [clampE_id _ (by omega) (by omega)]; omega
/-- The digits up to the units place, the zeros behind the last among them. -/
def full (m : List UInt8) (pt exp : Int) : List UInt8 := core m ++ List.replicate (shiftOf m pt exp).toNat 48
theorem law_whole {m : List UInt8} {a b : Nat} (h : Ends m a b) (pt exp : Int) (hm : m.length ≤ 1048576) (hp0 : 0 ≤ pt) (hp : pt ≤ m.length) (h1 : b < pt + exp) (h2 : pt + exp - a ≤ 10) :
    wres false m pt exp = ((dval (full m pt exp) : Int), true) ∧ ((full m pt exp).length : Int) = pt + exp - a ∧
    ∀ q, (hq : q < (full m pt exp).length) → (full m pt exp)[q] = (if hq' : a + q < m.length then m[a + q] else 48) := by
  have hbl := h.bl
  have hab := h.ab
  have hs : shiftOf m pt exp = pt + exp - (b + 1) := by rw [h.shift, clampE_id _ (by omega) (by omega)]; omega
  have hcl := h.core_len
  refine ⟨?_, ?_, ?_⟩
  · unfold wres; rw [if_neg h.core_ne, if_neg (by simp; omega)]; rfl
  · unfold full; rw [List.length_append, List.length_replicate]; omega
  · intro q hq
    unfold full at hq ⊢
    rw [List.getElem_append]
    by_cases hc : q < (core m).length
    · rw [dif_pos hc, dif_pos (by omega)]
      have : (core m)[q] = ((m.take (b + 1)).drop a)[q]'(by rw [← h.core]; exact hc) := by simp only [h.core]
      rw [this, List.getElem_drop, List.getElem_take]
    · rw [dif_neg hc, List.getElem_replicate]
      by_cases hx : a + q < m.length
      · rw [dif_pos hx, h.zb _ hx (by omega)]
      · rw [dif_neg hx]
theorem full_dgs {m : List UInt8} (hm : dgs m) (pt exp : Int) : dgs (full m pt exp) := fun c hc => by
  unfold full at hc
  rcases List.mem_append.1 hc with hc | hc
  · unfold core Lib.trimLeftB Lib.trimRightB at hc
    have := (List.dropWhile_sublist _).subset hc
    have := List.mem_reverse.1 this
    have := (List.dropWhile_sublist _).subset this
    exact hm c (List.mem_reverse.1 this)
  · have := List.eq_of_mem_replicate hc
    subst this; decide
theorem dval_take_succ (E : List UInt8) (q : Nat) (hq : q < E.length) (hE : dgs E) : (dval (E.take (q + 1)) : Int) = dval (E.take q) * 10 + ((E[q].toNat : Int) - 48) := by
  have := hE E[q] (List.getElem_mem hq)
  rw [take_snoc E q hq, dval_snoc]
  unfold dgv; omega
theorem dval_take_lt (E : List UInt8) (q : Nat) (hE : dgs E) (hl : E.length ≤ 10) : dval (E.take q) < 10000000000 := by
  have h1 := dval_lt (E.take q) (dgs_take hE q)
  have h2 : 10 ^ (E.take q).length ≤ 10 ^ 10 := Nat.pow_le_pow_right (by omega) (by rw [List.length_take]; omega)
  have h3 : (10 ^ 10 : Nat) = 10000000000 := by decide
  omega
theorem parse_small (D : List UInt8) (hD : dgs D) (h0 : D ≠ []) (hl : D.length ≤ 10) : Lib.parseIntB 64 D = .ok (dval D : Int) := by
  obtain ⟨c, r, rfl⟩ := List.exists_cons_of_ne_nil h0
  have hc := hD c (by simp)
  have hv : dval (c :: r) < 10000000000 := by
    have := dval_take_lt (c :: r) (c :: r).length hD hl
    rwa [List.take_length] at this
  obtain ⟨u1, _⟩ := parseUintB_digits (c :: r) hD h0
  have p63 : (2 ^ (64 - 1) : Nat) = 9223372036854775808 := by decide
  have n43 : ¬ (c.toNat = 43 ∨ c.toNat = 45) := by omega
  have n45 : ¬ c.toNat = 45 := by omega
  unfold Lib.parseIntB
  simp only [if_neg n43, u1 (by omega), p63]
  rw [if_neg (by omega), if_neg (by omega), if_neg n45]
end Go.Proofs.Qxb6606353aDoor.Pl
