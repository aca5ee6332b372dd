import Derived.Test.Qxb6606399aDoorPlainD
namespace Go.Proofs.Qxb6606399aDoor

/-! ### Magnitudes -/
def mag (N : Nat) : List UInt8 := if N = 0 then [] else Lib.decDigits N
theorem mag_facts (N : Nat) : AllDig (mag N) ∧ NoZero (mag N) ∧ valN (mag N) = N := by
  unfold mag
  split
  · next h => subst h; exact ⟨.nil, by simp [NoZero], rfl⟩
  · next h =>
    obtain ⟨h1, h2, _, h4⟩ := num_facts N
    exact ⟨h1, h4 (by omega), h2⟩
theorem mag_unique (l : List UInt8) (hd : AllDig l) (hz : NoZero l) : l = mag (valN l) := by
  obtain ⟨h1, h2, h3⟩ := mag_facts (valN l)
  exact val_inj _ _ hd h1 hz h2 h3.symm
theorem mag_tL (l : List UInt8) (hd : AllDig l) : tL l = mag (valN l) := by
  have h := mag_unique (tL l) (tL_sub l hd) (by obtain ⟨_, _, h⟩ := tL_split l; exact h)
  rwa [val_tL] at h
theorem mag_nil (N : Nat) : mag N = [] ↔ N = 0 := by
  constructor
  · intro h
    have := (mag_facts N).2.2
    rw [h] at this
    exact this.symm
  · rintro rfl; rfl
theorem expText_mag (E : Int) : expText E = if mag E.natAbs = [] then [] else 101 :: ((if E < 0 then [45] else []) ++ mag E.natAbs) := by
  unfold expText
  by_cases h : E = 0
  · subst h; rfl
  · have hne : E.natAbs ≠ 0 := by omega
    rw [if_neg h, if_neg (fun e => hne ((mag_nil _).1 e))]
    unfold Lib.itoa mag
    rw [if_neg hne]
    by_cases hn : E < 0
    · rw [if_pos hn, if_pos hn]; rfl
    · rw [if_neg hn, if_neg hn, show E.toNat = E.natAbs by omega]; rfl

/-- The value of the last k digits. -/
def low (a : List UInt8) (k : Nat) : Nat := valN (a.drop (a.length - k))
theorem low_zero (a : List UInt8) : low a 0 = 0 := by unfold low; rw [Nat.sub_zero, List.drop_length]; rfl
theorem low_all (a : List UInt8) (k : Nat) (h : a.length ≤ k) : low a k = valN a := by unfold low; rw [show a.length - k = 0 by omega, List.drop_zero]
theorem low_succ (a : List UInt8) (k : Nat) (h : k < a.length) : low a (k + 1) = ((a[a.length - 1 - k]'(by omega)).toNat - 48) * 10 ^ k + low a k := by
  unfold low
  rw [List.drop_eq_getElem_cons (by omega : a.length - (k + 1) < a.length), valN_cons]
  have e1 : a.length - (k + 1) + 1 = a.length - k := by omega
  have e2 : a.length - (k + 1) = a.length - 1 - k := by omega
  rw [e1, List.length_drop, show a.length - (a.length - k) = k by omega]
  simp only [e2]
theorem low_lt (a : List UInt8) (k : Nat) (hd : AllDig a) : low a k < 10 ^ k := by
  unfold low
  have h1 := valN_lt (a.drop (a.length - k)) (fun x hx => hd x (List.mem_of_mem_drop hx))
  have h2 : 10 ^ (a.drop (a.length - k)).length ≤ 10 ^ k := Nat.pow_le_pow_right (by omega) (by rw [List.length_drop]; omega)
  omega
/-- A digit of the last ones; none: 0. -/
def digAt (a : List UInt8) (k : Nat) : Nat := if h : k < a.length then (a[a.length - 1 - k]'(by omega)).toNat - 48 else 0
theorem low_step (a : List UInt8) (k : Nat) : low a (k + 1) = digAt a k * 10 ^ k + low a k := by
  unfold digAt
  split
  · next h => exact low_succ a k h
  · next h => rw [low_all a (k + 1) (by omega), low_all a k (by omega)]; omega
theorem digAt_lt (a : List UInt8) (k : Nat) (hd : AllDig a) : digAt a k ≤ 9 := by
  unfold digAt
  split
  · next h => have := (digB_iff _).1 (hd _ (List.getElem_mem (by omega : a.length - 1 - k < a.length))); omega
  · omega
/-- A step of the school's addition. -/
theorem add_step (a b R : List UInt8) (k c : Nat) (hR : valN R + c * 10 ^ k = low a k + low b k) (hl : R.length = k) (s : Nat) (hs : s = c + digAt a k + digAt b k) (d : UInt8) (hdd : d.toNat = 48 + s % 10) :
    valN (d :: R) + (s / 10) * 10 ^ (k + 1) = low a (k + 1) + low b (k + 1) := by
  rw [low_step, low_step, valN_cons, hl, hdd, Nat.pow_succ]
  have e1 : 48 + s % 10 - 48 = s % 10 := by omega
  have e2 : s = 10 * (s / 10) + s % 10 := (Nat.div_add_mod s 10).symm
  have e3 : s * 10 ^ k = (10 * (s / 10)) * 10 ^ k + (s % 10) * 10 ^ k := by rw [← Nat.add_mul, ← e2]
  have e4 : s / 10 * (10 ^ k * 10) = (10 * (s / 10)) * 10 ^ k := by
    rw [Nat.mul_comm (10 ^ k) 10, ← Nat.mul_assoc, Nat.mul_comm (s / 10) 10]
  have e5 : s * 10 ^ k = c * 10 ^ k + digAt a k * 10 ^ k + digAt b k * 10 ^ k := by rw [hs, Nat.add_mul, Nat.add_mul]
  rw [e1, e4]
  omega
/-- A step of the school's subtraction: d = the digit of a, less the borrow and the digit of b. -/
theorem sub_step (a b R : List UInt8) (k c : Nat) (hR : low a k + c * 10 ^ k = valN R + low b k) (hl : R.length = k) (d : UInt8) (c' : Nat) (hd : (d.toNat : Int) - 48 = (digAt a k : Int) - c - digAt b k + 10 * c') (h48 : 48 ≤ d.toNat) :
    low a (k + 1) + c' * 10 ^ (k + 1) = valN (d :: R) + low b (k + 1) := by
  rw [low_step, low_step, valN_cons, hl, Nat.pow_succ]
  have e1 : (d.toNat - 48) + c + digAt b k = digAt a k + 10 * c' := by omega
  have e2 : (d.toNat - 48) * 10 ^ k + c * 10 ^ k + digAt b k * 10 ^ k = digAt a k * 10 ^ k + (10 * c') * 10 ^ k := by rw [← Nat.add_mul, ← Nat.add_mul, ← Nat.add_mul, e1]
  have e4 : c' * (10 ^ k * 10) = (10 * c') * 10 ^ k := by rw [Nat.mul_comm (10 ^ k) 10, ← Nat.mul_assoc, Nat.mul_comm c' 10]
  rw [e4]
  omega
/-- Of two runs with no zero ahead the longer is the greater. -/
theorem val_len (a b : List UInt8) (ha : AllDig a) (hb : AllDig b) (hz : NoZero b) (h : a.length < b.length) : valN a < valN b := by
  cases b with
  | nil => simp at h
  | cons c r =>
    have h1 := valN_lt a ha
    have h2 := valN_ge c r hb.head (fun e => hz (by rw [e]; rfl))
    rw [List.length_cons] at h
    have h3 : 10 ^ a.length ≤ 10 ^ r.length := Nat.pow_le_pow_right (by omega) (by omega)
    omega
/-- Of two runs of one length the first byte that differs tells. -/
theorem val_lex (a b : List UInt8) (ha : AllDig a) (hl : a.length = b.length) (i : Nat) (hi : i < a.length) (he : a.take i = b.take i) (hlt : a[i].toNat < (b[i]'(by omega)).toNat) : valN a < valN b := by
  have e1 : a = a.take i ++ (a[i] :: a.drop (i + 1)) := by rw [← List.drop_eq_getElem_cons hi, List.take_append_drop]
  have e2 : b = b.take i ++ (b[i]'(by omega) :: b.drop (i + 1)) := by rw [← List.drop_eq_getElem_cons (by omega), List.take_append_drop]
  have h1 := valN_lt (a.drop (i + 1)) (fun x hx => ha x (List.mem_of_mem_drop hx))
  have hla : (a.drop (i + 1)).length = a.length - (i + 1) := List.length_drop
  have hlb : (b.drop (i + 1)).length = a.length - (i + 1) := by rw [List.length_drop, hl]
  have ha1 : valN a = valN (a.take i) * 10 ^ (a.length - (i + 1) + 1) + ((a[i].toNat - 48) * 10 ^ (a.length - (i + 1)) + valN (a.drop (i + 1))) := by
    conv => lhs; rw [e1]
    rw [valN_app, valN_cons, List.length_cons, hla]
  have hb1 : valN b = valN (a.take i) * 10 ^ (a.length - (i + 1) + 1) + (((b[i]'(by omega)).toNat - 48) * 10 ^ (a.length - (i + 1)) + valN (b.drop (i + 1))) := by
    conv => lhs; rw [e2]
    rw [valN_app, valN_cons, List.length_cons, hlb, he]
  have hda := (digB_iff _).1 (ha a[i] (List.getElem_mem hi))
  rw [hla] at h1
  have h3 : (a[i].toNat - 48 + 1) * 10 ^ (a.length - (i + 1)) ≤ ((b[i]'(by omega)).toNat - 48) * 10 ^ (a.length - (i + 1)) := Nat.mul_le_mul_right _ (by omega)
  rw [Nat.add_mul, Nat.one_mul] at h3
  rw [ha1, hb1]
  omega

/-! ### The core by another road -/
theorem tL_app (a b : List UInt8) : tL (a ++ b) = if tL a = [] then tL b else tL a ++ b := by
  induction a with
  | nil => rw [List.nil_append, tL_nil, if_pos rfl]
  | cons c r ih =>
    by_cases h : c = 48
    · subst h; rw [List.cons_append, tL_zero, tL_zero, ih]
    · rw [List.cons_append, tL_keep c _ h, tL_keep c r h, if_neg (by simp)]; rfl
theorem tR_app (a b : List UInt8) : tR (a ++ b) = if tR b = [] then tR a else a ++ tR b := by
  rw [tR_rev, List.reverse_append, tL_app, tR_rev b, tR_rev a]
  by_cases h : tL b.reverse = []
  · rw [if_pos h, h]; rfl
  · rw [if_neg h, if_neg (by simpa using h)]; simp
theorem tL_zeros (k : Nat) (l : List UInt8) : tL (List.replicate k 48 ++ l) = tL l := by
  induction k with
  | zero => rfl
  | succ k ih => rw [List.replicate_succ, List.cons_append, tL_zero, ih]
theorem tR_zeros (k : Nat) (l : List UInt8) : tR (l ++ List.replicate k 48) = tR l := by
  rw [tR_rev, List.reverse_append, List.reverse_replicate, tL_zeros, ← tR_rev]
theorem trim_swap (l : List UInt8) : tR (tL l) = tL (tR l) := by
  obtain ⟨k, e, hz⟩ := tR_split l
  by_cases h : tL (tR l) = []
  · have h2 : tL l = tL (List.replicate k 48) := by
      conv => lhs; rw [e]
      rw [tL_app, if_pos h]
    rw [h, h2]
    have := tL_zeros k []
    rw [List.append_nil] at this
    rw [this]; rfl
  · have h2 : tL l = tL (tR l) ++ List.replicate k 48 := by
      conv => lhs; rw [e]
      rw [tL_app, if_neg h]
    rw [h2, tR_zeros]
    exact tR_of_noZero (tL_end hz).1
theorem core_alt (ip fd : List UInt8) : tR (tL (ip ++ fd)) = coreOf ip fd := by
  rw [trim_swap, tR_app]
  unfold coreOf fdOf ipOf
  by_cases h : tR fd = []
  · rw [if_pos h, if_pos h, h]
    split <;> simp [tL_nil]
  · rw [if_neg h, if_neg h, tL_app]
    by_cases h2 : tL ip = []
    · rw [if_pos h2, if_pos h2, h2, List.nil_append]
    · rw [if_neg h2, if_neg h2]
/-- The zeros that end the run, less the fraction's digits: the shift. -/
theorem shift_alt (ip fd : List UInt8) (h : coreOf ip fd ≠ []) : ((tL (ip ++ fd)).length : Int) - ((coreOf ip fd).length : Int) - (fd.length : Int) = shiftOf ip fd := by
  have hc := core_alt ip fd
  obtain ⟨k, e, hz⟩ := tR_split (ip ++ fd)
  have hne : tL (tR (ip ++ fd)) ≠ [] := by rw [← trim_swap, hc]; exact h
  have h2 : tL (ip ++ fd) = tL (tR (ip ++ fd)) ++ List.replicate k 48 := by
    conv => lhs; rw [e]
    rw [tL_app, if_neg hne]
  have h3 : tL (tR (ip ++ fd)) = coreOf ip fd := by rw [← trim_swap, hc]
  have hl := congrArg List.length e
  rw [List.length_append, List.length_append, List.length_replicate] at hl
  rw [h2, h3, List.length_append, List.length_replicate]
  have ht := tR_app ip fd
  have a1 := tR_len ip
  have a2 := tR_len fd
  unfold shiftOf
  by_cases h4 : tR fd = []
  · rw [if_pos h4] at ht ⊢
    rw [ht] at hl
    omega
  · rw [if_neg h4] at ht ⊢
    rw [ht, List.length_append] at hl
    omega
end Go.Proofs.Qxb6606399aDoor
