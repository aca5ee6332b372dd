import Derived.Test.Qxb6606399aDoorPlainA
namespace Go.Proofs.Qxb6606399aDoor

/-! ### The number grammar -/
/-- How many digits stand ahead. -/
def nd (l : List UInt8) : Nat := l.findIdx (fun c => !digB c)
theorem nd_le (l : List UInt8) : nd l ≤ l.length := List.findIdx_le_length
theorem nd_more (m : List UInt8) (j : Nat) (hj : j ≤ nd m) (hl : j < m.length) (hd : digB m[j] = true) : j + 1 ≤ nd m := by
  rcases Nat.lt_or_ge j (nd m) with h | h
  · exact h
  · have e : nd m = j := by omega
    have hlt : m.findIdx (fun c => !digB c) < m.length := by show nd m < _; omega
    have := List.findIdx_getElem (w := hlt)
    have e' : m.findIdx (fun c => !digB c) = j := e
    simp only [e'] at this
    rw [hd] at this
    simp at this
theorem nd_stop (m : List UInt8) (j : Nat) (hj : j ≤ nd m) (h : ∀ hl : j < m.length, digB m[j] = false) : nd m = j := by
  rcases Nat.lt_or_ge j (nd m) with h' | h'
  · have hl : j < m.length := Nat.lt_of_lt_of_le h' (nd_le m)
    have := List.not_of_lt_findIdx (p := fun c => !digB c) h'
    rw [h hl] at this
    simp at this
  · omega
theorem nd_app (d r : List UInt8) (hd : AllDig d) (hr : ∀ c t, r = c :: t → digB c = false) : nd (d ++ r) = d.length := by
  have h1 : d.findIdx (fun c => !digB c) = d.length := List.findIdx_eq_length.2 (fun x hx => by simp [hd x hx])
  unfold nd
  rw [List.findIdx_append, if_neg (by omega)]
  have h2 : r.findIdx (fun c => !digB c) = 0 := by
    cases r with
    | nil => rfl
    | cons c t => rw [List.findIdx_cons, hr c t rfl]; rfl
  omega
theorem nd_take (m : List UInt8) : AllDig (m.take (nd m)) := fun x hx => by
  obtain ⟨i, hi, e⟩ := List.mem_iff_getElem.1 hx
  rw [List.length_take] at hi
  have hlt : i < nd m := by omega
  have := List.not_of_lt_findIdx (p := fun c => !digB c) hlt
  rw [List.getElem_take] at e
  rw [e] at this
  simpa using this
def skipSign : List UInt8 → List UInt8
  | [] => []
  | c :: r => if c = 43 ∨ c = 45 then r else c :: r
def expB : List UInt8 → Bool
  | [] => true
  | c :: r => if c = 101 ∨ c = 69 then decide (0 < nd (skipSign r)) && decide (nd (skipSign r) = (skipSign r).length) else false
def fracB : List UInt8 → Bool
  | [] => true
  | c :: r => if c = 46 then decide (0 < nd r) && expB (r.drop (nd r)) else expB (c :: r)
def intB : List UInt8 → Bool
  | [] => false
  | c :: r => if c = 48 then fracB r else if 49 ≤ c.toNat ∧ c.toNat ≤ 57 then fracB ((c :: r).drop (nd (c :: r))) else false
def validB : List UInt8 → Bool
  | [] => false
  | c :: r => if c = 45 then intB r else intB (c :: r)

theorem skip_cons (c : UInt8) (r : List UInt8) : skipSign (c :: r) = if c = 43 ∨ c = 45 then r else c :: r := rfl
theorem expB_cons (c : UInt8) (r : List UInt8) : expB (c :: r) = if c = 101 ∨ c = 69 then decide (0 < nd (skipSign r)) && decide (nd (skipSign r) = (skipSign r).length) else false := rfl
theorem fracB_cons (c : UInt8) (r : List UInt8) : fracB (c :: r) = if c = 46 then decide (0 < nd r) && expB (r.drop (nd r)) else expB (c :: r) := rfl
theorem intB_cons (c : UInt8) (r : List UInt8) : intB (c :: r) = if c = 48 then fracB r else if 49 ≤ c.toNat ∧ c.toNat ≤ 57 then fracB ((c :: r).drop (nd (c :: r))) else false := rfl
theorem validB_cons (c : UInt8) (r : List UInt8) : validB (c :: r) = if c = 45 then intB r else intB (c :: r) := rfl

/-- The parts of a number's text. -/
def IsInt (ip : List UInt8) : Prop := ip = [48] ∨ ∃ c r, ip = c :: r ∧ digB c = true ∧ c ≠ 48 ∧ AllDig r
def ExT (y : List UInt8) : Prop := ∃ sg d, y = sg ++ d ∧ (sg = [] ∨ sg = [43] ∨ sg = [45]) ∧ d ≠ [] ∧ AllDig d
def IsFrac (f : List UInt8) : Prop := f = [] ∨ ∃ d, f = 46 :: d ∧ d ≠ [] ∧ AllDig d
def IsExp (x : List UInt8) : Prop := x = [] ∨ ∃ e y, x = e :: y ∧ (e = 101 ∨ e = 69) ∧ ExT y
def Parts (l s ip f x : List UInt8) : Prop := l = s ++ (ip ++ (f ++ x)) ∧ (s = [] ∨ s = [45]) ∧ IsInt ip ∧ IsFrac f ∧ IsExp x

theorem nd_pos {m : List UInt8} (h : 0 < nd m) : m.take (nd m) ≠ [] := fun e => by
  have := congrArg List.length e
  rw [List.length_take] at this
  have h2 := nd_le m
  rw [List.length_nil] at this
  omega
theorem exp_parts (x : List UInt8) (h : expB x = true) : IsExp x := by
  cases x with
  | nil => exact .inl rfl
  | cons c r =>
    rw [expB_cons] at h
    by_cases hc : c = 101 ∨ c = 69
    · rw [if_pos hc] at h
      simp only [Bool.and_eq_true, decide_eq_true_eq] at h
      refine .inr ⟨c, r, rfl, hc, ?_⟩
      have hall : AllDig (skipSign r) := by
        have := nd_take (skipSign r)
        rwa [h.2, List.take_length] at this
      have hne : skipSign r ≠ [] := fun e => by rw [e] at h; exact absurd h.1 (by simp [nd])
      cases r with
      | nil => exact absurd rfl hne
      | cons d t =>
        by_cases hd : d = 43 ∨ d = 45
        · have e : skipSign (d :: t) = t := by rw [skip_cons]; rw [if_pos hd]
          rw [e] at hall hne
          exact ⟨[d], t, rfl, by rcases hd with rfl | rfl <;> simp, hne, hall⟩
        · have e : skipSign (d :: t) = d :: t := by rw [skip_cons]; rw [if_neg hd]
          rw [e] at hall hne
          exact ⟨[], d :: t, rfl, .inl rfl, hne, hall⟩
    · rw [if_neg hc] at h
      cases h
theorem frac_parts (r : List UInt8) (h : fracB r = true) : ∃ f x, r = f ++ x ∧ IsFrac f ∧ IsExp x := by
  cases r with
  | nil => exact ⟨[], [], rfl, .inl rfl, .inl rfl⟩
  | cons c t =>
    rw [fracB_cons] at h
    by_cases hc : c = 46
    · rw [if_pos hc] at h
      simp only [Bool.and_eq_true, decide_eq_true_eq] at h
      subst hc
      exact ⟨46 :: t.take (nd t), t.drop (nd t), by rw [List.cons_append, List.take_append_drop], .inr ⟨_, rfl, nd_pos h.1, nd_take t⟩, exp_parts _ h.2⟩
    · rw [if_neg hc] at h
      exact ⟨[], c :: t, rfl, .inl rfl, exp_parts _ h⟩
theorem int_parts (r : List UInt8) (h : intB r = true) : ∃ ip f x, r = ip ++ (f ++ x) ∧ IsInt ip ∧ IsFrac f ∧ IsExp x := by
  cases r with
  | nil => cases h
  | cons c t =>
    rw [intB_cons] at h
    by_cases hc : c = 48
    · rw [if_pos hc] at h
      obtain ⟨f, x, rfl, hf, hx⟩ := frac_parts t h
      exact ⟨[48], f, x, by rw [hc]; rfl, .inl rfl, hf, hx⟩
    · rw [if_neg hc] at h
      by_cases hd : 49 ≤ c.toNat ∧ c.toNat ≤ 57
      · rw [if_pos hd] at h
        obtain ⟨f, x, e, hf, hx⟩ := frac_parts _ h
        have hcd : digB c = true := (digB_iff c).2 ⟨by omega, hd.2⟩
        have hn : nd (c :: t) = nd t + 1 := by
          unfold nd
          rw [List.findIdx_cons, hcd]
          rfl
        refine ⟨c :: t.take (nd t), f, x, ?_, .inr ⟨c, _, rfl, hcd, hc, nd_take t⟩, hf, hx⟩
        rw [← e, hn, List.drop_succ_cons, List.cons_append, List.take_append_drop]
      · rw [if_neg hd] at h
        cases h
theorem valid_parts (l : List UInt8) (h : validB l = true) : ∃ s ip f x, Parts l s ip f x := by
  cases l with
  | nil => cases h
  | cons c r =>
    rw [validB_cons] at h
    by_cases hc : c = 45
    · rw [if_pos hc] at h
      obtain ⟨ip, f, x, rfl, h1, h2, h3⟩ := int_parts r h
      exact ⟨[45], ip, f, x, by rw [hc]; rfl, .inr rfl, h1, h2, h3⟩
    · rw [if_neg hc] at h
      obtain ⟨ip, f, x, e, h1, h2, h3⟩ := int_parts _ h
      exact ⟨[], ip, f, x, e, .inl rfl, h1, h2, h3⟩

theorem not_dig {c : UInt8} (h : c = 46 ∨ c = 101 ∨ c = 69) : digB c = false := by rcases h with rfl | rfl | rfl <;> rfl
theorem exp_head {x : List UInt8} (h : IsExp x) : ∀ c t, x = c :: t → c = 101 ∨ c = 69 := fun c t e => by
  rcases h with rfl | ⟨e', y, rfl, he, _⟩
  · cases e
  · cases e; exact he
theorem ext_ok {y : List UInt8} (h : ExT y) : 0 < nd (skipSign y) ∧ nd (skipSign y) = (skipSign y).length := by
  obtain ⟨sg, d, rfl, hs, hd, ha⟩ := h
  have hn : nd d = d.length := by have := nd_app d [] ha (fun c t e => by cases e); rwa [List.append_nil] at this
  have hp : 0 < d.length := List.length_pos_iff.2 hd
  have e : skipSign (sg ++ d) = d := by
    rcases hs with rfl | rfl | rfl
    · cases d with
      | nil => rfl
      | cons c r =>
        have := (digB_iff c).1 ha.head
        show skipSign (c :: r) = c :: r
        rw [skip_cons]
        rw [if_neg]
        rintro (rfl | rfl)
        · exact absurd this.1 (by decide)
        · exact absurd this.1 (by decide)
    · rfl
    · rfl
  rw [e]
  omega
theorem exp_valid {x : List UInt8} (h : IsExp x) : expB x = true := by
  rcases h with rfl | ⟨e, y, rfl, he, hy⟩
  · rfl
  · rw [expB_cons]
    rw [if_pos he]
    obtain ⟨h1, h2⟩ := ext_ok hy
    rw [decide_eq_true h1, decide_eq_true h2]
    rfl
theorem frac_valid {f x : List UInt8} (hf : IsFrac f) (hx : IsExp x) : fracB (f ++ x) = true := by
  rcases hf with rfl | ⟨d, rfl, hd, ha⟩
  · show fracB x = true
    cases x with
    | nil => rfl
    | cons c t =>
      rw [fracB_cons]
      rw [if_neg (by rcases exp_head hx c t rfl with rfl | rfl <;> decide)]
      exact exp_valid hx
  · show fracB (46 :: (d ++ x)) = true
    rw [fracB_cons]
    have hn : nd (d ++ x) = d.length := nd_app d x ha (fun c t e => not_dig (.inr (exp_head hx c t e)))
    rw [if_pos rfl, hn, List.drop_left, exp_valid hx]
    simp [List.length_pos_iff.2 hd]
theorem rest_head {f x : List UInt8} (hf : IsFrac f) (hx : IsExp x) : ∀ c t, f ++ x = c :: t → digB c = false := fun c t e => by
  rcases hf with rfl | ⟨d, rfl, _, _⟩
  · exact not_dig (.inr (exp_head hx c t e))
  · cases e; exact not_dig (.inl rfl)
theorem int_valid {ip f x : List UInt8} (hi : IsInt ip) (hf : IsFrac f) (hx : IsExp x) : intB (ip ++ (f ++ x)) = true := by
  rcases hi with rfl | ⟨c, r, rfl, hc, h0, hr⟩
  · show intB (48 :: (f ++ x)) = true
    rw [intB_cons]
    rw [if_pos rfl]
    exact frac_valid hf hx
  · show intB (c :: (r ++ (f ++ x))) = true
    rw [intB_cons]
    have hcc := (digB_iff c).1 hc
    have hne : c.toNat ≠ 48 := fun e => h0 (UInt8.toNat_inj.1 e)
    have hn : nd (c :: (r ++ (f ++ x))) = (c :: r).length := nd_app (c :: r) (f ++ x) (.cons hc hr) (rest_head hf hx)
    rw [if_neg h0, if_pos ⟨by omega, hcc.2⟩, hn, List.length_cons, List.drop_succ_cons, List.drop_left]
    exact frac_valid hf hx
theorem int_head {ip : List UInt8} (hi : IsInt ip) : ∃ c r, ip = c :: r ∧ digB c = true ∧ AllDig r := by
  rcases hi with rfl | ⟨c, r, rfl, hc, _, hr⟩
  · exact ⟨48, [], rfl, rfl, .nil⟩
  · exact ⟨c, r, rfl, hc, hr⟩
theorem parts_valid {l s ip f x : List UInt8} (h : Parts l s ip f x) : validB l = true := by
  obtain ⟨rfl, hs, hi, hf, hx⟩ := h
  rcases hs with rfl | rfl
  · show validB (ip ++ (f ++ x)) = true
    have := int_valid hi hf hx
    obtain ⟨c, r, rfl, hc, _⟩ := int_head hi
    show validB (c :: (r ++ (f ++ x))) = true
    rw [validB_cons]
    rw [if_neg (by rintro rfl; exact absurd hc (by decide))]
    exact this
  · show validB (45 :: (ip ++ (f ++ x))) = true
    rw [validB_cons]
    rw [if_pos rfl]
    exact int_valid hi hf hx
end Go.Proofs.Qxb6606399aDoor
