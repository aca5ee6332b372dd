import Derived.Test.Qxb6608677aDoorFlip
namespace Go.Proofs.Qxb6608677aDoor
open Go.Lib Go.RowKit

theorem hasTok_comma (a b t : List UInt8) : hasTok (a ++ 44 :: b) t = (hasTok a t || hasTok b t) := by
  unfold hasTok
  rw [splitC_app, List.any_append]

theorem swapN_hi (v : Nat) (h : 128 ≤ v) : swapN v = v := by unfold swapN; rw [if_neg (by omega), if_neg (by omega)]
theorem swapN_lo (v : Nat) (h : v < 128) : swapN v < 128 := by unfold swapN; split <;> (try split) <;> omega
theorem swap_hi (c : UInt8) (h : 128 ≤ c.toNat) : swapB c = c := UInt8.toNat_inj.1 (by rw [swapB_nat, swapN_hi _ h])
theorem ascii_eq : (List.range 128).all (fun v => byteEq (swapN v) v && runesEq ((swapN v : Nat) : Int) (v : Int)) = true := by decide +kernel
theorem swap_byteEq (v : Nat) (h : v < 128) : byteEq (swapN v) v = true ∧ runesEq ((swapN v : Nat) : Int) (v : Int) = true := by
  have := List.all_eq_true.1 ascii_eq v (by simpa using h)
  simpa using this
theorem decodeN_like (n b0 b1 b2 b3 : Nat) (h0 : 128 ≤ b0) : decodeN n b0 (swapN b1) (swapN b2) (swapN b3) = decodeN n b0 b1 b2 b3 := by
  have key : ∀ v, (swapN v / 64 = 2 ↔ v / 64 = 2) ∧ (v / 64 = 2 → swapN v = v) := fun v => by
    rcases Nat.lt_or_ge v 128 with h | h
    · have := swapN_lo v h
      exact ⟨⟨fun e => by omega, fun e => by omega⟩, fun e => by omega⟩
    · rw [swapN_hi v h]
      exact ⟨Iff.rfl, fun _ => rfl⟩
  obtain ⟨k1, e1⟩ := key b1
  obtain ⟨k2, e2⟩ := key b2
  obtain ⟨k3, e3⟩ := key b3
  unfold decodeN
  rw [if_neg (show ¬ b0 < 128 by omega), if_neg (show ¬ b0 < 128 by omega)]
  by_cases c1 : b0 / 32 = 6 ∧ (1 < n ∧ b1 / 64 = 2)
  · rw [if_pos (show b0 / 32 = 6 ∧ (1 < n ∧ swapN b1 / 64 = 2) from ⟨c1.1, c1.2.1, k1.2 c1.2.2⟩), if_pos c1, e1 c1.2.2]
  · rw [if_neg (show ¬ (b0 / 32 = 6 ∧ (1 < n ∧ swapN b1 / 64 = 2)) from fun h => c1 ⟨h.1, h.2.1, k1.1 h.2.2⟩), if_neg c1]
    by_cases c2 : b0 / 16 = 14 ∧ (1 < n ∧ b1 / 64 = 2) ∧ (2 < n ∧ b2 / 64 = 2)
    · rw [if_pos (show b0 / 16 = 14 ∧ (1 < n ∧ swapN b1 / 64 = 2) ∧ (2 < n ∧ swapN b2 / 64 = 2) from ⟨c2.1, ⟨c2.2.1.1, k1.2 c2.2.1.2⟩, c2.2.2.1, k2.2 c2.2.2.2⟩), if_pos c2, e1 c2.2.1.2, e2 c2.2.2.2]
    · rw [if_neg (show ¬ (b0 / 16 = 14 ∧ (1 < n ∧ swapN b1 / 64 = 2) ∧ (2 < n ∧ swapN b2 / 64 = 2)) from fun h => c2 ⟨h.1, ⟨h.2.1.1, k1.1 h.2.1.2⟩, h.2.2.1, k2.1 h.2.2.2⟩), if_neg c2]
      by_cases c3 : b0 / 8 = 30 ∧ (1 < n ∧ b1 / 64 = 2) ∧ (2 < n ∧ b2 / 64 = 2) ∧ (3 < n ∧ b3 / 64 = 2)
      · rw [if_pos (show b0 / 8 = 30 ∧ (1 < n ∧ swapN b1 / 64 = 2) ∧ (2 < n ∧ swapN b2 / 64 = 2) ∧ (3 < n ∧ swapN b3 / 64 = 2) from ⟨c3.1, ⟨c3.2.1.1, k1.2 c3.2.1.2⟩, ⟨c3.2.2.1.1, k2.2 c3.2.2.1.2⟩, c3.2.2.2.1, k3.2 c3.2.2.2.2⟩), if_pos c3, e1 c3.2.1.2, e2 c3.2.2.1.2, e3 c3.2.2.2.2]
      · rw [if_neg (show ¬ (b0 / 8 = 30 ∧ (1 < n ∧ swapN b1 / 64 = 2) ∧ (2 < n ∧ swapN b2 / 64 = 2) ∧ (3 < n ∧ swapN b3 / 64 = 2)) from fun h => c3 ⟨h.1, ⟨h.2.1.1, k1.1 h.2.1.2⟩, ⟨h.2.2.1.1, k2.1 h.2.2.1.2⟩, h.2.2.2.1, k3.1 h.2.2.2.2⟩), if_neg c3]
theorem getD_swap (l : List UInt8) (i : Nat) : ((swapL l).getD i 0).toNat = swapN (l.getD i 0).toNat := by
  rw [List.getD_eq_getElem?_getD, List.getD_eq_getElem?_getD, swapL, List.getElem?_map]
  cases l[i]? with
  | none => rfl
  | some c => exact swapB_nat c
theorem swapL_len (l : List UInt8) : (swapL l).length = l.length := by simp [swapL]
theorem swapL_drop (l : List UInt8) (n : Nat) : (swapL l).drop n = swapL (l.drop n) := by simp [swapL, List.map_drop]
/-- The first rune of a text and of the swapped text. -/
theorem dec_swap (l : List UInt8) (h : l ≠ []) : (decodeL (swapL l)).2 = (decodeL l).2 ∧ runesEq ((decodeL (swapL l)).1 : Int) ((decodeL l).1 : Int) = true := by
  cases l with
  | nil => exact absurd rfl h
  | cons c r =>
    by_cases hc : c.toNat < 128
    · have h1 : (swapB c).toNat < 128 := by rw [swapB_nat]; exact swapN_lo _ hc
      rw [show swapL (c :: r) = swapB c :: swapL r from rfl, decodeL_ascii _ _ hc, decodeL_ascii _ _ h1, swapB_nat]
      exact ⟨rfl, (swap_byteEq _ hc).2⟩
    · have e : decodeL (swapL (c :: r)) = decodeL (c :: r) := by
        rw [decodeL_N, decodeL_N, swapL_len, getD_swap, getD_swap, getD_swap, getD_swap]
        have h0 : ((c :: r).getD 0 0).toNat = c.toNat := rfl
        rw [h0, swapN_hi _ (by omega)]
        exact decodeN_like _ _ _ _ _ (by omega)
      rw [e]
      exact ⟨rfl, by unfold runesEq; rw [if_pos rfl]⟩
theorem efU_swap (f : Nat) : ∀ l : List UInt8, l.length < f → efU f (swapL l) l = true := by
  induction f with
  | zero => intro l h; omega
  | succ f ih =>
    intro l h
    by_cases h0 : l = []
    · subst h0
      rw [efU, if_pos rfl]
      rfl
    · have hs : swapL l ≠ [] := fun e => h0 (List.eq_nil_of_length_eq_zero (by rw [← swapL_len, e]; rfl))
      obtain ⟨d1, d2⟩ := dec_swap l h0
      have hw := decodeL_width l
      have hp := List.length_pos_iff.2 h0
      rw [efU, if_neg hs, if_neg h0, d2, if_pos rfl, d1, swapL_drop]
      exact ih _ (by rw [List.length_drop]; omega)
theorem efA_swap (l : List UInt8) : efA (swapL l) l = true := by
  induction l with
  | nil => rfl
  | cons c l ih =>
    show efA (swapB c :: swapL l) (c :: l) = true
    by_cases hc : 128 ≤ c.toNat
    · rw [efA_u _ _ _ _ (.inr hc), swapL_len]
      exact efU_swap _ (c :: l) (by rw [List.length_cons]; omega)
    · have h1 : ¬ (128 ≤ (swapB c).toNat ∨ 128 ≤ c.toNat) := by
        have := swapN_lo c.toNat (by omega)
        rw [swapB_nat]
        omega
      rw [efA_yes _ _ _ _ h1 (by rw [swapB_nat]; exact (swap_byteEq _ (by omega)).1)]
      exact ih
theorem sameT_swap (l : List UInt8) : sameT (swapL l) l = true := by
  unfold sameT
  rw [swapL_len, efA_swap]
  simp
theorem sp_swap : (List.range 256).all (fun v => isSp (swapB (UInt8.ofNat v)) == isSp (UInt8.ofNat v)) = true := by decide +kernel
theorem isSp_swap (c : UInt8) : isSp (swapB c) = isSp c := by
  have := List.all_eq_true.1 sp_swap c.toNat (by simpa using c.toNat_lt)
  rw [UInt8.ofNat_toNat] at this
  simpa using this
theorem comma_swap : (List.range 256).all (fun v => (swapB (UInt8.ofNat v) == 44) == (UInt8.ofNat v == 44)) = true := by decide +kernel
theorem swap_comma (c : UInt8) (h : c ≠ 44) : swapB c ≠ 44 := fun e => by
  have := List.all_eq_true.1 comma_swap c.toNat (by simpa using c.toNat_lt)
  rw [UInt8.ofNat_toNat, e] at this
  exact h (by simpa using this)
theorem trim_item (l : List UInt8) (h : l = [] ∨ (isSp (l.getD 0 0) = false ∧ isSp (l.getD (l.length - 1) 0) = false)) : cutR (cutL (32 :: (swapL l ++ [9]))) = swapL l := by
  rw [cutL_sp 32 _ rfl]
  cases l with
  | nil => rfl
  | cons c r =>
    rcases h with h | ⟨h1, h2⟩
    · cases h
    · have h1' : isSp c = false := h1
      rw [show swapL (c :: r) ++ [9] = swapB c :: (swapL r ++ [9]) from rfl, cutL_no _ _ (by rw [isSp_swap]; exact h1')]
      rw [show swapB c :: (swapL r ++ [9]) = swapL (c :: r) ++ [9] from rfl, cutR_sp 9 _ rfl]
      obtain ⟨t, y, e⟩ : ∃ t y, c :: r = t ++ [y] := ⟨(c :: r).dropLast, (c :: r).getLast (by simp), (List.dropLast_concat_getLast (by simp)).symm⟩
      rw [e] at h2 ⊢
      have h2' : isSp y = false := by
        rw [List.getD_eq_getElem?_getD, List.length_append, List.length_singleton, Nat.add_sub_cancel, List.getElem?_append_right (Nat.le_refl _), Nat.sub_self] at h2
        exact h2
      rw [show swapL (t ++ [y]) = swapL t ++ [swapB y] by simp [swapL], cutR_no _ _ (by rw [isSp_swap]; exact h2')]
theorem hasTok_item (a b t : List UInt8) (h : plainB t = true) : hasTok (a ++ ([44, 32] ++ (swapL t ++ ([9, 44] ++ b)))) t = true := by
  unfold plainB at h
  rw [Bool.and_eq_true, decide_eq_true_iff] at h
  obtain ⟨h1, h2⟩ := h
  have h3 : t = [] ∨ (isSp (t.getD 0 0) = false ∧ isSp (t.getD (t.length - 1) 0) = false) := by
    rw [Bool.or_eq_true, decide_eq_true_iff, Bool.and_eq_true] at h2
    rcases h2 with h2 | ⟨h2, h4⟩
    · exact .inl (List.eq_nil_of_length_eq_zero h2)
    · exact .inr ⟨by simpa using h2, by simpa using h4⟩
  have e : a ++ ([44, 32] ++ (swapL t ++ ([9, 44] ++ b))) = a ++ 44 :: ((32 :: (swapL t ++ [9])) ++ 44 :: b) := by simp
  rw [e, hasTok_comma, hasTok_comma]
  have h5 : hasTok (32 :: (swapL t ++ [9])) t = true := by
    unfold hasTok
    rw [splitC_plain]
    · show (sameT (cutR (cutL (32 :: (swapL t ++ [9])))) t || false) = true
      rw [trim_item t h3, sameT_swap]
      rfl
    · intro c hc
      rcases List.mem_cons.1 hc with rfl | hc
      · decide
      · rcases List.mem_append.1 hc with hc | hc
        · obtain ⟨d, hd, rfl⟩ := List.mem_map.1 hc
          exact swap_comma d (fun e' => h1 (e' ▸ hd))
        · obtain rfl : c = 9 := by simpa using hc
          decide
  rw [h5]
  simp
end Go.Proofs.Qxb6608677aDoor
