import Derived.Test.Qxb6608677aDoorEqW
namespace Go.Proofs.Qxb6608677aDoor
open Go.RowKit Go.Lib

def isSp (c : UInt8) : Bool := c == 32 || (c == 9 || (c == 10 || c == 13))
theorem isSp_of (c : UInt8) (h : c.toNat = 32 ∨ c.toNat = 9 ∨ c.toNat = 10 ∨ c.toNat = 13) : isSp c = true := by
  have key : ∀ d : UInt8, c.toNat = d.toNat → c = d := fun d e => UInt8.toNat_inj.1 e
  rcases h with h | h | h | h
  · rw [key 32 h]; rfl
  · rw [key 9 h]; rfl
  · rw [key 10 h]; rfl
  · rw [key 13 h]; rfl
theorem isSp_not (c : UInt8) (h : ¬ (c.toNat = 32 ∨ c.toNat = 9 ∨ c.toNat = 10 ∨ c.toNat = 13)) : isSp c = false := by
  unfold isSp
  have key : ∀ d : UInt8, c.toNat ≠ d.toNat → (c == d) = false := fun d e => beq_eq_false_iff_ne.2 (fun e' => e (by rw [e']))
  rw [key 32 (fun e => h (.inl e)), key 9 (fun e => h (.inr (.inl e))), key 10 (fun e => h (.inr (.inr (.inl e)))), key 13 (fun e => h (.inr (.inr (.inr e))))]
  rfl
theorem sp_call (c : UInt8) (w : World) : Calls Tryd.prog 39 #[.int .u8 (c.toNat : Int)] w fun e w' => e = .returned (.bool (isSp c)) ∧ w = w' := by
  obtain ⟨k, hk⟩ : ∃ k, Hid (k = c.toNat) := ⟨_, rfl⟩
  obtain ⟨B, hB⟩ : ∃ B, Hid (B = isSp c) := ⟨_, rfl⟩
  rw [← hk.out, ← hB.out]
  by_cases h : k = 32 ∨ k = 9 ∨ k = 10 ∨ k = 13
  · have e : B = true := by rw [hB.out]; exact isSp_of c (by rw [← hk.out]; exact h)
    subst e
    rcases h with rfl | rfl | rfl | rfl <;>
    · go_enter Tryd.func39, Tryd.ntmps39
      go_wp2
      go_ret
      exact ⟨rfl, rfl⟩
  · have e : B = false := by rw [hB.out]; exact isSp_not c (by rw [← hk.out]; exact h)
    subst e
    have h1 : ((k : Int) == 32) = false := beq_eq_false_iff_ne.2 (by omega)
    have h2 : ((k : Int) == 9) = false := beq_eq_false_iff_ne.2 (by omega)
    have h3 : ((k : Int) == 10) = false := beq_eq_false_iff_ne.2 (by omega)
    have h4 : ((k : Int) == 13) = false := beq_eq_false_iff_ne.2 (by omega)
    clear h
    go_enter Tryd.func39, Tryd.ntmps39
    go_wp2
    go_ret
    exact ⟨rfl, rfl⟩
theorem ows_call (c : UInt8) (w : World) : Calls Tryd.prog 26 #[.int .u8 (c.toNat : Int)] w fun e w' => e = .returned (.bool (isSp c)) ∧ w = w' := by
  obtain ⟨k, hk⟩ : ∃ k, Hid (k = c.toNat) := ⟨_, rfl⟩
  obtain ⟨B, hB⟩ : ∃ B, Hid (B = isSp c) := ⟨_, rfl⟩
  rw [← hk.out, ← hB.out]
  by_cases h : k = 32 ∨ k = 9 ∨ k = 10 ∨ k = 13
  · have e : B = true := by rw [hB.out]; exact isSp_of c (by rw [← hk.out]; exact h)
    subst e
    rcases h with rfl | rfl | rfl | rfl <;>
    · go_enter Tryd.func26, Tryd.ntmps26
      go_wp2
      go_ret
      exact ⟨rfl, rfl⟩
  · have e : B = false := by rw [hB.out]; exact isSp_not c (by rw [← hk.out]; exact h)
    subst e
    have h1 : ((k : Int) == 32) = false := beq_eq_false_iff_ne.2 (by omega)
    have h2 : ((k : Int) == 9) = false := beq_eq_false_iff_ne.2 (by omega)
    have h3 : ((k : Int) == 10) = false := beq_eq_false_iff_ne.2 (by omega)
    have h4 : ((k : Int) == 13) = false := beq_eq_false_iff_ne.2 (by omega)
    clear h
    go_enter Tryd.func26, Tryd.ntmps26
    go_wp2
    go_ret
    exact ⟨rfl, rfl⟩

/-- textproto.TrimString. -/
def cutL (l : List UInt8) : List UInt8 := l.dropWhile isSp
def cutR (l : List UInt8) : List UInt8 := (l.reverse.dropWhile isSp).reverse
theorem cutL_sp (c : UInt8) (l : List UInt8) (h : isSp c = true) : cutL (c :: l) = cutL l := by unfold cutL; rw [List.dropWhile_cons, if_pos h]
theorem cutL_no (c : UInt8) (l : List UInt8) (h : isSp c = false) : cutL (c :: l) = c :: l := by unfold cutL; rw [List.dropWhile_cons, h]; rfl
theorem cutR_sp (c : UInt8) (l : List UInt8) (h : isSp c = true) : cutR (l ++ [c]) = cutR l := by unfold cutR; rw [List.reverse_append]; show ((c :: l.reverse).dropWhile isSp).reverse = _; rw [List.dropWhile_cons, if_pos h]
theorem cutR_no (c : UInt8) (l : List UInt8) (h : isSp c = false) : cutR (l ++ [c]) = l ++ [c] := by unfold cutR; rw [List.reverse_append]; show ((c :: l.reverse).dropWhile isSp).reverse = _; rw [List.dropWhile_cons, h]; simp
theorem tail_list (T : ByteArray) (n : Nat) : (T.extract n T.size).data.toList = T.data.toList.drop n := by
  rw [Lib.extract_data, List.take_of_length_le (by rw [List.length_drop, ← Lib.size_eq]; omega)]
theorem head_list (T : ByteArray) (n : Nat) : (T.extract 0 n).data.toList = T.data.toList.take n := by
  rw [Lib.extract_data, List.drop_zero, Nat.sub_zero]

set_option maxHeartbeats 4000000 in
set_option maxRecDepth 100000 in
theorem trim_call (s : ByteArray) (hs : s.size ≤ 4194304) (w : World) : Calls Tryd.prog 33 #[.string s] w fun e w' => ∃ U : ByteArray, e = .returned (.string U) ∧ Hid (U.data.toList = cutR (cutL s.data.toList)) ∧ U.size ≤ s.size ∧ w = w' := by
  go_enter Tryd.func33, Tryd.ntmps33
  go_upto_block 0 with fail
  go_cut [0] (fun s0 wx => ∃ T : ByteArray, s0 = .string T ∧ Hid (T.data.toList = cutL s.data.toList) ∧ T.size ≤ s.size ∧ w = wx)
  case first =>
    as_aux_lemma =>
      go_wp2_with fail
      go_loopg [0] s.size (fun g s0 wx => ∃ T : ByteArray, T.size ≤ g ∧ s0 = .string T ∧ Hid (cutL T.data.toList = cutL s.data.toList) ∧ T.size ≤ s.size ∧ w = wx)
      case atStart => exact ⟨s, Nat.le_refl _, rfl, rfl, Nat.le_refl _, rfl⟩
      case round =>
        obtain ⟨T, hg, rfl, HT, hTs, rfl⟩ := hrel
        by_cases h0 : 0 < T.size
        · have h0z : (0 : Int) < (T.size : Int) := by omega
          obtain ⟨x, hx⟩ : ∃ x : UInt8, T[0]'(by omega) = x := ⟨_, rfl⟩
          have hxl : T.data.toList[0]? = some x := by rw [← hx]; exact Lib.data_getElem? T 0 (by omega)
          have HD := hide (Lib.drop_at hxl)
          rw [List.drop_zero] at HD
          clear hxl
          have HSP := hide (sp_call x w)
          by_cases hsp : isSp x = true
          · rw [hsp] at HSP
            obtain ⟨T', hT'⟩ : ∃ T', Hid (T' = T.extract 1 T.size) := ⟨_, rfl⟩
            have HN : Hid (cutL T'.data.toList = cutL s.data.toList) := by rw [Hid, hT'.out, tail_list, ← HT.out, unhide HD, cutL_sp _ _ hsp]; rfl
            have hsz : T'.size = T.size - 1 := by rw [Lib.size_eq, hT'.out, tail_list, List.length_drop, ← Lib.size_eq]
            have h1z : (1 : Int) ≤ (T.size : Int) := by omega
            have hsz1 : T'.size ≤ T.size - 1 := by omega
            clear hsz hsp
            go_wp2_with fail
            refine (unhide HSP).mono ?_
            rintro e w1 ⟨rfl, rfl⟩
            go_wp2_with fail
            rw [← hT'.out]
            go_roundg (gk - 1)
            case measure => omega
            case rel => exact ⟨T', by omega, rfl, HN, by omega, rfl⟩
          · have hsp' : isSp x = false := by simpa using hsp
            rw [hsp'] at HSP
            have HN : Hid (T.data.toList = cutL s.data.toList) := by rw [Hid, ← HT.out, unhide HD, cutL_no _ _ hsp']
            clear hsp hsp'
            go_wp2_with fail
            refine (unhide HSP).mono ?_
            rintro e w1 ⟨rfl, rfl⟩
            go_wp2_with fail
            go_meet
            case rel => exact ⟨T, rfl, HN, hTs, rfl⟩
        · have h0z : ¬ ((0 : Int) < (T.size : Int)) := by omega
          have HN : Hid (T.data.toList = cutL s.data.toList) := by
            have : T.data.toList = [] := List.eq_nil_of_length_eq_zero (by rw [← Lib.size_eq]; omega)
            rw [Hid, ← HT.out, this]; rfl
          go_wp2_with fail
          go_meet
          case rel => exact ⟨T, rfl, HN, hTs, rfl⟩
  case rest =>
  obtain ⟨T0, rfl, HT0, hT0s, rfl⟩ := hcut
  go_wp2_with fail
  go_loopg [0] T0.size (fun g s0 wx => ∃ T : ByteArray, T.size ≤ g ∧ s0 = .string T ∧ Hid (cutR T.data.toList = cutR (cutL s.data.toList)) ∧ T.size ≤ s.size ∧ w = wx)
  case atStart => exact ⟨T0, Nat.le_refl _, rfl, by rw [Hid, unhide HT0], hT0s, rfl⟩
  case round =>
    obtain ⟨T, hg, rfl, HT, hTs, rfl⟩ := hrel
    by_cases h0 : 0 < T.size
    · have h0z : (0 : Int) < (T.size : Int) := by omega
      obtain ⟨n, hn⟩ : ∃ n, Hid (n = T.size - 1) := ⟨_, rfl⟩
      have hnl : n < T.size := by rw [hn.out]; omega
      have hnz : (T.size : Int) - 1 = (n : Int) := by rw [hn.out]; omega
      obtain ⟨x, hx⟩ : ∃ x : UInt8, T[n]'(by omega) = x := ⟨_, rfl⟩
      have hxl : T.data.toList[n]? = some x := by rw [← hx]; exact Lib.data_getElem? T n (by omega)
      have HD : Hid (T.data.toList = T.data.toList.take n ++ [x]) := by
        have h3 := List.take_add_one (l := T.data.toList) (i := n)
        rw [hxl, List.take_of_length_le (by rw [← Lib.size_eq, hn.out]; omega)] at h3
        exact h3
      clear hxl
      have HSP := hide (sp_call x w)
      by_cases hsp : isSp x = true
      · rw [hsp] at HSP
        obtain ⟨T', hT'⟩ : ∃ T', Hid (T' = T.extract 0 n) := ⟨_, rfl⟩
        have HN : Hid (cutR T'.data.toList = cutR (cutL s.data.toList)) := by rw [Hid, hT'.out, head_list, ← HT.out, ← cutR_sp x _ hsp, ← unhide HD]
        have hsz1 : T'.size ≤ T.size - 1 := by rw [Lib.size_eq, hT'.out, head_list, List.length_take, ← Lib.size_eq]; omega
        clear hsp
        go_wp2_with fail
        refine (unhide HSP).mono ?_
        rintro e w1 ⟨rfl, rfl⟩
        go_wp2_with fail
        rw [← hT'.out]
        go_roundg (gk - 1)
        case measure => omega
        case rel => exact ⟨T', by omega, rfl, HN, by omega, rfl⟩
      · have hsp' : isSp x = false := by simpa using hsp
        rw [hsp'] at HSP
        have HN : Hid (T.data.toList = cutR (cutL s.data.toList)) := by
          rw [Hid, ← HT.out]
          have h3 := cutR_no x (T.data.toList.take n) hsp'
          rw [← unhide HD] at h3
          exact h3.symm
        clear hsp hsp'
        go_wp2_with fail
        refine (unhide HSP).mono ?_
        rintro e w1 ⟨rfl, rfl⟩
        go_wp2_with fail
        go_ret
        exact ⟨T, rfl, HN, hTs, rfl⟩
    · have h0z : ¬ ((0 : Int) < (T.size : Int)) := by omega
      have HN : Hid (T.data.toList = cutR (cutL s.data.toList)) := by
        have : T.data.toList = [] := List.eq_nil_of_length_eq_zero (by rw [← Lib.size_eq]; omega)
        rw [Hid, ← HT.out, this]; rfl
      go_wp2_with fail
      go_ret
      exact ⟨T, rfl, HN, hTs, rfl⟩

/-- http1.SameToken. -/
def sameT (l m : List UInt8) : Bool := decide (l.length = m.length) && (decide (l = m) || efA l m)
set_option maxHeartbeats 1000000 in
theorem same_call (s t : ByteArray) (hs : s.size ≤ 1048576) (ht : t.size ≤ 1048576) (w : World) (hT : FoldTabs w) :
    Calls Tryd.prog 32 #[.string s, .string t] w fun e w' => e = .returned (.bool (sameT s.data.toList t.data.toList)) ∧ Below w.heap.size w w' := by
  have HEF := hide (ef_call s t hs ht w hT)
  clear hT
  obtain ⟨R, hR⟩ : ∃ R, Hid (R = sameT s.data.toList t.data.toList) := ⟨_, rfl⟩
  rw [← hR.out]
  by_cases h1 : s.size = t.size
  · have h1b : ((s.size : Int) == (t.size : Int)) = true := beq_iff_eq.2 (by omega)
    by_cases h2 : s = t
    · have e : R = true := by
        rw [hR.out, h2]
        unfold sameT
        simp
      subst e
      subst h2
      clear h1 HEF
      go_enter Tryd.func32, Tryd.ntmps32
      go_wp2_with fail
      go_ret
      exact ⟨rfl, Below.refl _ _⟩
    · have hne : (s.toList == t.toList) = false := beq_eq_false_iff_ne.2 (fun e => h2 (by
        rw [Lib.toList_data, Lib.toList_data] at e
        have h3 := Lib.mk_data s
        rw [e, Lib.mk_data t] at h3
        exact h3.symm))
      have HRe : Hid (R = efA s.data.toList t.data.toList) := by
        rw [Hid, hR.out]
        unfold sameT
        rw [decide_eq_true (by rw [← Lib.size_eq, ← Lib.size_eq]; exact h1), decide_eq_false (fun e => h2 (by
          have h3 := Lib.mk_data s
          rw [e, Lib.mk_data t] at h3
          exact h3.symm))]
        simp
      clear h1
      go_enter Tryd.func32, Tryd.ntmps32
      go_wp2_with fail
      refine (unhide HEF).mono ?_
      rintro e w1 ⟨rfl, hb⟩
      rw [← unhide HRe]
      go_wp2_with fail
      go_ret
      exact ⟨rfl, hb⟩
  · have h1b : ((s.size : Int) == (t.size : Int)) = false := beq_eq_false_iff_ne.2 (by omega)
    have e : R = false := by
      rw [hR.out]
      unfold sameT
      rw [decide_eq_false (by rw [← Lib.size_eq, ← Lib.size_eq]; exact h1)]
      rfl
    subst e
    clear h1 HEF
    go_enter Tryd.func32, Tryd.ntmps32
    go_wp2_with fail
    go_ret
    exact ⟨rfl, Below.refl _ _⟩
end Go.Proofs.Qxb6608677aDoor
