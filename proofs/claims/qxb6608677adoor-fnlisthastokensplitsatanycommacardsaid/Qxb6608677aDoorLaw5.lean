import Derived.Test.Qxb6608677aDoorTokP
namespace Go.Proofs.Qxb6608677aDoor
open Go.RowKit Go.Lib

theorem zz14_ok (a b t : ByteArray) (h : a.size + b.size + t.size ≤ 1048576) (w : World) : Calls Tryd.prog 14 #[.string a, .string b, .string t] w fun e w' => e = .returned (.bool true) ∧ w = w' := by
  have h1 : a.size ≤ 1048576 := by omega
  have h2 : b.size ≤ 1048576 := by omega
  have h3 : t.size ≤ 1048576 := by omega
  have h4 : (a.size : Int) + (b.size : Int) ≤ 1048576 := by omega
  have h5 : (a.size : Int) + (b.size : Int) + (t.size : Int) ≤ 1048576 := by omega
  go_enter Tryd.func14, Tryd.ntmps14
  go_wp2_with fail
  go_ret
  exact ⟨rfl, rfl⟩
set_option maxHeartbeats 1000000 in
theorem zz14_no (a b t : ByteArray) (h : 1048576 < a.size + b.size + t.size) (w : World) : Calls Tryd.prog 14 #[.string a, .string b, .string t] w fun e w' => e = .returned (.bool false) ∧ w = w' := by
  by_cases h1 : 1048576 < a.size
  · have h1z : (1048576 : Int) < (a.size : Int) := by omega
    go_enter Tryd.func14, Tryd.ntmps14
    go_wp2_with fail
    go_ret
    exact ⟨rfl, rfl⟩
  · have h1' : a.size ≤ 1048576 := by omega
    by_cases h2 : 1048576 < b.size
    · have h2z : (1048576 : Int) < (b.size : Int) := by omega
      go_enter Tryd.func14, Tryd.ntmps14
      go_wp2_with fail
      go_ret
      exact ⟨rfl, rfl⟩
    · have h2' : b.size ≤ 1048576 := by omega
      by_cases h3 : 1048576 < a.size + b.size
      · have h3z : (1048576 : Int) < (a.size : Int) + (b.size : Int) := by omega
        go_enter Tryd.func14, Tryd.ntmps14
        go_wp2_with fail
        go_ret
        exact ⟨rfl, rfl⟩
      · have h3' : (a.size : Int) + (b.size : Int) ≤ 1048576 := by omega
        by_cases h4 : 1048576 < t.size
        · have h4z : (1048576 : Int) < (t.size : Int) := by omega
          go_enter Tryd.func14, Tryd.ntmps14
          go_wp2_with fail
          go_ret
          exact ⟨rfl, rfl⟩
        · have h4' : t.size ≤ 1048576 := by omega
          have h5z : (1048576 : Int) < (a.size : Int) + (b.size : Int) + (t.size : Int) := by omega
          go_enter Tryd.func14, Tryd.ntmps14
          go_wp2_with fail
          go_ret
          exact ⟨rfl, rfl⟩
theorem law5_big (a b t : ByteArray) (h : 262144 < a.size ∨ 262144 < b.size ∨ 262144 < t.size) (w : World) : Calls Tryd.prog 5 #[.string a, .string b, .string t] w fun e w' => e = .returned (.bool true) ∧ Below w.heap.size w w' := by
  by_cases hs : a.size + b.size + t.size ≤ 1048576
  · have HZ := hide (zz14_ok a b t hs w)
    by_cases h1 : 262144 < a.size
    · have h1z : (262144 : Int) < (a.size : Int) := by omega
      go_enter Tryd.func5, Tryd.ntmps5
      go_wp2_with fail
      refine (unhide HZ).mono ?_
      rintro e w1 ⟨rfl, rfl⟩
      go_wp2_with fail
      go_ret
      exact ⟨rfl, Below.refl _ _⟩
    · have h1' : a.size ≤ 262144 := by omega
      by_cases h2 : 262144 < b.size
      · have h2z : (262144 : Int) < (b.size : Int) := by omega
        go_enter Tryd.func5, Tryd.ntmps5
        go_wp2_with fail
        refine (unhide HZ).mono ?_
        rintro e w1 ⟨rfl, rfl⟩
        go_wp2_with fail
        go_ret
        exact ⟨rfl, Below.refl _ _⟩
      · have h2' : b.size ≤ 262144 := by omega
        have h3z : (262144 : Int) < (t.size : Int) := by omega
        go_enter Tryd.func5, Tryd.ntmps5
        go_wp2_with fail
        refine (unhide HZ).mono ?_
        rintro e w1 ⟨rfl, rfl⟩
        go_wp2_with fail
        go_ret
        exact ⟨rfl, Below.refl _ _⟩
  · have HZ := hide (zz14_no a b t (by omega) w)
    go_enter Tryd.func5, Tryd.ntmps5
    go_wp2_with fail
    refine (unhide HZ).mono ?_
    rintro e w1 ⟨rfl, rfl⟩
    go_wp2_with fail
    go_ret
    exact ⟨rfl, Below.refl _ _⟩
theorem app_list (x y : ByteArray) : (x ++ y).data.toList = x.data.toList ++ y.data.toList := by simp
theorem app_size (x y : ByteArray) : (x ++ y).size = x.size + y.size := by rw [Lib.size_eq, app_list, List.length_append, ← Lib.size_eq, ← Lib.size_eq]
set_option maxHeartbeats 4000000 in
set_option maxRecDepth 100000 in
theorem law5_any (a b t : ByteArray) (ha : a.size ≤ 262144) (hb : b.size ≤ 262144) (ht : t.size ≤ 262144) (w : World) (hT : FoldTabs w) : Calls Tryd.prog 5 #[.string a, .string b, .string t] w fun e w' => e = .returned (.bool true) ∧ Below w.heap.size w w' := by
  have HZ := hide (zz14_ok a b t (by omega) w)
  have HT := hide hT
  clear hT
  go_enter Tryd.func5, Tryd.ntmps5
  go_wp2_with fail
  refine (unhide HZ).mono ?_
  rintro e w1 ⟨rfl, rfl⟩
  obtain ⟨A, hA⟩ : ∃ A, Hid (A = hasTok a.data.toList t.data.toList) := ⟨_, rfl⟩
  obtain ⟨C, hC⟩ : ∃ C, Hid (C = hasTok b.data.toList t.data.toList) := ⟨_, rfl⟩
  have HH1 := hide (zhas_call (a ++ ⟨#[44]⟩ ++ b) t (by rw [app_size, app_size]; show a.size + 1 + b.size ≤ _; omega) (by omega) w (unhide HT))
  rw [show hasTok (a ++ ⟨#[44]⟩ ++ b : ByteArray).data.toList t.data.toList = (A || C) by
    rw [app_list, app_list, List.append_assoc, hA.out, hC.out]
    exact hasTok_comma _ _ _] at HH1
  have HH2 : Hid (∀ w', FoldTabs w' → Calls Tryd.prog 15 #[.string a, .string t] w' fun e w'' => e = .returned (.bool A) ∧ Below w'.heap.size w' w'') := fun w' h => by
    rw [hA.out]
    exact zhas_call a t (by omega) (by omega) w' h
  have HH3 : Hid (∀ w', FoldTabs w' → Calls Tryd.prog 15 #[.string b, .string t] w' fun e w'' => e = .returned (.bool C) ∧ Below w'.heap.size w' w'') := fun w' h => by
    rw [hC.out]
    exact zhas_call b t (by omega) (by omega) w' h
  have HPL : Hid (∀ w', Calls Tryd.prog 16 #[.string t] w' fun e w'' => e = .returned (.bool (plainB t.data.toList)) ∧ w' = w'') := fun w' => plain_call t (by omega) w'
  have HSW : Hid (∀ w', Calls Tryd.prog 17 #[.string t] w' fun e w'' => e = .returned (.string ⟨(swapL t.data.toList).toArray⟩) ∧ Below w'.heap.size w' w'') := fun w' => swap_call t (by omega) w'
  obtain ⟨PL, hPL⟩ : ∃ PL, Hid (PL = plainB t.data.toList) := ⟨_, rfl⟩
  rw [← hPL.out] at HPL
  obtain ⟨SW, hSW⟩ : ∃ SW : ByteArray, Hid (SW = ⟨(swapL t.data.toList).toArray⟩) := ⟨_, rfl⟩
  rw [← hSW.out] at HSW
  have HSL : Hid (SW.data.toList = swapL t.data.toList) := by rw [Hid, hSW.out]
  have hSs : SW.size ≤ 262144 := by rw [Lib.size_eq, unhide HSL, swapL_len, ← Lib.size_eq]; exact ht
  have HFIN : Hid (PL = true → ∀ w', FoldTabs w' → Calls Tryd.prog 15 #[.string (a ++ ⟨#[44, 32]⟩ ++ SW ++ ⟨#[9, 44]⟩ ++ b), .string t] w' fun e w'' => e = .returned (.bool true) ∧ Below w'.heap.size w' w'') := fun hp w' h => by
    have h3 := zhas_call (a ++ ⟨#[44, 32]⟩ ++ SW ++ ⟨#[9, 44]⟩ ++ b) t (by rw [app_size, app_size, app_size, app_size]; show a.size + 2 + SW.size + 2 + b.size ≤ _; omega) (by omega) w' h
    rw [show hasTok (a ++ ⟨#[44, 32]⟩ ++ SW ++ ⟨#[9, 44]⟩ ++ b : ByteArray).data.toList t.data.toList = true by
      rw [app_list, app_list, app_list, app_list, unhide HSL, List.append_assoc, List.append_assoc, List.append_assoc]
      exact hasTok_item _ _ _ (by rw [← hPL.out]; exact hp)] at h3
    exact h3
  clear hA hC hPL HSL hSW
  go_wp2_with fail
  refine (unhide HH1).mono ?_
  rintro e w1 ⟨rfl, hb1⟩
  have HT1 := hide ((unhide HT).later hb1)
  go_wp2_with fail
  refine ((unhide HH2) w1 (unhide HT1)).mono ?_
  rintro e w2 ⟨rfl, hb2⟩
  have hb02 : Below w.heap.size w w2 := hb1.trans (hb2.mono hb1.size)
  have HT2 := hide ((unhide HT).later hb02)
  clear HH1 HT1
  cases A with
  | true =>
    as_aux_lemma =>
      go_wp2_with fail
      refine ((unhide HPL) w2).mono ?_
      rintro e w3 ⟨rfl, rfl⟩
      cases PL with
      | true =>
        go_wp2_with fail
        refine ((unhide HSW) w2).mono ?_
        rintro e w4 ⟨rfl, hb4⟩
        have hb04 : Below w.heap.size w w4 := hb02.trans (hb4.mono hb02.size)
        have HT4 := hide ((unhide HT).later hb04)
        go_wp2_with fail
        refine ((unhide HFIN) (by first | trivial | rfl) w4 (unhide HT4)).mono ?_
        rintro e w5 ⟨rfl, hb5⟩
        go_wp2_with fail
        go_ret
        exact ⟨rfl, hb04.trans (hb5.mono hb04.size)⟩
      | false =>
        go_wp2_with fail
        go_ret
        exact ⟨rfl, hb02⟩
  | false =>
    go_wp2_with fail
    refine ((unhide HH3) w2 (unhide HT2)).mono ?_
    rintro e w3 ⟨rfl, hb3⟩
    have hb03 : Below w.heap.size w w3 := hb02.trans (hb3.mono hb02.size)
    have hcc : ((false || C) != C) = false := by cases C <;> rfl
    cases C <;>
    · as_aux_lemma =>
        go_wp2_with fail
        refine ((unhide HPL) w3).mono ?_
        rintro e w4 ⟨rfl, rfl⟩
        cases PL with
        | true =>
          go_wp2_with fail
          refine ((unhide HSW) w3).mono ?_
          rintro e w4 ⟨rfl, hb4⟩
          have hb04 : Below w.heap.size w w4 := hb03.trans (hb4.mono hb03.size)
          have HT4 := hide ((unhide HT).later hb04)
          go_wp2_with fail
          refine ((unhide HFIN) (by first | trivial | rfl) w4 (unhide HT4)).mono ?_
          rintro e w5 ⟨rfl, hb5⟩
          go_wp2_with fail
          go_ret
          exact ⟨rfl, hb04.trans (hb5.mono hb04.size)⟩
        | false =>
          go_wp2_with fail
          go_ret
          exact ⟨rfl, hb03⟩
end Go.Proofs.Qxb6608677aDoor
