import Derived.Test.Qxb6606399aDoorCan
namespace Go.Proofs.Qxb6606399aDoor
open Go.RowKit

theorem zz6_ok (p q : Option Addr) (n m c d : Nat) (h : n + m ≤ 1048576) (w : World) : Calls Tryd.prog 6 #[.slice p n c, .slice q m d] w fun e w' => e = .returned (.bool true) ∧ w = w' := by
  have h1 : n ≤ 1048576 := by omega
  have h2 : m ≤ 1048576 := by omega
  have h3 : (n : Int) + (m : Int) ≤ 1048576 := by omega
  go_enter Tryd.func6, Tryd.ntmps6
  go_wp2_with fail
  go_ret
  exact ⟨rfl, rfl⟩
theorem zz6_no (p q : Option Addr) (n m c d : Nat) (h : 1048576 < n + m) (hn : n ≤ maxLen) (hm : m ≤ maxLen) (w : World) : Calls Tryd.prog 6 #[.slice p n c, .slice q m d] w fun e w' => e = .returned (.bool false) ∧ w = w' := by
  unfold maxLen at hn hm
  by_cases h1 : 1048576 < n
  · have h1z : (1048576 : Int) < (n : Int) := by omega
    go_enter Tryd.func6, Tryd.ntmps6
    go_wp2_with fail
    go_ret
    exact ⟨rfl, rfl⟩
  · have h1' : n ≤ 1048576 := by omega
    by_cases h2 : 1048576 < m
    · have h2z : (1048576 : Int) < (m : Int) := by omega
      go_enter Tryd.func6, Tryd.ntmps6
      go_wp2_with fail
      go_ret
      exact ⟨rfl, rfl⟩
    · have h2' : m ≤ 1048576 := by omega
      have h3z : (1048576 : Int) < (n : Int) + (m : Int) := by omega
      go_enter Tryd.func6, Tryd.ntmps6
      go_wp2_with fail
      go_ret
      exact ⟨rfl, rfl⟩
/-- Beyond the bounds. -/
theorem law3_big (p q : Option Addr) (n m c d : Nat) (h : 524288 < n ∨ 524288 < m) (hn : n ≤ maxLen) (hm : m ≤ maxLen) (w : World) : Calls Tryd.prog 3 #[.slice p n c, .slice q m d] w fun e w' => e = .returned (.bool true) ∧ Below w.heap.size w w' := by
  by_cases hs : n + m ≤ 1048576
  · by_cases h1 : 524288 < n
    · have h1z : (524288 : Int) < (n : Int) := by omega
      go_enter Tryd.func3, Tryd.ntmps3
      go_wp2_with fail
      refine (zz6_ok p q n m c d hs _).mono ?_
      rintro e w1 ⟨rfl, rfl⟩
      go_wp2_with fail
      go_ret
      exact ⟨rfl, Below.refl _ _⟩
    · have h1' : n ≤ 524288 := by omega
      have h2z : (524288 : Int) < (m : Int) := by omega
      go_enter Tryd.func3, Tryd.ntmps3
      go_wp2_with fail
      refine (zz6_ok p q n m c d hs _).mono ?_
      rintro e w1 ⟨rfl, rfl⟩
      go_wp2_with fail
      go_ret
      exact ⟨rfl, Below.refl _ _⟩
  · go_enter Tryd.func3, Tryd.ntmps3
    go_wp2_with fail
    refine (zz6_no p q n m c d (by omega) hn hm _).mono ?_
    rintro e w1 ⟨rfl, rfl⟩
    go_wp2_with fail
    go_ret
    exact ⟨rfl, Below.refl _ _⟩

theorem clone_any (p : Option Addr) (c : Nat) (l : List UInt8) (hn : l.length ≤ 1073741824) (h3 : p = none → c = 0 ∧ l.length = 0) (w : World) (hA : At w p l) :
    Calls Tryd.prog 8 #[.slice p l.length c] w fun e w' => ∃ p' c', e = .returned (.slice p' l.length c') ∧ Hid (Own w' p' c' l) ∧ Below w.heap.size w w' := by
  cases p with
  | none =>
    obtain ⟨rfl, h⟩ := h3 rfl
    obtain rfl : l = [] := List.eq_nil_of_length_eq_zero h
    exact (clone_nil w).mono fun e w' ⟨he, hw⟩ => ⟨none, 0, he, .inl ⟨rfl, rfl, rfl⟩, hw ▸ Below.refl _ _⟩
  | some a => exact (clone_row a c l hn w hA).mono fun e w' ⟨he, hc, hg, hb⟩ => ⟨_, _, he, .inr ⟨_, rfl, rfl, hc, hg⟩, hb⟩
/-- ZZAppendDecimal behind a text of the call's own. -/
theorem app_call (p : Option Addr) (c : Nat) (l0 t s ip f x : List UInt8) (px : Option Addr) (cx : Nat) (hP : Parts t s ip f x) (w : World) (hO : Own w p c l0) (hr : Rd w.heap.size w px cx t) (hl : l0.length ≤ 1048576) (ht : t.length ≤ 1048576) (hG : Good w) :
    Calls Tryd.prog 11 #[.slice p l0.length c, .slice px t.length cx] w fun e w' => ∃ g cap, e = .returned (.slice (some ⟨g, 0, none⟩) (l0 ++ canon s ip f x).length cap) ∧ Hid (CellsL w' g 0 (l0 ++ canon s ip f x)) ∧ Below w.heap.size w w' := by
  obtain ⟨h1, ⟨mx, h2⟩, h3⟩ := hG
  have hlt := World.block_lt_of_cell? _ _ h2
  have hA : Apx w.heap.size w (.slice p l0.length c) l0.length l0 l0.length := by
    rcases hO with ⟨rfl, rfl, rfl⟩ | ⟨g, rfl, rfl, hc, hg⟩
    · exact .inl (World.ownsRow_nil w _ 5 1)
    · exact .inr ⟨rfl, g, rfl, rfl, hc, hg⟩
  have H := hide (deci_call w.heap.size l0.length (.slice p l0.length c) l0 t s ip f x px cx hP w hA (Nat.le_refl _) (by omega) hr (by omega) ht h1 mx h2 h3)
  clear hr h1 h2 h3 hlt hA hO
  go_enter Tryd.func11, Tryd.ntmps11
  go_wp2_with fail
  refine (unhide H).mono ?_
  rintro e w1 ⟨v', rfl, ho, hb⟩
  have hne := canon_ne s ip f x
  obtain ⟨g, cap, f1, rfl, hg, hnc, hcap, hll, hrow, hf1⟩ := row_of_owns ho (by omega)
  have HC : Hid (CellsL w1 g 0 (l0 ++ canon s ip f x)) := fun i hi => by
    rw [Nat.zero_add, hrow.cell (by omega), hf1 i hi]
    rfl
  have HL := hide hll
  clear ho hrow hf1 H hll
  go_wp2_with fail
  go_ret
  exact ⟨g, cap, by rw [unhide HL]; rfl, HC, hb⟩

set_option maxRecDepth 100000 in
set_option maxHeartbeats 4000000 in
theorem law3_any (p q : Option Addr) (c d : Nat) (l m : List UInt8) (hl : l.length ≤ 524288) (hm : m.length ≤ 524288) (w : World) (h1 : At w p l) (h2 : At w q m) (h3 : p = none → c = 0 ∧ l.length = 0) (hG : Good w) :
    Calls Tryd.prog 3 #[.slice p l.length c, .slice q m.length d] w fun e w' => e = .returned (.bool true) ∧ Below w.heap.size w w' := by
  have H1 := hide h1
  have H2 := hide h2
  have H3 := hide h3
  have HG := hide hG
  have HV := hide (valid_any q d m (by omega) w h2)
  clear h1 h2 h3 hG
  go_enter Tryd.func3, Tryd.ntmps3
  go_wp2_with fail
  refine (zz6_ok p q l.length m.length c d (by omega) _).mono ?_
  rintro e w1 ⟨rfl, rfl⟩
  go_wp2_with fail
  refine (unhide HV).mono ?_
  rintro e w1 ⟨rfl, rfl⟩
  by_cases hv : validB m = true
  · rw [hv]
    obtain ⟨s, ip, f, x, hP⟩ := valid_parts m hv
    have h0 : 0 < m.length := (parts_pos hP).1
    have hcl := canon_len (s := s) (ip := ip) (f := f) (x := x) hP.2.1 hP.2.2.2.2 (by have := parts_len hP; omega)
    have hpl := parts_len hP
    obtain ⟨CT, hCT⟩ : ∃ CT, Hid (CT = canon s ip f x) := ⟨_, rfl⟩
    rw [← hCT.out] at hcl
    have HP := hide hP
    clear hP hv HV
    go_wp2_with fail
    refine (clone_any p c l (by omega) (unhide H3) w (unhide H1)).mono ?_
    rintro e w1 ⟨p1, c1, rfl, HO1, hb1⟩
    obtain ⟨b, off, rfl, hcm⟩ := (unhide H2) h0
    have HM1 : Hid (At w1 (some ⟨b, off, none⟩) m) := fun _ => ⟨b, off, rfl, hcm.later hcm.lt hb1⟩
    clear hcm
    go_wp2_with fail
    refine (clone_row ⟨b, off, none⟩ d m (by omega) w1 (unhide HM1)).mono ?_
    rintro e w2 ⟨rfl, hc2, hg2, hb2⟩
    have HC2 := hide hc2
    have HO2 := hide ((unhide HO1).later hb2)
    have hb02 : Below w.heap.size w w2 := hb1.trans (hb2.mono hb1.size)
    have HCAN := hide (can_call w1.heap.size 0 m.length m s ip f x (unhide HP) hm (Nat.le_refl _) (by omega) w2 hc2)
    unfold CanEnd at HCAN
    rw [← hCT.out] at HCAN
    obtain ⟨g1, hg1⟩ : ∃ g1, Hid (g1 = w1.heap.size) := ⟨_, rfl⟩
    rw [← hg1.out] at HC2 HCAN hg2 ⊢
    clear hc2 HM1 HO1
    go_wp2_with fail
    refine (unhide HCAN).mono ?_
    rintro e w3 ⟨p3, c3, rfl, HA3, hb3⟩
    have HO3 := hide ((unhide HO2).later hb3)
    have HCAT := hide (cat_call p1 p3 c1 c3 l CT (by omega) w3 (unhide HO3).at_ (unhide HA3))
    clear HCAN HO2
    go_wp2_with fail
    refine (unhide HCAT).mono ?_
    rintro e w4 ⟨rfl, HC4, hg4, hb4⟩
    have HO4 := hide ((unhide HO3).later hb4)
    have hb24 : Below w2.heap.size w2 w4 := hb3.trans (hb4.mono hb3.size)
    have hb04 : Below w.heap.size w w4 := hb02.trans (hb24.mono hb02.size)
    have HM4 : Hid (CellsL w4 g1 0 m) := (unhide HC2).later (fun _ => hg2) hb24
    have hg14 : g1 < w4.heap.size := Nat.lt_of_lt_of_le hg2 hb24.size
    have HAPP := hide (app_call p1 c1 l m s ip f x (some ⟨g1, 0, none⟩) m.length (unhide HP) w4 (unhide HO4) (rd_own (unhide HM4) hg14 (by omega)) (by omega) (by omega) ((unhide HG).later hb04))
    rw [← hCT.out] at HAPP
    obtain ⟨g3, hg3⟩ : ∃ g3, Hid (g3 = w3.heap.size) := ⟨_, rfl⟩
    rw [← hg3.out] at HC4 hg4 ⊢
    clear HCAT HO3 HA3
    go_wp2_with fail
    refine (unhide HAPP).mono ?_
    rintro e w5 ⟨g5, cap5, rfl, HC5, hb5⟩
    have HC4' : Hid (CellsL w5 g3 0 (l ++ CT)) := (unhide HC4).later (fun _ => hg4) hb5
    have HSM := hide (same_any (some ⟨g5, 0, none⟩) (some ⟨g3, 0, none⟩) cap5 (l ++ CT).length (l ++ CT) (l ++ CT) (by rw [List.length_append]; omega) w5 (fun _ => ⟨_, _, rfl, unhide HC5⟩) (fun _ => ⟨_, _, rfl, unhide HC4'⟩))
    have hb05 : Below w.heap.size w w5 := hb04.trans (hb5.mono hb04.size)
    rw [beq_self_eq_true, List.length_append] at HSM
    rw [List.length_append]
    clear HAPP HC4 HC5 HC4'
    go_wp2_with fail
    refine (unhide HSM).mono ?_
    rintro e w6 ⟨rfl, k, rfl⟩
    go_wp2_with fail
    go_ret
    exact ⟨rfl, below_drewN hb05 k⟩
  · have hv' : validB m = false := by simpa using hv
    rw [hv']
    go_wp2_with fail
    go_ret
    exact ⟨rfl, Below.refl _ _⟩
end Go.Proofs.Qxb6606399aDoor
