import Derived.Test.Qxb6606399aDoorDeci
import Derived.Test.Qxb6606399aDoorValid
namespace Go.Proofs.Qxb6606399aDoor
open Go.RowKit

/-! ### How long a canonical text may be -/
theorem dec_len (N k : Nat) (h : N < 10 ^ k) (hk : 0 < k) : (Lib.decDigits N).length ≤ k := by
  obtain ⟨h1, h2, h3, h4⟩ := num_facts N
  rcases Nat.eq_zero_or_pos N with h0 | h0
  · subst h0
    rw [Lib.decDigits_one (by omega)]
    exact hk
  · cases hd : Lib.decDigits N with
    | nil => simp
    | cons c r =>
      rw [hd] at h1 h2
      have hz := h4 h0
      rw [hd] at hz
      have := valN_ge c r h1.head (fun e => hz (by rw [e]; rfl))
      rw [h2] at this
      have := pow_lt_of (Nat.lt_of_le_of_lt this h)
      rw [List.length_cons]
      omega
theorem itoa_len (E : Int) (k : Nat) (hk : 0 < k) (h : E.natAbs < 10 ^ k) : (Lib.itoa E).length ≤ k + 1 := by
  unfold Lib.itoa
  split
  · rw [List.length_cons]; have := dec_len E.natAbs k h hk; omega
  · have := dec_len E.toNat k (by omega) hk; omega
theorem canon_len {s ip f x : List UInt8} (hs : s = [] ∨ s = [45]) (hx : IsExp x) (hl : ip.length + f.length + x.length ≤ 1000000) : (canon s ip f x).length ≤ ip.length + f.length + x.length + 13 := by
  unfold canon canonOf
  split
  · rw [List.length_singleton]; omega
  · rw [List.length_append, List.length_append]
    have h1 : s.length ≤ 1 := by rcases hs with rfl | rfl <;> simp
    have h2 := core_len ip (fdText f)
    have h3 : (coreOf ip (fdText f)).length ≤ ip.length + f.length := by
      unfold coreOf
      rw [List.length_append]
      have : (fdText f).length ≤ f.length := by unfold fdText; rw [List.length_drop]; omega
      omega
    have h4 : (expText (expOf (yOf x) + shiftOf ip (fdText f))).length ≤ x.length + 12 := by
      unfold expText
      split
      · simp
      · rw [List.length_cons]
        have hy : (yOf x).length ≤ x.length := by unfold yOf; rw [List.length_drop]; omega
        have hd := ext_dig (y_ok hx)
        have hv := valN_lt _ hd
        have hdl := (expDigits_drop (yOf x)).2
        have hp : 10 ^ (expDigits (yOf x)).length ≤ 10 ^ x.length := Nat.pow_le_pow_right (by omega) (by omega)
        have hsh := shift_bd ip (fdText f) (by omega) (by unfold fdText; rw [List.length_drop]; omega)
        have habs : (expOf (yOf x)).natAbs = valN (expDigits (yOf x)) := by unfold expOf; split <;> omega
        have hpos : 1 ≤ 10 ^ x.length := Nat.pow_pos (by omega)
        have key : (expOf (yOf x) + shiftOf ip (fdText f)).natAbs < 10 ^ (x.length + 10) := by
          rw [Nat.pow_add]
          have : 10 ^ x.length * 10 ^ 10 = 10 ^ x.length + 10 ^ x.length * 9999999999 := by
            have : (10 : Nat) ^ 10 = 1 + 9999999999 := rfl
            rw [this, Nat.mul_add, Nat.mul_one]
          have h9 : 1 * 9999999999 ≤ 10 ^ x.length * 9999999999 := Nat.mul_le_mul_right _ hpos
          omega
        have := itoa_len _ (x.length + 10) (by omega) key
        omega
    omega
theorem canon_ne (s ip f x : List UInt8) : 0 < (canon s ip f x).length := by
  unfold canon canonOf
  split
  · simp
  · next h =>
    rw [List.length_append, List.length_append]
    have := List.length_pos_iff.2 h
    omega
theorem parts_len {t s ip f x : List UInt8} (h : Parts t s ip f x) : ip.length + f.length + x.length ≤ t.length := by
  rw [h.1, List.length_append, List.length_append, List.length_append]
  omega

theorem rd_own {B : Nat} {w : World} {g : Nat} {l : List UInt8} (h : CellsL w g 0 l) (hg : g < B) (hl : l.length ≤ 1073741824) : Rd B w (some ⟨g, 0, none⟩) l.length l := by
  refine ⟨Nat.le_refl _, hl, fun _ => ⟨_, _, rfl, h⟩, ?_, ?_⟩
  · intro e; cases e
  · intro x e; cases e; exact ⟨hg, rfl⟩
/-! ### ZZAppendDecimal, from nil -/
theorem tab_up {w w1 : World} (h : Lib.TabBelow Tryd.prog w.heap.size w (Tryd.prog.globals[3]!.name) .u64 Lib.pow10Tab) (hb : Below w.heap.size w w1) : Lib.TabBelow Tryd.prog w1.heap.size w1 (Tryd.prog.globals[3]!.name) .u64 Lib.pow10Tab :=
  fun w' h' => h w' (hb.trans (h'.mono hb.size))
/-- What a world needs: the tables and the one variable. -/
def Good (w : World) : Prop := Lib.Utf8Tabs 1 2 w ∧ (∃ mx, w.cell? ⟨0, 0, none⟩ = some (.int .i64 mx)) ∧ Lib.TabBelow Tryd.prog w.heap.size w (Tryd.prog.globals[3]!.name) .u64 Lib.pow10Tab
theorem Good.later {w w1 : World} (h : Good w) (hb : Below w.heap.size w w1) : Good w1 := by
  obtain ⟨h1, ⟨mx, h2⟩, h3⟩ := h
  exact ⟨tabs_later h1 hb, ⟨mx, (hb.cell (p := ⟨0, 0, none⟩) (World.block_lt_of_cell? _ _ h2)).trans h2⟩, tab_up h3 hb⟩
theorem once_call (t s ip f x : List UInt8) (px : Option Addr) (cx : Nat) (hP : Parts t s ip f x) (w : World) (hr : Rd w.heap.size w px cx t) (ht : t.length ≤ 1048576) (hG : Good w) :
    Calls Tryd.prog 11 #[.slice none 0 0, .slice px t.length cx] w fun e w' => ∃ g cap, e = .returned (.slice (some ⟨g, 0, none⟩) (canon s ip f x).length cap) ∧ Hid (CellsL w' g 0 (canon s ip f x)) ∧ (canon s ip f x).length ≤ cap ∧ cap ≤ maxLen ∧ Below w.heap.size w w' := by
  obtain ⟨h1, ⟨mx, h2⟩, h3⟩ := hG
  have hlt := World.block_lt_of_cell? _ _ h2
  have H := hide (deci_call w.heap.size 0 (.slice none 0 0) [] t s ip f x px cx hP w (.inl (World.ownsRow_nil w _ 5 1)) (Nat.le_refl _) (by omega) hr (by omega) ht h1 mx h2 h3)
  clear hr h1 h2 h3 hlt
  go_enter Tryd.func11, Tryd.ntmps11
  go_wp2_with fail
  refine (unhide H).mono ?_
  rintro e w1 ⟨v', rfl, ho, hb⟩
  rw [List.nil_append, Nat.zero_add] at ho
  obtain ⟨g, cap, f1, rfl, hg, hnc, hcap, hl, hrow, hf1⟩ := row_of_owns ho (canon_ne s ip f x)
  have HC : Hid (CellsL w1 g 0 (canon s ip f x)) := fun i hi => by
    rw [Nat.zero_add, hrow.cell (by omega), hf1 i hi]
    rfl
  clear ho hrow hf1 H
  go_wp2_with fail
  go_ret
  exact ⟨g, cap, rfl, HC, hnc, hcap, hb⟩
/-- What the second canonical text is. -/
theorem again_parts {t s ip f x : List UInt8} (hP : Parts t s ip f x) : ∃ s' ip' f' x', Parts (canon s ip f x) s' ip' f' x' ∧ canon s' ip' f' x' = canon s ip f x := by
  obtain ⟨_, hs, hi, hf, hx⟩ := hP
  by_cases h : coreOf ip (fdText f) = []
  · refine ⟨[], [48], [], [], ?_, ?_⟩
    · rw [canon_zero s ip f x h]
      exact ⟨rfl, .inl rfl, .inl rfl, .inl rfl, .inl rfl⟩
    · rw [canon_zero s ip f x h]
      rfl
  · exact ⟨_, _, _, _, canon_parts hs hi hf h, canon_again h _ rfl⟩

set_option maxRecDepth 100000 in
set_option maxHeartbeats 1000000 in
theorem idem_big (p : Option Addr) (n c : Nat) (w : World) (hn : 524288 < n) (hm : n ≤ 9223372036854775807) : Calls Tryd.prog 4 #[.slice p n c] w fun e w' => e = .returned (.bool true) ∧ Below w.heap.size w w' := by
  by_cases h : n ≤ 1048576
  · go_enter Tryd.func4, Tryd.ntmps4
    go_wp2_with fail
    refine (zz13_ok p n c h _).mono ?_
    rintro e w1 ⟨rfl, rfl⟩
    go_wp2_with fail
    go_ret
    exact ⟨rfl, Below.refl _ _⟩
  · go_enter Tryd.func4, Tryd.ntmps4
    go_wp2_with fail
    refine (zz13_no p n c (by omega) hm _).mono ?_
    rintro e w1 ⟨rfl, rfl⟩
    go_wp2_with fail
    go_ret
    exact ⟨rfl, Below.refl _ _⟩
set_option maxRecDepth 100000 in
set_option maxHeartbeats 2000000 in
theorem idem_any (p : Option Addr) (c : Nat) (l : List UInt8) (hn : l.length ≤ 524288) (w : World) (hA : At w p l) (hG : Good w) : Calls Tryd.prog 4 #[.slice p l.length c] w fun e w' => e = .returned (.bool true) ∧ Below w.heap.size w w' := by
  have HA := hide hA
  have HG := hide hG
  have HV := hide (valid_any p c l (by omega) w hA)
  clear hA hG
  go_enter Tryd.func4, Tryd.ntmps4
  go_wp2_with fail
  refine (zz13_ok p l.length c (by omega) _).mono ?_
  rintro e w1 ⟨rfl, rfl⟩
  go_wp2_with fail
  refine (unhide HV).mono ?_
  rintro e w1 ⟨rfl, rfl⟩
  by_cases hv : validB l = true
  · rw [hv]
    obtain ⟨s, ip, f, x, hP⟩ := valid_parts l hv
    have h0 : 0 < l.length := by
      rcases Nat.eq_zero_or_pos l.length with h | h
      · rw [List.eq_nil_of_length_eq_zero h] at hv; cases hv
      · exact h
    obtain ⟨b, off, rfl, hc⟩ := (unhide HA) h0
    have hcl := canon_len (s := s) (ip := ip) (f := f) (x := x) hP.2.1 hP.2.2.2.2 (by have := parts_len hP; omega)
    have hpl := parts_len hP
    obtain ⟨s', ip', f', x', hP', hag⟩ := again_parts hP
    obtain ⟨C, hC⟩ : ∃ C, Hid (C = canon s ip f x) := ⟨_, rfl⟩
    rw [← hC.out] at hcl hP' hag
    have hCl : C.length ≤ 1048576 := by omega
    have HP := hide hP
    have HP' := hide hP'
    have HAG := hide hag
    have HV2 := hide (parts_valid hP')
    clear hP hP' hag hv hc hcl hpl
    go_wp2_with fail
    refine (clone_row ⟨b, off, none⟩ c l (by omega) w (unhide HA)).mono ?_
    rintro e w1 ⟨rfl, hc1, hg1, hb1⟩
    have HG1 := hide ((unhide HG).later hb1)
    have HO := hide (once_call l s ip f x (some ⟨w.heap.size, 0, none⟩) l.length (unhide HP) w1 (rd_own hc1 hg1 (by omega)) (by omega) (unhide HG1))
    rw [← hC.out] at HO
    clear hc1 HV HA
    go_wp2_with fail
    refine (unhide HO).mono ?_
    rintro e w2 ⟨g2, cap2, rfl, HC2, hn2, hcap2, hb2⟩
    have HG2 := hide ((unhide HG1).later hb2)
    have hB2 : Below w.heap.size w w2 := hb1.trans (hb2.mono hb1.size)
    have hAt2 : At w2 (some ⟨g2, 0, none⟩) C := fun _ => ⟨_, _, rfl, unhide HC2⟩
    have HVa := hide (valid_any (some ⟨g2, 0, none⟩) cap2 C (by omega) w2 hAt2)
    rw [unhide HV2] at HVa
    have HCl := hide (clone_row ⟨g2, 0, none⟩ cap2 C (by omega) w2 hAt2)
    clear hAt2 HO HG1
    go_wp2_with fail
    refine (unhide HVa).mono ?_
    rintro e w3 ⟨rfl, rfl⟩
    go_wp2_with fail
    refine (unhide HCl).mono ?_
    rintro e w3 ⟨rfl, hc3, hg3, hb3⟩
    have HG3 := hide ((unhide HG2).later hb3)
    have hB3 : Below w.heap.size w w3 := hB2.trans (hb3.mono hB2.size)
    have HC3 : Hid (CellsL w3 g2 0 C) := (unhide HC2).later (unhide HC2).lt hb3
    have HO := hide (once_call C s' ip' f' x' (some ⟨w2.heap.size, 0, none⟩) C.length (unhide HP') w3 (rd_own hc3 hg3 (by omega)) hCl (unhide HG3))
    rw [unhide HAG] at HO
    clear hc3 HCl HVa
    go_wp2_with fail
    refine (unhide HO).mono ?_
    rintro e w4 ⟨g4, cap4, rfl, HC4, hn4, hcap4, hb4⟩
    have hB4 : Below w.heap.size w w4 := hB3.trans (hb4.mono hB3.size)
    have HC24 : Hid (CellsL w4 g2 0 C) := (unhide HC3).later (unhide HC3).lt hb4
    have HS := hide (same_any (some ⟨g2, 0, none⟩) (some ⟨g4, 0, none⟩) cap2 cap4 C C (by omega) w4 (fun _ => ⟨_, _, rfl, unhide HC24⟩) (fun _ => ⟨_, _, rfl, unhide HC4⟩))
    clear HO
    go_wp2_with fail
    refine (unhide HS).mono ?_
    rintro e w5 ⟨rfl, q, rfl⟩
    go_wp2_with fail
    go_ret
    refine ⟨?_, below_drewN hB4 _⟩
    simp
  · have hv' : validB l = false := by simpa using hv
    rw [hv']
    go_wp2_with fail
    go_ret
    exact ⟨rfl, Below.refl _ _⟩
end Go.Proofs.Qxb6606399aDoor
