import Derived.Test.Qxb6606399aDoorIdem
namespace Go.Proofs.Qxb6606399aDoor
open Go.RowKit

/-- make([]byte, 0, n), in every world. -/
theorem make_room (n : Nat) (hn : n ≤ 1073741824) (w : World) : (Instr.makeSlice 22 (.int .i64 0) (.int .i64 (n : Int))).run Tryd.prog w = .ok (.slice (some ⟨w.heap.size, 0, none⟩) 0 n) (w.alloc (.cells (madeCells #[.int .u8 0] n) 5)) := by
  obtain ⟨i0, hi0, hz0, hz1, hz2⟩ := info_parts Tryd.info5
  have := run_make (P := Tryd.prog) w 22 5 i0 (.int .u8 0) Tryd.underlying22 hi0 hz0 .i64 .i64 0 (n : Int) (Int.le_refl _) (by omega) (by rw [hz2]; omega) (by omega)
  rw [hz1, Int.toNat_natCast, Nat.mul_one] at this
  exact this
theorem cells_of_row {w : World} {g cap : Nat} {f : Nat → Value} {l : List UInt8} (h : w.rowIs g 5 cap f) (hl : l.length ≤ cap) (hf : ∀ j (hj : j < l.length), f j = bv l[j]) : CellsL w g 0 l := fun i hi => by
  rw [Nat.zero_add, h.cell (by omega), hf i hi]
  rfl
/-- A row with room, its first bytes known. -/
def RowAt (w : World) (g cap : Nat) (l : List UInt8) : Prop := ∃ F, w.rowIs g 5 cap F ∧ l.length ≤ cap ∧ ∀ j (hj : j < l.length), F j = bv l[j]
theorem RowAt.cells {w : World} {g cap : Nat} {l : List UInt8} (h : RowAt w g cap l) : CellsL w g 0 l := by
  obtain ⟨F, h1, h2, h3⟩ := h
  exact cells_of_row h1 h2 h3
theorem RowAt.alloc {w : World} {g cap : Nat} {l : List UInt8} (h : RowAt w g cap l) (o : Obj) : RowAt (w.alloc o) g cap l := by
  obtain ⟨F, h1, h2, h3⟩ := h
  exact ⟨F, h1.alloc o, h2, h3⟩
/-- append where there is room: the same row. -/
theorem append_fits {w : World} {ops : Array Oper} {rest : List Oper} {o : Oper} {a : Act} {Q : Exit → Act → World → Prop} (hgd : o.guard = none) (s x : Operand)
    (ho : o.op = .call { callee := .builtin .append, args := #[s, x], argTypes := #[22, 22] }) (g n cap : Nat) (l : List UInt8) (hs : a.eval s = .slice (some ⟨g, 0, none⟩) n cap) (hl : l.length = n) (hrow : RowAt w g cap l)
    (b off m c : Nat) (k : List UInt8) (hx : a.eval x = .slice (some ⟨b, off, none⟩) m c) (hk : k.length = m) (hc : CellsL w b off k) (hroom : n + m ≤ cap)
    (h : ∀ w', RowAt w' g cap (l ++ k) → Below g w w' → wpList Tryd.prog ops Q rest (a.put o.dst (.slice (some ⟨g, 0, none⟩) (n + m) cap)) w') : wpList Tryd.prog ops Q (o :: rest) a w := by
  obtain ⟨F, h1, h2, h3⟩ := hrow
  refine wpList_append_room1 w hgd s x 22 22 ho 5 (.int .u8 0) 1 Tryd.underlying22 Tryd.info5 g 0 n cap hs _ hx m (bvs k) (Go.Src.ofSlice w Tryd.underlying22 ⟨b, off, none⟩ m c (bvs k) (by rw [bvs_len]; omega) (fun j u hj => cells_add hc j u hj) (bvs_one k)) hroom
    (fun j hj => by rw [bvs_len] at hj; rw [Nat.zero_add, h1.cell (by omega)]; rfl) (fun j _ => h1.frozen _) ?_
  refine h _ ⟨_, Go.rowIs_setCells (bvs k) (0 + n) w F h1, by rw [List.length_append]; omega, fun j hj => ?_⟩ (Go.below_setCells (Nat.le_refl _) _ _ _ (Below.refl _ _))
  rw [List.length_append] at hj
  show (if 0 + n ≤ j ∧ j < 0 + n + (bvs k).length then (bvs k)[j - (0 + n)]?.getD default else F j) = _
  rw [bvs_len, Nat.zero_add]
  by_cases hjn : j < n
  · rw [if_neg (by omega), h3 j (by omega), List.getElem_append_left (by omega)]
  · rw [if_pos (by omega), bvs_get k (j - n) (by omega), List.getElem_append_right (by omega)]
    simp only [hl]
    rfl
theorem neg_parts {t ip f x : List UInt8} (h : Parts t [] ip f x) : Parts (45 :: t) [45] ip f x := by
  obtain ⟨h1, _, h3⟩ := h
  exact ⟨by rw [h1]; rfl, .inr rfl, h3⟩
theorem pos_parts {t s ip f x : List UInt8} (h : Parts t s ip f x) (h0 : 0 < t.length) (h45 : t[0] ≠ 45) : s = [] := by
  obtain ⟨h1, hs, _⟩ := h
  rcases hs with rfl | rfl
  · rfl
  · exact absurd (by simp only [h1]; rfl) h45
theorem canon_head {ip f x : List UInt8} (h : coreOf ip (fdText f) ≠ []) (h0 : 0 < (canon [] ip f x).length) : (canon [] ip f x)[0] ≠ 48 := by
  have hz := core_noZero ip (fdText f)
  have e : canon [] ip f x = coreOf ip (fdText f) ++ expText (expOf (yOf x) + shiftOf ip (fdText f)) := by unfold canon canonOf; rw [if_neg h]; rfl
  cases hc : coreOf ip (fdText f) with
  | nil => exact absurd hc h
  | cons c r =>
    rw [hc] at hz e
    simp only [e]
    exact fun e' => hz (by rw [show c = 48 from e']; rfl)

set_option maxRecDepth 100000 in
set_option maxHeartbeats 1000000 in
theorem neg_big (p : Option Addr) (n c : Nat) (w : World) (hn : 524288 < n) (hm : n ≤ 9223372036854775807) : Calls Tryd.prog 5 #[.slice p n c] w fun e w' => e = .returned (.bool true) ∧ Below w.heap.size w w' := by
  by_cases h : n ≤ 1048576
  · go_enter Tryd.func5, Tryd.ntmps5
    go_wp2_with fail
    refine (zz14_ok p n c h _).mono ?_
    rintro e w1 ⟨rfl, rfl⟩
    go_wp2_with fail
    go_ret
    exact ⟨rfl, Below.refl _ _⟩
  · go_enter Tryd.func5, Tryd.ntmps5
    go_wp2_with fail
    refine (zz14_no p n c (by omega) hm _).mono ?_
    rintro e w1 ⟨rfl, rfl⟩
    go_wp2_with fail
    go_ret
    exact ⟨rfl, Below.refl _ _⟩
set_option maxRecDepth 100000 in
set_option maxHeartbeats 4000000 in
theorem neg_any (p : Option Addr) (c : Nat) (l : List UInt8) (hn : l.length ≤ 524288) (w : World) (hA : At w p l) (hG : Good w) : Calls Tryd.prog 5 #[.slice p l.length c] w fun e w' => e = .returned (.bool true) ∧ Below w.heap.size w w' := by
  have HA := hide hA
  have HG := hide hG
  have HV := hide (valid_any p c l (by omega) w hA)
  have hmk := make_room (l.length + 1) (by omega)
  rw [Int.natCast_add] at hmk
  clear hA hG
  go_enter Tryd.func5, Tryd.ntmps5
  go_wp2_with fail
  refine (zz14_ok p l.length c (by omega) _).mono ?_
  rintro e w1 ⟨rfl, rfl⟩
  go_wp2_with fail
  refine (unhide HV).mono ?_
  rintro e w1 ⟨rfl, rfl⟩
  by_cases hv : validB l = true
  · rw [hv]
    obtain ⟨s, ip, f, x, hP⟩ := valid_parts l hv
    have h0 : 0 < l.length := by
      rcases Nat.eq_zero_or_pos l.length with h | h
      · rw [List.eq_nil_of_length_eq_zero h] at hv; cases hv
      · exact h
    obtain ⟨b, off, rfl, hc⟩ := (unhide HA) h0
    obtain ⟨x0, hx0, HX0⟩ : ∃ x : Nat, w.cell? ⟨b, off, none⟩ = some (.int .u8 (x : Int)) ∧ Hid (x = (l[0]).toNat) := ⟨(l[0]).toNat, hc 0 h0, rfl⟩
    by_cases h45 : l[0] = 45
    · obtain rfl : x0 = 45 := by rw [HX0.out, h45]; rfl
      clear hc hP h45 hv HV
      go_wp2_with fail
      go_ret
      exact ⟨rfl, Below.refl _ _⟩
    · have hne : ((x0 : Int) == 45) = false := beq_eq_false_iff_ne.2 (fun e => h45 (UInt8.toNat_inj.1 (by rw [← HX0.out]; show x0 = 45; omega)))
      obtain rfl := pos_parts hP h0 h45
      have HP := hide hP
      have HP2 := hide (neg_parts hP)
      clear hc hP h45 hv HV
      go_wp2_with fail
      refine (clone_row ⟨b, off, none⟩ c l (by omega) w (unhide HA)).mono ?_
      rintro e w1 ⟨rfl, hc1, hg1, hb1⟩
      have HC1 := hide hc1
      clear hc1
      have HG1 := hide ((unhide HG).later hb1)
      -- the two appends: into the row that make laid
      obtain ⟨ROW, hROW⟩ : ∃ ROW, Hid (ROW = madeCells #[Value.int .u8 0] (l.length + 1)) := ⟨_, rfl⟩
      have HR0 : Hid ((w1.alloc (.cells ROW 5)).rowIs w1.heap.size 5 (l.length + 1) (fun _ => .int .u8 0)) := by rw [hROW.out]; exact World.rowIs_made w1 (.int .u8 0) (l.length + 1) 5
      rw [← hROW.out] at hmk
      have HR1 : Hid (RowAt ((w1.alloc (.cells ROW 5)).alloc (.cells #[bv 45] 5)) w1.heap.size (l.length + 1) []) := RowAt.alloc ⟨_, unhide HR0, by simp, fun j hj => by simp at hj⟩ _
      obtain ⟨W1, hW1⟩ : ∃ W1, Hid (W1 = w1.alloc (.cells ROW 5)) := ⟨_, rfl⟩
      have hbW : Below w1.heap.size w1 W1 := by rw [hW1.out]; exact below_new _ _
      rw [← hW1.out] at HR1
      have hmk2 : (Instr.makeSlice 22 (.int .i64 0) (.int .i64 ((l.length : Int) + 1))).run Tryd.prog w1 = .ok (.slice (some ⟨w1.heap.size, 0, none⟩) 0 (l.length + 1)) W1 := by rw [hW1.out]; exact hmk w1
      clear hmk HR0 hW1
      obtain ⟨g, hg⟩ : ∃ g, Hid (g = w1.heap.size) := ⟨_, rfl⟩
      rw [← hg.out] at HR1 hmk2
      go_upto_region 10 with (first | (at_builtin; refine append_fits rfl _ _ rfl g 0 (l.length + 1) [] rfl rfl (unhide HR1) W1.heap.size 0 1 1 [45] rfl rfl (by obtain ⟨_, _, e, hcc⟩ := new_at W1 45 (by simp); cases e; exact hcc) (by omega) ?_; intro w2 hr2 hb2) | fail)
      have HR2 := hide hr2
      have hb12 : Below w1.heap.size w1 w2 := hbW.trans (((below_new W1 _).mono hbW.size).trans (by rw [← hg.out]; exact hb2))
      have HC2 : Hid (CellsL w2 w.heap.size 0 l) := (unhide HC1).later (fun _ => hg1) hb12
      clear hr2 HR1 hb2
      go_upto_region 11 with (first | (at_builtin; refine append_fits rfl _ _ rfl g 1 (l.length + 1) [45] rfl rfl (unhide HR2) w.heap.size 0 l.length l.length l rfl rfl (unhide HC2) (by omega) ?_; intro w3 hr3 hb3) | fail)
      rw [show 1 + l.length = l.length + 1 from Nat.add_comm _ _]
      have hb13 : Below w1.heap.size w1 w3 := hb12.trans (by rw [← hg.out]; exact hb3)
      have HC3 : Hid (CellsL w3 w.heap.size 0 l) := (unhide HC1).later (fun _ => hg1) hb13
      have HM3 : Hid (CellsL w3 g 0 (45 :: l)) := hr3.cells
      have hg3 : g < w3.heap.size := by obtain ⟨_, hF, _⟩ := hr3; exact hF.lt
      have HG3 := hide ((unhide HG1).later hb13)
      have hB3 : Below w.heap.size w w3 := hb1.trans (hb13.mono hb1.size)
      have hgw3 : w.heap.size < w3.heap.size := by have := hb13.size; omega
      have HOp := hide (once_call l [] ip f x (some ⟨w.heap.size, 0, none⟩) l.length (unhide HP) w3 (rd_own (unhide HC3) hgw3 (by omega)) (by omega) (unhide HG3))
      clear hr3 HR2 HC2 HC1 hb12 hb3 hmk2
      by_cases hcore : coreOf ip (fdText f) = []
      · as_aux_lemma =>
          rw [canon_zero [] ip f x hcore] at HOp
          go_wp2_with fail
          refine (unhide HOp).mono ?_
          rintro e w4 ⟨gp, cp, rfl, HCp, hnp, hcp, hb4⟩
          have HM4 : Hid (CellsL w4 g 0 (45 :: l)) := (unhide HM3).later (fun _ => hg3) hb4
          have hg4 : g < w4.heap.size := by have := hb4.size; omega
          have HG4 := hide ((unhide HG3).later hb4)
          have HOm := hide (once_call (45 :: l) [45] ip f x (some ⟨g, 0, none⟩) (45 :: l).length (unhide HP2) w4 (rd_own (unhide HM4) hg4 (by rw [List.length_cons]; omega)) (by rw [List.length_cons]; omega) (unhide HG4))
          rw [canon_zero [45] ip f x hcore, List.length_cons] at HOm
          have hB4 : Below w.heap.size w w4 := hB3.trans (hb4.mono hB3.size)
          go_wp2_with fail
          refine (unhide HOm).mono ?_
          rintro e w5 ⟨gm, cm, rfl, HCm, hnm, hcm, hb5⟩
          have hcp5 : w5.cell? ⟨gp, 0, none⟩ = some (.int .u8 48) := (((unhide HCp).later (unhide HCp).lt hb5) 0 (by simp))
          have hcm5 : w5.cell? ⟨gm, 0, none⟩ = some (.int .u8 48) := ((unhide HCm) 0 (by simp))
          clear HOm HOp
          go_wp2_with fail
          go_ret
          exact ⟨rfl, hB4.trans (hb5.mono hB4.size)⟩
      · as_aux_lemma =>
          have hCp : 0 < (canon [] ip f x).length := canon_ne _ _ _ _
          have hhd := canon_head hcore hCp
          have hcl := canon_len (s := []) (ip := ip) (f := f) (x := x) (.inl rfl) (unhide HP).2.2.2.2 (by have := parts_len (unhide HP); omega)
          have hpl := parts_len (unhide HP)
          have hneg := canon_neg (x := x) hcore
          obtain ⟨C, hC⟩ : ∃ C, Hid (C = canon [] ip f x) := ⟨_, rfl⟩
          simp only [← hC.out] at hhd
          rw [← hC.out] at hCp hcl hneg HOp
          have hCl : C.length ≤ 1048576 := by omega
          have HHd := hide hhd
          clear hhd hcl hpl
          go_wp2_with fail
          refine (unhide HOp).mono ?_
          rintro e w4 ⟨gp, cp, rfl, HCp, hnp, hcp, hb4⟩
          have HM4 : Hid (CellsL w4 g 0 (45 :: l)) := (unhide HM3).later (fun _ => hg3) hb4
          have hg4 : g < w4.heap.size := by have := hb4.size; omega
          have HG4 := hide ((unhide HG3).later hb4)
          have HOm := hide (once_call (45 :: l) [45] ip f x (some ⟨g, 0, none⟩) (45 :: l).length (unhide HP2) w4 (rd_own (unhide HM4) hg4 (by rw [List.length_cons]; omega)) (by rw [List.length_cons]; omega) (unhide HG4))
          rw [hneg, List.length_cons, List.length_cons] at HOm
          clear hneg
          have hB4 : Below w.heap.size w w4 := hB3.trans (hb4.mono hB3.size)
          go_wp2_with fail
          refine (unhide HOm).mono ?_
          rintro e w5 ⟨gm, cm, rfl, HCm, hnm, hcm, hb5⟩
          have HCp5 : Hid (CellsL w5 gp 0 C) := (unhide HCp).later (unhide HCp).lt hb5
          have hB5 : Below w.heap.size w w5 := hB4.trans (hb5.mono hB4.size)
          obtain ⟨y0, hcp5, HY0⟩ : ∃ y : Nat, w5.cell? ⟨gp, 0, none⟩ = some (.int .u8 (y : Int)) ∧ Hid (y = (C[0]).toNat) := ⟨(C[0]).toNat, (unhide HCp5) 0 hCp, rfl⟩
          have hy48 : ((y0 : Int) == 48) = false := beq_eq_false_iff_ne.2 (fun e => (unhide HHd) (UInt8.toNat_inj.1 (by rw [← HY0.out]; show y0 = 48; omega)))
          have hcm5 : w5.cell? ⟨gm, 0, none⟩ = some (.int .u8 45) := ((unhide HCm) 0 (by simp))
          have hcmx : cm ≤ 9223372036854775807 := by unfold maxLen at hcm; omega
          have hcm1 : ¬ (cm = 1) := by omega
          have hAm : At w5 (some ⟨gm, 0 + 1, none⟩) C := fun _ => ⟨_, _, rfl, (unhide HCm).drop 1⟩
          have HS := hide (same_any (some ⟨gm, 1, none⟩) (some ⟨gp, 0, none⟩) (cm - 1) cp C C (by omega) w5 hAm (fun _ => ⟨_, _, rfl, unhide HCp5⟩))
          clear HOm HOp hAm
          by_cases hk1 : C.length = 1
          · have hk1z : ((C.length : Int) == 1) = true := by rw [hk1]; rfl
            have HK1 := hide hk1
            clear hk1
            go_wp2_with fail
            refine (unhide HS).mono ?_
            rintro e w6 ⟨rfl, q, rfl⟩
            go_wp2_with fail
            go_ret
            exact ⟨by simp, below_drewN hB5 _⟩
          · have hk1z : ((C.length : Int) == 1) = false := beq_eq_false_iff_ne.2 (by omega)
            go_wp2_with fail
            refine (unhide HS).mono ?_
            rintro e w6 ⟨rfl, q, rfl⟩
            go_wp2_with fail
            go_ret
            exact ⟨by simp, below_drewN hB5 _⟩
  · have hv' : validB l = false := by simpa using hv
    rw [hv']
    go_wp2_with fail
    go_ret
    exact ⟨rfl, Below.refl _ _⟩
end Go.Proofs.Qxb6606399aDoor
