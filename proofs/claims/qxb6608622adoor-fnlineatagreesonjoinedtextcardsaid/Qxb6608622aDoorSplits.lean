import Derived.Test.Qxb6608622aDoorLineAt
import Derived.Test.Qxb6608622aDoorSame
namespace Go.Proofs.Qxb6608622aDoor
open Go.RowKit

theorem same_n (p q : Option Addr) (n c d : Nat) (l : List UInt8) (hn : l.length = n) (hb : n ≤ 4611686018427387904) (w : World) (h1 : At w p l) (h2 : At w q l) :
    Calls Tryd.prog 7 #[.slice p n c, .slice q n d] w fun e w' => e = .returned (.bool true) ∧ ∃ k, w' = w.drewN k := by
  have := same_any p q c d l l (by omega) w h1 h2
  rw [hn] at this
  refine this.mono fun e w' ⟨he, hw⟩ => ⟨?_, hw⟩
  rw [he]; simp

/-! ### The plain law -/
theorem line_clean (l : List UInt8) (i k : Nat) (hi : i ≤ l.length) (hk : i + k < endOf l i) (hb : i + k < l.length) : l[i + k] ≠ 13 ∧ l[i + k] ≠ 10 := by
  unfold endOf at hk
  have hlt : k < (l.drop i).findIdx brkB := by omega
  have hkl : k < (l.drop i).length := by rw [List.length_drop]; omega
  have := List.not_of_lt_findIdx hlt
  rw [List.getElem_drop] at this
  unfold brkB at this
  simp at this
  exact this
theorem end_brk (l : List UInt8) (i : Nat) (hi : i ≤ l.length) (h : endOf l i < l.length) : l[endOf l i] = 13 ∨ l[endOf l i] = 10 := by
  have hlt : (l.drop i).findIdx brkB < (l.drop i).length := by
    unfold endOf at h; rw [List.length_drop]; omega
  have := List.findIdx_getElem (w := hlt)
  rw [List.getElem_drop] at this
  unfold brkB at this
  simp at this
  exact this
/-- The three breaks. -/
theorem brk_cases (l : List UInt8) (e : Nat) (h : e < l.length) (hb : l[e] = 13 ∨ l[e] = 10) :
    (brkLen l e = 1 ∧ l[e] = 10) ∨ (brkLen l e = 1 ∧ l[e] = 13 ∧ ∀ (h2 : e + 1 < l.length), l[e + 1] ≠ 10) ∨ (brkLen l e = 2 ∧ l[e] = 13 ∧ ∃ h2 : e + 1 < l.length, l[e + 1] = 10) := by
  rcases hb with h13 | h10
  · by_cases h2 : e + 1 < l.length
    · by_cases hx : l[e + 1] = 10
      · exact .inr (.inr ⟨brk_crlf l e h2 h13 hx, h13, h2, hx⟩)
      · exact .inr (.inl ⟨brk_cr l e h2 h13 hx, h13, fun _ => hx⟩)
    · exact .inr (.inl ⟨brk_cr_end l e h h13 (by omega), h13, fun h3 => absurd h3 h2⟩)
  · exact .inl ⟨brk_lf l e h h10, h10⟩
theorem cells_add {w : World} {b off : Nat} {l : List UInt8} (hc : CellsL w b off l) (j : Nat) (v : Value) (hj : (bvs l)[j]? = some v) : w.cell? ((⟨b, off, none⟩ : Addr).add j) = some v := by
  have hlt : j < l.length := by
    rcases Nat.lt_or_ge j l.length with h | h
    · exact h
    · rw [List.getElem?_eq_none (by rw [bvs_len]; exact h)] at hj; cases hj
  rw [bvs_get l j hlt] at hj
  cases hj
  have : (⟨b, off, none⟩ : Addr).add j = ⟨b, off + j, none⟩ := by unfold Addr.add; split <;> simp_all
  rw [this]; exact hc j hlt
theorem zz5_ok (a : Option Addr) (n c : Nat) (i : Int) (hn : n ≤ 1048576) (w : World) : Calls Tryd.prog 5 #[.slice a n c, .int .i64 i] w fun e w' => e = .returned (.bool true) ∧ w = w' := by
  go_enter Tryd.func5, Tryd.ntmps5
  go_wp2
  go_ret
  exact ⟨rfl, rfl⟩
theorem zz5_no (a : Option Addr) (n c : Nat) (i : Int) (hn : 1048576 < n) (hm : n ≤ 9223372036854775807) (w : World) : Calls Tryd.prog 5 #[.slice a n c, .int .i64 i] w fun e w' => e = .returned (.bool false) ∧ w = w' := by
  go_enter Tryd.func5, Tryd.ntmps5
  go_wp2
  go_ret
  exact ⟨rfl, rfl⟩
theorem splits_big (a : Option Addr) (n c : Nat) (i : Int) (hn : 1048576 < n) (hm : n ≤ 9223372036854775807) (w : World) : Calls Tryd.prog 3 #[.slice a n c, .int .i64 i] w fun e w' => e = .returned (.bool true) ∧ Below w.heap.size w w' := by
  go_enter Tryd.func3, Tryd.ntmps3
  go_wp2_with fail
  refine (zz5_no a n c i hn hm _).mono ?_
  rintro e w1 ⟨rfl, rfl⟩
  go_wp2_with fail
  go_ret
  exact ⟨rfl, Below.refl _ _⟩
set_option maxRecDepth 100000 in
theorem splits_out (a : Option Addr) (n c : Nat) (i : Int) (hn : n ≤ 1048576) (h : i < 0 ∨ (n : Int) < i) (w : World) : Calls Tryd.prog 3 #[.slice a n c, .int .i64 i] w fun e w' => e = .returned (.bool true) ∧ Below w.heap.size w w' := by
  by_cases h0 : i < 0
  · clear h
    go_enter Tryd.func3, Tryd.ntmps3
    go_wp2_with fail
    refine (zz5_ok a n c i hn _).mono ?_
    rintro e w1 ⟨rfl, rfl⟩
    go_wp2_with fail
    go_ret
    exact ⟨rfl, Below.refl _ _⟩
  · have h1 : (n : Int) < i := by omega
    clear h
    go_enter Tryd.func3, Tryd.ntmps3
    go_wp2_with fail
    refine (zz5_ok a n c i hn _).mono ?_
    rintro e w1 ⟨rfl, rfl⟩
    go_wp2_with fail
    go_ret
    exact ⟨rfl, Below.refl _ _⟩
set_option maxRecDepth 100000 in
set_option maxHeartbeats 1000000 in
theorem splits_nil (w : World) (hT : Lib.Utf8Tabs 1 2 w) (mx : Int) (hmx : w.cell? ⟨0, 0, none⟩ = some (.int .i64 mx)) :
    Calls Tryd.prog 3 #[.slice none 0 0, .int .i64 0] w fun e w' => e = .returned (.bool true) ∧ Below w.heap.size w w' := by
  have H := hide (zzlineAt_nil w hT mx hmx)
  clear hT hmx
  go_enter Tryd.func3, Tryd.ntmps3
  go_wp2_with fail
  refine (zz5_ok none 0 0 0 (by omega) _).mono ?_
  rintro e w1 ⟨rfl, rfl⟩
  go_wp2_with fail
  refine wp_loop_rounds 1 ?_
  rw [rounds_succ]
  go_wp2_with fail
  refine (unhide H).mono ?_
  rintro e w1 ⟨a, c', rfl, h1, h2, h3⟩
  have H1 := hide h1
  clear h1 h3
  have e0 : endOf [] 0 = 0 := rfl
  have e1 : brkLen [] 0 = 0 := rfl
  go_wp2_with fail
  refine (same_empty _ _ _ _ _).mono ?_
  rintro e w2 ⟨rfl, rfl⟩
  go_wp2_with fail
  refine wp_loop_rounds 1 ?_
  rw [rounds_succ]
  go_wp2_with fail
  go_ret
  exact ⟨rfl, h2⟩
set_option maxRecDepth 100000 in
set_option maxHeartbeats 4000000 in
theorem splits_row (a : Addr) (c : Nat) (l : List UInt8) (i : Nat) (hi : i ≤ l.length) (hn : l.length ≤ 1048576) (w : World) (hA : At w (some a) l) (hT : Lib.Utf8Tabs 1 2 w) (mx : Int) (hmx : w.cell? ⟨0, 0, none⟩ = some (.int .i64 mx)) :
    Calls Tryd.prog 3 #[.slice (some a) l.length c, .int .i64 (i : Nat)] w fun e w' => e = .returned (.bool true) ∧ Below w.heap.size w w' := by
  obtain ⟨i0, hi0, hz0, hz1, hz2⟩ := info_parts Tryd.info5
  have HT := hide hT
  have HA := hide hA
  have hb0 : 0 < w.heap.size := World.block_lt_of_cell? _ _ hmx
  clear hT hA
  go_enter Tryd.func3, Tryd.ntmps3
  go_wp2_with fail
  refine (zz5_ok _ _ _ _ hn _).mono ?_
  rintro e w1 ⟨rfl, rfl⟩
  go_upto_region 9 with (first | (at_make; refine wpList_make_full _ rfl _ _ 22 rfl w.heap.size 5 i0 (.int .u8 0) 1 Tryd.underlying22 hi0 hz0 hz1 .i64 .i64 l.length l.length l.length rfl rfl rfl rfl (by rw [hz2]; omega) (by unfold maxLen; omega) (Nat.le_refl _) ?_; intro w1 hown hgr) | fail)
  rw [show (madeCells (Value.int IntKind.u8 0).cells (l.length * 1)).toList = List.replicate l.length (Value.int .u8 0) from by rw [Nat.mul_one]; exact toList_madeCells_one _ _] at hown
  have hb1 : Below w.heap.size w w1 := (Below.refl _ _).grown hgr (Nat.le_refl _) (fun _ h => by cases h)
  have hblk := owns_block hown
  have hA1 : At w1 (some a) l := fun h0 => by
    obtain ⟨b, off, e, hc⟩ := (unhide HA) h0
    exact ⟨b, off, e, hc.later hc.lt hb1⟩
  have HBK := hide hblk
  have HA1 := hide hA1
  obtain ⟨Z, hZ⟩ : ∃ Z, Hid (Z = List.replicate l.length (Value.int .u8 0)) := ⟨_, rfl⟩
  have hZl : Z.length = l.length := by rw [hZ.out, List.length_replicate]
  rw [← hZ.out] at HBK
  obtain ⟨X, hX⟩ : ∃ X, Hid (X = bvs l) := ⟨_, rfl⟩
  have hXl : X.length = l.length := by rw [hX.out, bvs_len]
  have hXc : 0 < X.length → ∀ j v, X[j]? = some v → w1.cell? (a.add j) = some v := fun h0 j v hj => by
    obtain ⟨b, off, e, hc⟩ := hA1 (by omega)
    cases e
    exact cells_add hc j v (by rw [← hX.out]; exact hj)
  clear hown hgr hblk hA1
  go_upto_region 10 with (first | (refine wpList_copy_splice rfl (.tmp 33) (.tmp 34) 22 22 rfl 5 Tryd.underlying22 Tryd.size5 _ _ _ _ _ _ rfl rfl w.heap.size 0 Z 5 (unhide HBK) X (by rw [hXl]; simp) (fun h => ⟨rfl, a, rfl, hXc h⟩) (by omega) (by rw [hX.out]; exact bvs_one l) w.heap.size w hb1 (Nat.le_refl _) ?_; intro w2 HB2 hb2) | fail)
  have hcl2 : CellsL w2 w.heap.size 0 l := by
    have := HB2.out
    rw [splice_all Z X (by omega), hX.out] at this
    exact CellsL.of_block this
  have hg2 : w.heap.size < w2.heap.size := by
    have := HB2.out
    exact (Array.getElem?_eq_some_iff.1 this).1
  have HC2 := hide hcl2
  have HT2 := hide (tabs_later (unhide HT) hb2)
  have hm2 := (hb2.cell (p := ⟨0, 0, none⟩) hb0).trans hmx
  clear hcl2 HB2 HT HA HA1 HBK hXc hXl hZl hX hZ hb1 hmx
  go_wp2_with fail
  go_loopg [6, 7] (l.length - i) (fun g pv sv wr => ∃ pos st : Nat, g = l.length - pos ∧ i ≤ pos ∧ pos ≤ l.length ∧ st + i ≤ pos ∧ Below w2.heap.size w2 wr ∧ pv = .int .i64 (pos : Nat) ∧ sv = .int .i64 (st : Nat))
  case atStart => exact ⟨i, 0, rfl, Nat.le_refl _, hi, by omega, Below.refl _ _, rfl, rfl⟩
  case round =>
    obtain ⟨pos, st, rfl, hip, hpl, hst, hbr, rfl, rfl⟩ := hrel
    have hcr : CellsL wr w.heap.size 0 l := (unhide HC2).later (fun _ => hg2) hbr
    have hgr : w.heap.size < wr.heap.size := by have := hbr.size; omega
    have hBr : Below w.heap.size w wr := hb2.trans (hbr.mono (by omega))
    have H := hide (zzlineAt_row w.heap.size l pos hpl (by omega) wr hcr hgr (tabs_later (unhide HT2) hbr) mx ((hbr.cell (p := ⟨0, 0, none⟩) (show 0 < w2.heap.size by have := hb2.size; omega)).trans hm2))
    obtain ⟨he1, he2⟩ := endOf_le l pos hpl
    have hbk := brkLen_le l (endOf l pos) he2
    obtain ⟨n, hE⟩ : ∃ n, Hid (pos + n = endOf l pos) := ⟨endOf l pos - pos, show pos + (endOf l pos - pos) = endOf l pos by omega⟩
    rw [← hE.out] at he2 hbk
    clear he1
    obtain ⟨K, hK⟩ : ∃ K, Hid (K = brkLen l (pos + n)) := ⟨_, rfl⟩
    rw [← hK.out] at hbk
    clear hcr
    go_wp2_with fail
    refine (unhide H).mono ?_
    rintro e w3 ⟨a3, c3, rfl, h1, h2, h3⟩
    rw [← hE.out, Nat.add_sub_cancel_left] at h1 ⊢
    rw [← hK.out]
    have hB3 : Below w.heap.size w w3 := hBr.trans (h2.mono (by omega))
    have hb3 : Below w2.heap.size w2 w3 := hbr.trans (h2.mono hbr.size)
    have hc3 : CellsL w3 w.heap.size 0 l := (unhide HC2).later (fun _ => hg2) hb3
    have HC3 := hide hc3
    have HA3 := hide h1
    have hsub : ((l.drop pos).take n).length = n := by rw [List.length_take, List.length_drop]; omega
    have HS := hide hsub
    clear H h1 h2 h3 hc3 hsub hBr hbr
    by_cases hpos : pos < l.length
    · have hA4 : At w3 (some ⟨w.heap.size, pos, none⟩) ((l.drop pos).take n) := fun _ => ⟨_, _, rfl, by have := ((unhide HC3).drop pos).take n; rwa [Nat.zero_add] at this⟩
      have HSm := hide (same_n a3 (some ⟨w.heap.size, pos, none⟩) n c3 (l.length - pos) _ (unhide HS) (by omega) w3 (unhide HA3) hA4)
      clear hA4
      go_wp2_with fail
      refine (unhide HSm).mono ?_
      rintro e w4 ⟨rfl, q4, rfl⟩
      clear HSm
      go_upto_block 2 with fail
      go_cut [11] (fun kv wx => w3.drewN q4 = wx)
      case first =>
        as_aux_lemma =>
          rcases Nat.eq_zero_or_pos n with hn0 | hn0
          · subst hn0
            go_wp2_with fail
            refine wp_loop_rounds 1 ?_
            rw [rounds_succ]
            go_wp2_with fail
            go_meet
            case rel => rfl
          · obtain ⟨b, off, rfl, hcc⟩ := (unhide HA3) (by rw [unhide HS]; exact hn0)
            have HCC := hide hcc
            clear hcc
            go_wp2_with fail
            go_loopg [11] n (fun g kv wr => ∃ k : Nat, g = n - k ∧ k ≤ n ∧ w3.drewN q4 = wr ∧ kv = .int .i64 (k : Nat))
            case atStart => exact ⟨0, rfl, Nat.zero_le _, rfl, rfl⟩
            case round =>
              obtain ⟨k, rfl, hk, rfl, rfl⟩ := hrel
              by_cases hlt : k < n
              · have hx1 := (unhide HCC) k (by rw [unhide HS]; exact hlt)
                rw [List.getElem_take, List.getElem_drop] at hx1
                have hcl := line_clean l pos k hpl (by rw [← hE.out]; omega) (by omega)
                obtain ⟨x, hx, HX⟩ : ∃ x : Nat, w3.cell? ⟨b, off + k, none⟩ = some (.int .u8 (x : Int)) ∧ Hid (x = (l[pos + k]'(by omega)).toNat) := ⟨_, hx1, rfl⟩
                have e13 : ((x : Int) == 13) = false := beq_eq_false_iff_ne.2 (fun e => hcl.1 (UInt8.toNat_inj.1 (by rw [← HX.out]; show x = 13; omega)))
                have e10 : ((x : Int) == 10) = false := beq_eq_false_iff_ne.2 (fun e => hcl.2 (UInt8.toNat_inj.1 (by rw [← HX.out]; show x = 10; omega)))
                clear hx1 hcl
                go_wp2_with fail
                go_roundg (n - (k + 1))
                case measure => omega
                case rel => exact ⟨k + 1, rfl, by omega, rfl, by go_num⟩
              · go_wp2_with fail
                go_meet
                case rel => rfl
      case rest =>
        obtain rfl := hcut
        by_cases hel : pos + n < l.length
        · have hbrk := end_brk l pos hpl (by rw [← hE.out]; exact hel)
          have hbrk' : l[pos + n] = 13 ∨ l[pos + n] = 10 := by
            have e := hE.out
            simp only [← e] at hbrk
            exact hbrk
          clear hbrk
          obtain ⟨x, hx, HX⟩ : ∃ x : Nat, w3.cell? ⟨w.heap.size, pos + n, none⟩ = some (.int .u8 (x : Int)) ∧ Hid (x = (l[pos + n]).toNat) := ⟨(l[pos + n]).toNat, by have := (unhide HC3) (pos + n) hel; rwa [Nat.zero_add] at this, rfl⟩
          rcases brk_cases l (pos + n) hel hbrk' with ⟨hk1, h10⟩ | ⟨hk1, h13, hnx⟩ | ⟨hk2, h13, h2, hnx⟩
          · obtain rfl : K = 1 := by rw [hK.out]; exact hk1
            obtain rfl : x = 10 := by rw [HX.out, h10]; rfl
            clear hk1 h10 hbrk'
            by_cases hfin : pos + n + 1 = l.length
            · have hfz : (pos : Int) + (n : Int) + 1 = (l.length : Int) := by omega
              go_wp2_with fail
              go_ret
              exact ⟨rfl, below_drewN hB3 _⟩
            · have hfz : (pos : Int) + (n : Int) + 1 < (l.length : Int) := by omega
              go_wp2_with fail
              go_roundg (l.length - (pos + n + 1))
              case measure => omega
              case rel => exact ⟨pos + n + 1, st + 1, rfl, by omega, by omega, by omega, below_drewN hb3 _, by go_num, by go_num⟩
          · obtain rfl : K = 1 := by rw [hK.out]; exact hk1
            obtain rfl : x = 13 := by rw [HX.out, h13]; rfl
            clear hk1 h13 hbrk'
            by_cases hfin : pos + n + 1 = l.length
            · have hfz : (pos : Int) + (n : Int) + 1 = (l.length : Int) := by omega
              go_wp2_with fail
              go_ret
              exact ⟨rfl, below_drewN hB3 _⟩
            · have hfz : (pos : Int) + (n : Int) + 1 < (l.length : Int) := by omega
              obtain ⟨y, hy, HY⟩ : ∃ y : Nat, w3.cell? ⟨w.heap.size, pos + n + 1, none⟩ = some (.int .u8 (y : Int)) ∧ Hid (y = (l[pos + n + 1]'(by omega)).toNat) := ⟨(l[pos + n + 1]'(by omega)).toNat, by have := (unhide HC3) (pos + n + 1) (by omega); rwa [Nat.zero_add] at this, rfl⟩
              have ey : ((y : Int) == 10) = false := beq_eq_false_iff_ne.2 (fun e => hnx (by omega) (UInt8.toNat_inj.1 (by rw [← HY.out]; show y = 10; omega)))
              clear hnx
              go_wp2_with fail
              go_roundg (l.length - (pos + n + 1))
              case measure => omega
              case rel => exact ⟨pos + n + 1, st + 1, rfl, by omega, by omega, by omega, below_drewN hb3 _, by go_num, by go_num⟩
          · obtain rfl : K = 2 := by rw [hK.out]; exact hk2
            obtain rfl : x = 13 := by rw [HX.out, h13]; rfl
            clear hk2 h13 hbrk'
            have hy : w3.cell? ⟨w.heap.size, pos + n + 1, none⟩ = some (.int .u8 10) := by
              have := (unhide HC3) (pos + n + 1) h2
              rw [Nat.zero_add, hnx] at this
              exact this
            clear hnx
            by_cases hfin : pos + n + 2 = l.length
            · have hfz : (pos : Int) + (n : Int) + 2 = (l.length : Int) := by omega
              go_wp2_with fail
              go_ret
              exact ⟨rfl, below_drewN hB3 _⟩
            · have hfz : (pos : Int) + (n : Int) + 2 < (l.length : Int) := by omega
              go_wp2_with fail
              go_roundg (l.length - (pos + n + 2))
              case measure => omega
              case rel => exact ⟨pos + n + 2, st + 1, rfl, by omega, by omega, by omega, below_drewN hb3 _, by go_num, by go_num⟩
        · have hend : pos + n = l.length := by omega
          have hK0 : K = 0 := by omega
          subst hK0
          go_wp2_with fail
          go_ret
          exact ⟨rfl, below_drewN hB3 _⟩
    · obtain rfl : pos = l.length := by omega
      obtain rfl : n = 0 := by omega
      have hK0 : K = 0 := by omega
      subst hK0
      clear hpos he2 hbk hip hpl
      go_wp2_with fail
      refine (same_empty _ _ _ _ _).mono ?_
      rintro e w4 ⟨rfl, rfl⟩
      go_wp2_with fail
      refine wp_loop_rounds 1 ?_
      rw [rounds_succ]
      go_wp2_with fail
      go_ret
      exact ⟨rfl, hB3⟩
end Go.Proofs.Qxb6608622aDoor
