import Derived.Test.Qxb6608622aDoorJoin
namespace Go.Proofs.Qxb6608622aDoor
open Go.RowKit

/-! ### The plain law of a joined text -/
theorem end_app_lt (d t : List UInt8) (i : Nat) (hi : i ≤ d.length) (h : endOf d i < d.length) : endOf (d ++ t) i = endOf d i := by
  unfold endOf at h ⊢
  rw [List.drop_append_of_le_length hi, List.findIdx_append, if_pos (by rw [List.length_drop]; omega)]
theorem end_app_end (d t : List UInt8) (i : Nat) (hi : i ≤ d.length) (h : endOf d i = d.length) : endOf (d ++ t) i = d.length + endOf t 0 := by
  unfold endOf at h ⊢
  rw [List.drop_append_of_le_length hi, List.findIdx_append, if_neg (by rw [List.length_drop]; omega), List.length_drop, List.drop_zero]
  omega
theorem brk_app (d t : List UInt8) (e : Nat) : brkLen (d ++ t) (d.length + e) = brkLen t e := by
  have h : (d ++ t).drop (d.length + e) = t.drop e := by simp [List.drop_append]
  unfold brkLen
  rw [h]
/-- The line's bytes are the same where it ends inside d. -/
theorem take_app (d t : List UInt8) (i n : Nat) (h : i + n ≤ d.length) : ((d ++ t).drop i).take n = (d.drop i).take n := by
  rw [List.drop_append_of_le_length (by omega), List.take_append_of_le_length (by rw [List.length_drop]; omega)]
theorem take_app_end (d t : List UInt8) (i n m : Nat) (h : i + n = d.length) : ((d ++ t).drop i).take (n + m) = (d.drop i).take n ++ (t.drop 0).take m := by
  rw [List.drop_append_of_le_length (by omega), List.drop_zero]
  have hl : (d.drop i).length = n := by rw [List.length_drop]; omega
  rw [← hl, List.take_length, List.take_length_add_append]
theorem app_get (d t : List UInt8) (e : Nat) (h : e < d.length) : (d ++ t)[e]'(by rw [List.length_append]; omega) = d[e] := List.getElem_append_left h
/-- An LF, or a break wholly inside d with a byte behind it, is the same break. -/
theorem brk_app_lf (d t : List UInt8) (e : Nat) (h : e < d.length) (h1 : d[e] = 10) : brkLen (d ++ t) e = 1 :=
  brk_lf _ _ (by rw [List.length_append]; omega) (by rw [app_get d t e h]; exact h1)
theorem brk_app_crlf (d t : List UInt8) (e : Nat) (h : e + 1 < d.length) (h1 : d[e] = 13) (h2 : d[e + 1] = 10) : brkLen (d ++ t) e = 2 :=
  brk_crlf _ _ (by rw [List.length_append]; omega) (by rw [app_get d t e (by omega)]; exact h1) (by rw [app_get d t (e + 1) h]; exact h2)
theorem brk_app_cr (d t : List UInt8) (e : Nat) (h : e + 1 < d.length) (h1 : d[e] = 13) (h2 : d[e + 1] ≠ 10) : brkLen (d ++ t) e = 1 :=
  brk_cr _ _ (by rw [List.length_append]; omega) (by rw [app_get d t e (by omega)]; exact h1) (by rw [app_get d t (e + 1) h]; exact h2)
theorem app_get_one (d t : List UInt8) (e : Nat) (h : e = d.length) (h2 : 0 < t.length) : (d ++ t)[e]'(by rw [List.length_append]; omega) = t[0] := by
  subst h
  rw [List.getElem_append_right (Nat.le_refl _)]
  simp
theorem brk_app_last_lf (d t : List UInt8) (e : Nat) (h : e + 1 = d.length) (h1 : d[e] = 13) (h2 : 0 < t.length) (h3 : t[0] = 10) : brkLen (d ++ t) e = 2 :=
  brk_crlf _ _ (by rw [List.length_append]; omega) (by rw [app_get d t e (by omega)]; exact h1) (by rw [app_get_one d t (e + 1) h h2]; exact h3)
theorem brk_app_last_no (d t : List UInt8) (e : Nat) (h : e + 1 = d.length) (h1 : d[e] = 13) (h2 : ∀ (h0 : 0 < t.length), t[0] ≠ 10) : brkLen (d ++ t) e = 1 := by
  by_cases h0 : 0 < t.length
  · exact brk_cr _ _ (by rw [List.length_append]; omega) (by rw [app_get d t e (by omega)]; exact h1) (by rw [app_get_one d t (e + 1) h h0]; exact h2 h0)
  · exact brk_cr_end _ _ (by rw [List.length_append]; omega) (by rw [app_get d t e (by omega)]; exact h1) (by rw [List.length_append]; omega)

/-! ### The doors -/
theorem zz8_ok (a b : Option Addr) (n c m e : Nat) (i : Int) (hn : n + m ≤ 1048576) (w : World) : Calls Tryd.prog 8 #[.slice a n c, .slice b m e, .int .i64 i] w fun x w' => x = .returned (.bool true) ∧ w = w' := by
  go_enter Tryd.func8, Tryd.ntmps8
  go_wp2
  go_ret
  exact ⟨rfl, rfl⟩
theorem zz8_no (a b : Option Addr) (n c m e : Nat) (i : Int) (hn : 1048576 < n + m) (hn1 : n ≤ 9223372036854775807) (hm1 : m ≤ 9223372036854775807) (w : World) : Calls Tryd.prog 8 #[.slice a n c, .slice b m e, .int .i64 i] w fun x w' => x = .returned (.bool false) ∧ w = w' := by
  by_cases h1 : 1048576 < n
  · go_enter Tryd.func8, Tryd.ntmps8
    go_wp2
    go_ret
    exact ⟨rfl, rfl⟩
  · by_cases h2 : 1048576 < m
    · go_enter Tryd.func8, Tryd.ntmps8
      go_wp2
      go_ret
      exact ⟨rfl, rfl⟩
    · go_enter Tryd.func8, Tryd.ntmps8
      go_wp2
      go_ret
      exact ⟨rfl, rfl⟩
set_option maxRecDepth 100000 in
theorem agree_big (a b : Option Addr) (n c m e : Nat) (i : Int) (hn : 1048576 < n + m) (hn1 : n ≤ 9223372036854775807) (hm1 : m ≤ 9223372036854775807) (w : World) : Calls Tryd.prog 4 #[.slice a n c, .slice b m e, .int .i64 i] w fun x w' => x = .returned (.bool true) ∧ Below w.heap.size w w' := by
  go_enter Tryd.func4, Tryd.ntmps4
  go_wp2_with fail
  refine (zz8_no a b n c m e i hn hn1 hm1 _).mono ?_
  rintro x w1 ⟨rfl, rfl⟩
  go_wp2_with fail
  go_ret
  exact ⟨rfl, Below.refl _ _⟩
set_option maxRecDepth 100000 in
theorem agree_out (a b : Option Addr) (n c m e : Nat) (i : Int) (hn : n + m ≤ 1048576) (h : i < 0 ∨ (n : Int) < i) (w : World) : Calls Tryd.prog 4 #[.slice a n c, .slice b m e, .int .i64 i] w fun x w' => x = .returned (.bool true) ∧ Below w.heap.size w w' := by
  by_cases h0 : i < 0
  · clear h
    go_enter Tryd.func4, Tryd.ntmps4
    go_wp2_with fail
    refine (zz8_ok a b n c m e i hn _).mono ?_
    rintro x w1 ⟨rfl, rfl⟩
    go_wp2_with fail
    go_ret
    exact ⟨rfl, Below.refl _ _⟩
  · have h1 : (n : Int) < i := by omega
    clear h
    go_enter Tryd.func4, Tryd.ntmps4
    go_wp2_with fail
    refine (zz8_ok a b n c m e i hn _).mono ?_
    rintro x w1 ⟨rfl, rfl⟩
    go_wp2_with fail
    go_ret
    exact ⟨rfl, Below.refl _ _⟩

/-- A text that the call owns: nil, or a full row of its own block. -/
def Own (w : World) (p : Option Addr) (c : Nat) (l : List UInt8) : Prop :=
  (p = none ∧ c = 0 ∧ l = []) ∨ (∃ g, p = some ⟨g, 0, none⟩ ∧ c = l.length ∧ CellsL w g 0 l ∧ g < w.heap.size)
theorem Own.at_ {w : World} {p : Option Addr} {c : Nat} {l : List UInt8} (h : Own w p c l) : At w p l := fun h0 => by
  rcases h with ⟨_, _, rfl⟩ | ⟨g, rfl, _, hc, _⟩
  · simp at h0
  · exact ⟨g, 0, rfl, hc⟩
theorem Own.later {w w' : World} {p : Option Addr} {c : Nat} {l : List UInt8} (h : Own w p c l) (hb : Below w.heap.size w w') : Own w' p c l := by
  rcases h with h | ⟨g, rfl, hc, hl, hg⟩
  · exact .inl h
  · exact .inr ⟨g, rfl, hc, hl.later (fun _ => hg) hb, by have := hb.size; omega⟩
/-- What lineAt hands back, in numbers. -/
def LineIs (N M : Nat) (L : List UInt8) (w : World) (e : Ending) (w' : World) : Prop :=
  ∃ a c', e = .returned (.tuple #[.slice a N c', .int .i64 (M : Nat)]) ∧ Hid (At w' a L) ∧ Below w.heap.size w w'
theorem line_own (p : Option Addr) (c : Nat) (l : List UInt8) (i : Nat) (hi : i ≤ l.length) (hl : l.length ≤ 1073741824) (w : World) (ho : Own w p c l) (hT : Lib.Utf8Tabs 1 2 w) (mx : Int) (hmx : w.cell? ⟨0, 0, none⟩ = some (.int .i64 mx))
    (N M : Nat) (L : List UInt8) (hN : i + N = endOf l i) (hM : M = endOf l i + brkLen l (endOf l i)) (hL : L = (l.drop i).take N) :
    Calls Tryd.prog 6 #[.slice p l.length c, .int .i64 (i : Nat)] w (LineIs N M L w) := by
  have hk : endOf l i - i = N := by omega
  rcases ho with ⟨rfl, rfl, rfl⟩ | ⟨g, rfl, rfl, hc, hg⟩
  · obtain rfl : i = 0 := by simpa using hi
    refine (zzlineAt_nil w hT mx hmx).mono ?_
    rintro e w' ⟨a, c', rfl, h1, h2, h3⟩
    rw [hk] at h1 ⊢
    rw [← hM]
    exact ⟨a, c', rfl, by rw [hL]; exact h1, h2⟩
  · refine (zzlineAt_row g l i hi hl w hc hg hT mx hmx).mono ?_
    rintro e w' ⟨a, c', rfl, h1, h2, h3⟩
    rw [hk] at h1 ⊢
    rw [← hM]
    exact ⟨a, c', rfl, by rw [hL]; exact h1, h2⟩
theorem join_n (p q : Option Addr) (n m c d : Nat) (l k : List UInt8) (hl : l.length = n) (hk : k.length = m) (hn : n + m ≤ 1073741824) (w : World) (h1 : At w p l) (h2 : At w q k) :
    Calls Tryd.prog 9 #[.slice p n c, .slice q m d] w fun e w' => e = .returned (.slice (some ⟨w.heap.size, 0, none⟩) (n + m) (n + m)) ∧ CellsL w' w.heap.size 0 (l ++ k) ∧ w.heap.size < w'.heap.size ∧ Below w.heap.size w w' := by
  subst hl hk
  exact join_any p q c d l k hn w h1 h2

set_option maxRecDepth 100000 in
set_option maxHeartbeats 4000000 in
theorem agree_row (p q : Option Addr) (c e : Nat) (l t : List UInt8) (i : Nat) (hi : i ≤ l.length) (hn : l.length + t.length ≤ 1048576) (w : World) (hA : At w p l) (hA' : At w q t) (hp : p = none → c = 0 ∧ l.length = 0) (hq : q = none → e = 0 ∧ t.length = 0) (hT : Lib.Utf8Tabs 1 2 w) (mx : Int) (hmx : w.cell? ⟨0, 0, none⟩ = some (.int .i64 mx)) :
    Calls Tryd.prog 4 #[.slice p l.length c, .slice q t.length e, .int .i64 (i : Nat)] w fun e w' => e = .returned (.bool true) ∧ Below w.heap.size w w' := by
  obtain ⟨i0, hi0, hz0, hz1, hz2⟩ := info_parts Tryd.info5
  have HT := hide hT
  have HA := hide hA
  have HA' := hide hA'
  have HM := hide hmx
  have hb0 : 0 < w.heap.size := World.block_lt_of_cell? _ _ hmx
  have HP := hide hp
  have HQ := hide hq
  clear hT hA hA' hmx hp hq
  go_enter Tryd.func4, Tryd.ntmps4
  go_wp2_with fail
  refine (zz8_ok _ _ _ _ _ _ _ hn _).mono ?_
  rintro x w1 ⟨rfl, rfl⟩
  go_upto_if 42 with fail
  go_cut [0] (fun dv wx => ∃ p' c', dv = .slice p' l.length c' ∧ Hid (Own wx p' c' l) ∧ Below w.heap.size w wx)
  case first =>
    as_aux_lemma =>
      cases p with
      | none =>
        obtain ⟨rfl, hl0⟩ := (unhide HP) rfl
        go_wp2_with fail
        go_meet
        case rel => exact ⟨none, 0, by rw [hl0], hide (.inl ⟨rfl, rfl, List.eq_nil_of_length_eq_zero hl0⟩), Below.refl _ _⟩
      | some a =>
        go_upto_region 11 with (first | (at_make; refine wpList_make_full _ rfl _ _ 22 rfl w.heap.size 5 i0 (.int .u8 0) 1 Tryd.underlying22 hi0 hz0 hz1 .i64 .i64 l.length l.length l.length rfl rfl rfl rfl (by rw [hz2]; omega) (by unfold maxLen; omega) (Nat.le_refl _) ?_; intro w1 hown hgr) | fail)
        rw [show (madeCells (Value.int IntKind.u8 0).cells (l.length * 1)).toList = List.replicate l.length (Value.int .u8 0) from by rw [Nat.mul_one]; exact toList_madeCells_one _ _] at hown
        have hb1 : Below w.heap.size w w1 := (Below.refl _ _).grown hgr (Nat.le_refl _) (fun _ h => by cases h)
        have hblk := owns_block hown
        have hA1 : At w1 (some a) l := fun h0 => by
          obtain ⟨b, off, e, hc⟩ := (unhide HA) h0
          exact ⟨b, off, e, hc.later hc.lt hb1⟩
        have HBK := hide hblk
        obtain ⟨Z, hZ⟩ : ∃ Z, Hid (Z = List.replicate l.length (Value.int .u8 0)) := ⟨_, rfl⟩
        have hZl : Z.length = l.length := by rw [hZ.out, List.length_replicate]
        rw [← hZ.out] at HBK
        obtain ⟨X, hX⟩ : ∃ X, Hid (X = bvs l) := ⟨_, rfl⟩
        have hXl : X.length = l.length := by rw [hX.out, bvs_len]
        have hXc : 0 < X.length → ∀ j v, X[j]? = some v → w1.cell? (a.add j) = some v := fun h0 j v hj => by
          obtain ⟨b, off, e, hc⟩ := hA1 (by omega)
          cases e
          exact cells_add hc j v (by rw [← hX.out]; exact hj)
        clear hown hgr hblk hA1
        go_upto_region 12 with (first | (refine wpList_copy_splice rfl (.tmp 46) (.tmp 47) 22 22 rfl 5 Tryd.underlying22 Tryd.size5 _ _ _ _ _ _ rfl rfl w.heap.size 0 Z 5 (unhide HBK) X (by rw [hXl]; simp) (fun h => ⟨rfl, a, rfl, hXc h⟩) (by omega) (by rw [hX.out]; exact bvs_one l) w.heap.size w hb1 (Nat.le_refl _) ?_; intro w2 HB2 hb2) | fail)
        have hcl2 : CellsL w2 w.heap.size 0 l := by
          have := HB2.out
          rw [splice_all Z X (by omega), hX.out] at this
          exact CellsL.of_block this
        have hg2 : w.heap.size < w2.heap.size := by
          have := HB2.out
          exact (Array.getElem?_eq_some_iff.1 this).1
        have HC2 := hide hcl2
        clear hcl2 HB2 HBK hXc hXl hZl hX hZ hb1
        go_wp2_with fail
        go_meet
        case rel => exact ⟨some ⟨w.heap.size, 0, none⟩, l.length, rfl, hide (.inr ⟨_, rfl, rfl, unhide HC2, hg2⟩), hb2⟩
  case rest =>
    obtain ⟨p', c', rfl, HO, hbw⟩ := hcut

    have HA2 : Hid (At wc q t) := fun h0 => by
      obtain ⟨b, off, e, hc⟩ := (unhide HA') h0
      exact ⟨b, off, e, hc.later hc.lt hbw⟩
    have HT1 := hide (tabs_later (unhide HT) hbw)
    have HM1 := hide ((hbw.cell (p := ⟨0, 0, none⟩) hb0).trans (unhide HM))
    have hb1 : 0 < wc.heap.size := by have := hbw.size; omega
    obtain ⟨wd, hwd⟩ : ∃ wd, Hid (wd = wc) := ⟨_, rfl⟩
    rw [← hwd.out] at HO hbw HA2 HT1 HM1 hb1 ⊢
    clear hwd HT HM HA HA' HP
    go_upto_if 51 with fail
    go_cut [1] (fun tv wx => ∃ q' e', tv = .slice q' t.length e' ∧ Hid (Own wx q' e' t) ∧ Below wd.heap.size wd wx)
    case first =>
      as_aux_lemma =>
        cases q with
        | none =>
          obtain ⟨rfl, hl0⟩ := (unhide HQ) rfl
          go_wp2_with fail
          go_meet
          case rel => exact ⟨none, 0, by rw [hl0], hide (.inl ⟨rfl, rfl, List.eq_nil_of_length_eq_zero hl0⟩), Below.refl _ _⟩
        | some a =>
          go_upto_region 15 with (first | (at_make; refine wpList_make_full _ rfl _ _ 22 rfl wd.heap.size 5 i0 (.int .u8 0) 1 Tryd.underlying22 hi0 hz0 hz1 .i64 .i64 t.length t.length t.length rfl rfl rfl rfl (by rw [hz2]; omega) (by unfold maxLen; omega) (Nat.le_refl _) ?_; intro w1 hown hgr) | fail)
          rw [show (madeCells (Value.int IntKind.u8 0).cells (t.length * 1)).toList = List.replicate t.length (Value.int .u8 0) from by rw [Nat.mul_one]; exact toList_madeCells_one _ _] at hown
          have hb1 : Below wd.heap.size wd w1 := (Below.refl _ _).grown hgr (Nat.le_refl _) (fun _ h => by cases h)
          have hblk := owns_block hown
          have hA1 : At w1 (some a) t := fun h0 => by
            obtain ⟨b, off, e, hc⟩ := (unhide HA2) h0
            exact ⟨b, off, e, hc.later hc.lt hb1⟩
          have HBK := hide hblk
          obtain ⟨Z, hZ⟩ : ∃ Z, Hid (Z = List.replicate t.length (Value.int .u8 0)) := ⟨_, rfl⟩
          have hZl : Z.length = t.length := by rw [hZ.out, List.length_replicate]
          rw [← hZ.out] at HBK
          obtain ⟨X, hX⟩ : ∃ X, Hid (X = bvs t) := ⟨_, rfl⟩
          have hXl : X.length = t.length := by rw [hX.out, bvs_len]
          have hXc : 0 < X.length → ∀ j v, X[j]? = some v → w1.cell? (a.add j) = some v := fun h0 j v hj => by
            obtain ⟨b, off, e, hc⟩ := hA1 (by omega)
            cases e
            exact cells_add hc j v (by rw [← hX.out]; exact hj)
          clear hown hgr hblk hA1
          go_upto_region 16 with (first | (refine wpList_copy_splice rfl (.tmp 55) (.tmp 56) 22 22 rfl 5 Tryd.underlying22 Tryd.size5 _ _ _ _ _ _ rfl rfl wd.heap.size 0 Z 5 (unhide HBK) X (by rw [hXl]; simp) (fun h => ⟨rfl, a, rfl, hXc h⟩) (by omega) (by rw [hX.out]; exact bvs_one t) wd.heap.size wd hb1 (Nat.le_refl _) ?_; intro w2 HB2 hb2) | fail)
          have hcl2 : CellsL w2 wd.heap.size 0 t := by
            have := HB2.out
            rw [splice_all Z X (by omega), hX.out] at this
            exact CellsL.of_block this
          have hg2 : wd.heap.size < w2.heap.size := by
            have := HB2.out
            exact (Array.getElem?_eq_some_iff.1 this).1
          have HC2 := hide hcl2
          clear hcl2 HB2 HBK hXc hXl hZl hX hZ hb1
          go_wp2_with fail
          go_meet
          case rel => exact ⟨some ⟨wd.heap.size, 0, none⟩, t.length, rfl, hide (.inr ⟨_, rfl, rfl, unhide HC2, hg2⟩), hb2⟩
    case rest =>
      obtain ⟨q', e', rfl, HO', hbd⟩ := hcut
      have HOd := hide ((unhide HO).later hbd)
      have HT2 := hide (tabs_later (unhide HT1) hbd)
      have HM2 := hide ((hbd.cell (p := ⟨0, 0, none⟩) hb1).trans (unhide HM1))
      have hb2 : 0 < wc.heap.size := by have := hbd.size; omega
      have hB2 : Below w.heap.size w wc := hbw.trans (hbd.mono hbw.size)
      obtain ⟨wf, hwf⟩ : ∃ wf, Hid (wf = wc) := ⟨_, rfl⟩
      rw [← hwf.out] at HOd HO' HT2 HM2 hb2 hB2 ⊢
      clear hwf HT1 HM1 HA2 HO HQ hbd hbw hb1 hb0
      -- the join
      go_wp2_with fail
      refine (join_any p' q' c' e' l t (by omega) wf (unhide HOd).at_ (unhide HO').at_).mono ?_
      rintro x w3 ⟨rfl, hJ3, hg3, hb3⟩
      have HOd3 := hide ((unhide HOd).later hb3)
      have HOt3 := hide ((unhide HO').later hb3)
      have HT3 := hide (tabs_later (unhide HT2) hb3)
      have HM3 := hide ((hb3.cell (p := ⟨0, 0, none⟩) hb2).trans (unhide HM2))
      have hB3 : Below w.heap.size w w3 := hB2.trans (hb3.mono hB2.size)
      have HJ3 : Hid (Own w3 (some ⟨wf.heap.size, 0, none⟩) (l.length + t.length) (l ++ t)) := .inr ⟨_, rfl, by rw [List.length_append], hJ3, hg3⟩
      clear hJ3 hg3 HOd HO' HT2 HM2 hB2 hb3
      -- the numbers
      obtain ⟨he1, he2⟩ := endOf_le l i hi
      have hbk := brkLen_le l (endOf l i) he2
      obtain ⟨n, hE⟩ : ∃ n, Hid (i + n = endOf l i) := ⟨endOf l i - i, show i + (endOf l i - i) = endOf l i by omega⟩
      rw [← hE.out] at he2 hbk
      clear he1
      obtain ⟨K, hK⟩ : ∃ K, Hid (K = brkLen l (i + n)) := ⟨_, rfl⟩
      rw [← hK.out] at hbk
      have H := hide (line_own p' c' l i hi (by omega) w3 (unhide HOd3) (unhide HT3) mx (unhide HM3) n (i + n + K) ((l.drop i).take n) hE.out (by rw [hK.out, ← hE.out]) rfl)
      go_wp2_with fail
      refine (unhide H).mono ?_
      rintro x w4 ⟨a4, c4, rfl, HL4, hb4⟩
      have hb3' : 0 < w3.heap.size := World.block_lt_of_cell? _ _ (unhide HM3)
      have HOd4 := hide ((unhide HOd3).later hb4)
      have HOt4 := hide ((unhide HOt3).later hb4)
      have HJ4 := hide ((unhide HJ3).later hb4)
      have HT4 := hide (tabs_later (unhide HT3) hb4)
      have HM4 := hide ((hb4.cell (p := ⟨0, 0, none⟩) hb3').trans (unhide HM3))
      have hB4 : Below w.heap.size w w4 := hB3.trans (hb4.mono hB3.size)
      have hb4' : 0 < w4.heap.size := World.block_lt_of_cell? _ _ (unhide HM4)
      clear H HOd3 HOt3 HJ3 HT3 HM3 hB3 hb4 hb3'
      have HS : Hid (((l.drop i).take n).length = n) := by
        rw [Hid, List.length_take, List.length_drop]; omega
      -- d[i:e]

      by_cases hpos : i < l.length
      · obtain ⟨g, rfl, rfl, HCd, hg⟩ : ∃ g, p' = some ⟨g, 0, none⟩ ∧ c' = l.length ∧ Hid (CellsL w4 g 0 l) ∧ g < w4.heap.size := by
          rcases (unhide HOd4) with ⟨_, _, rfl⟩ | ⟨g, h1, h2, h3, h4⟩
          · simp at hpos
          · exact ⟨g, h1, h2, h3, h4⟩
        have hA4 : At w4 (some ⟨g, i, none⟩) ((l.drop i).take n) := fun _ => ⟨_, _, rfl, by have := ((unhide HCd).drop i).take n; rwa [Nat.zero_add] at this⟩
        have HSm := hide (same_n a4 (some ⟨g, i, none⟩) n c4 (l.length - i) _ (unhide HS) (by omega) w4 (unhide HL4) hA4)
        clear hA4
        go_wp2_with fail
        refine (unhide HSm).mono ?_
        rintro x w5 ⟨rfl, q5, rfl⟩
        clear HSm
        by_cases hel : i + n < l.length
        · as_aux_lemma =>
            have hbrk := end_brk l i hi (by rw [← hE.out]; exact hel)
            have hbrk' : l[i + n] = 13 ∨ l[i + n] = 10 := by
              have e := hE.out
              simp only [← e] at hbrk
              exact hbrk
            clear hbrk
            rcases brk_cases l (i + n) hel hbrk' with ⟨hk1, h10⟩ | ⟨hk1, h13, hnx⟩ | ⟨hk2, h13, h2, hnx⟩
            · obtain rfl : K = 1 := by rw [hK.out]; exact hk1

              have hJe := end_app_lt l t i hi (by rw [← hE.out]; exact hel)
              have HJc := hide (line_own (some ⟨wf.heap.size, 0, none⟩) (l.length + t.length) (l ++ t) i (by rw [List.length_append]; omega) (by rw [List.length_append]; omega) (w4.drewN q5) (unhide HJ4) (unhide HT4) mx (unhide HM4) n (i + n + 1) ((l.drop i).take n)
                (by rw [hJe, ← hE.out]) (by rw [hJe, ← hE.out, brk_app_lf l t (i + n) hel h10]) (take_app l t i n he2).symm)
              rw [List.length_append] at HJc
              have hlast : w4.cell? ⟨g, i + n, none⟩ = some (.int .u8 10) := by
                have := (unhide HCd) (i + n) hel
                rw [Nat.zero_add, h10] at this
                exact this

              have HLA := hide hlast
              clear hJe hlast
              go_wp2_with fail
              refine (unhide HJc).mono ?_
              rintro x w6 ⟨a6, c6, rfl, HL6, hb6r⟩
              have hb6 : Below w4.heap.size w4 w6 := Below.trans (below_drewN (Below.refl _ _) q5) hb6r
              have hlast6 : w6.cell? ⟨g, i + n, none⟩ = some (.int .u8 10) := (hb6.cell (p := ⟨g, i + n, none⟩) hg).trans (unhide HLA)
              have HL4' : Hid (At w6 a4 ((l.drop i).take n)) := fun h0 => by
                obtain ⟨b, off, e, hc⟩ := (unhide HL4) h0
                exact ⟨b, off, e, hc.later hc.lt hb6⟩
              have HOt6 := hide ((unhide HOt4).later hb6)
              have hB6 : Below w.heap.size w w6 := hB4.trans (hb6.mono hB4.size)
              have HSm := hide (same_n a6 a4 n c6 c4 _ (unhide HS) (by omega) w6 (unhide HL6) (unhide HL4'))
              clear hb6r HJc HL4 HL4' HL6 HLA HOt4 HJ4 HT4 HM4 HOd4 hB4 hb6 HCd hk1 h10 hbrk'
              go_wp2_with fail
              refine (unhide HSm).mono ?_
              rintro x w7 ⟨rfl, q7, rfl⟩
              have hzz : ∀ z : Int, (z == z) = true := fun z => by simp
              go_wp2_with fail
              go_ret
              exact ⟨rfl, below_drewN hB6 _⟩

            · obtain rfl : K = 1 := by rw [hK.out]; exact hk1
              by_cases hfin : i + n + 1 < l.length
              · have hnx' := hnx hfin

                have hJe := end_app_lt l t i hi (by rw [← hE.out]; exact hel)
                have HJc := hide (line_own (some ⟨wf.heap.size, 0, none⟩) (l.length + t.length) (l ++ t) i (by rw [List.length_append]; omega) (by rw [List.length_append]; omega) (w4.drewN q5) (unhide HJ4) (unhide HT4) mx (unhide HM4) n (i + n + 1) ((l.drop i).take n)
                  (by rw [hJe, ← hE.out]) (by rw [hJe, ← hE.out, brk_app_cr l t (i + n) hfin h13 hnx']) (take_app l t i n he2).symm)
                rw [List.length_append] at HJc
                have hlast : w4.cell? ⟨g, i + n, none⟩ = some (.int .u8 13) := by
                  have := (unhide HCd) (i + n) hel
                  rw [Nat.zero_add, h13] at this
                  exact this

                have HLA := hide hlast
                clear hJe hlast
                go_wp2_with fail
                refine (unhide HJc).mono ?_
                rintro x w6 ⟨a6, c6, rfl, HL6, hb6r⟩
                have hb6 : Below w4.heap.size w4 w6 := Below.trans (below_drewN (Below.refl _ _) q5) hb6r
                have hlast6 : w6.cell? ⟨g, i + n, none⟩ = some (.int .u8 13) := (hb6.cell (p := ⟨g, i + n, none⟩) hg).trans (unhide HLA)
                have HL4' : Hid (At w6 a4 ((l.drop i).take n)) := fun h0 => by
                  obtain ⟨b, off, e, hc⟩ := (unhide HL4) h0
                  exact ⟨b, off, e, hc.later hc.lt hb6⟩
                have HOt6 := hide ((unhide HOt4).later hb6)
                have hB6 : Below w.heap.size w w6 := hB4.trans (hb6.mono hB4.size)
                have HSm := hide (same_n a6 a4 n c6 c4 _ (unhide HS) (by omega) w6 (unhide HL6) (unhide HL4'))
                clear hb6r HJc HL4 HL4' HL6 HLA HOt4 HJ4 HT4 HM4 HOd4 hB4 hb6 HCd hk1 h13 hbrk' hnx hnx'
                go_wp2_with fail
                refine (unhide HSm).mono ?_
                rintro x w7 ⟨rfl, q7, rfl⟩
                have hzz : ∀ z : Int, (z == z) = true := fun z => by simp
                go_wp2_with fail
                go_ret
                exact ⟨rfl, below_drewN hB6 _⟩

              · have hfin' : i + n + 1 = l.length := by omega
                by_cases ht0 : 0 < t.length
                · by_cases htl : t[0] = 10
                  · skip

                    have hJe := end_app_lt l t i hi (by rw [← hE.out]; exact hel)
                    have HJc := hide (line_own (some ⟨wf.heap.size, 0, none⟩) (l.length + t.length) (l ++ t) i (by rw [List.length_append]; omega) (by rw [List.length_append]; omega) (w4.drewN q5) (unhide HJ4) (unhide HT4) mx (unhide HM4) n (i + n + 2) ((l.drop i).take n)
                      (by rw [hJe, ← hE.out]) (by rw [hJe, ← hE.out, brk_app_last_lf l t (i + n) hfin' h13 ht0 htl]) (take_app l t i n he2).symm)
                    rw [List.length_append] at HJc
                    have hlast : w4.cell? ⟨g, i + n, none⟩ = some (.int .u8 13) := by
                      have := (unhide HCd) (i + n) hel
                      rw [Nat.zero_add, h13] at this
                      exact this

                    have HLA := hide hlast
                    clear hJe hlast
                    go_wp2_with fail
                    refine (unhide HJc).mono ?_
                    rintro x w6 ⟨a6, c6, rfl, HL6, hb6r⟩
                    have hb6 : Below w4.heap.size w4 w6 := Below.trans (below_drewN (Below.refl _ _) q5) hb6r
                    have hlast6 : w6.cell? ⟨g, i + n, none⟩ = some (.int .u8 13) := (hb6.cell (p := ⟨g, i + n, none⟩) hg).trans (unhide HLA)
                    have HL4' : Hid (At w6 a4 ((l.drop i).take n)) := fun h0 => by
                      obtain ⟨b, off, e, hc⟩ := (unhide HL4) h0
                      exact ⟨b, off, e, hc.later hc.lt hb6⟩
                    have HOt6 := hide ((unhide HOt4).later hb6)
                    have hB6 : Below w.heap.size w w6 := hB4.trans (hb6.mono hB4.size)
                    have HSm := hide (same_n a6 a4 n c6 c4 _ (unhide HS) (by omega) w6 (unhide HL6) (unhide HL4'))
                    obtain ⟨gt, rfl, ht6⟩ : ∃ gt, q' = some ⟨gt, 0, none⟩ ∧ w6.cell? ⟨gt, 0, none⟩ = some (.int .u8 10) := by
                      rcases (unhide HOt6) with ⟨_, _, rfl⟩ | ⟨gt, h1, h2, h3, h4⟩
                      · simp at ht0
                      · have := h3 0 ht0
                        rw [Nat.zero_add, htl] at this
                        exact ⟨gt, h1, this⟩
                    clear hb6r HJc HL4 HL4' HL6 HLA HOt4 HJ4 HT4 HM4 HOd4 hB4 hb6 HCd hk1 h13 hbrk' hnx HOt6 htl
                    go_wp2_with fail
                    refine (unhide HSm).mono ?_
                    rintro x w7 ⟨rfl, q7, rfl⟩
                    have hzz : ∀ z : Int, (z == z) = true := fun z => by simp
                    have hzy : ((i : Int) + (n : Int) + 2 == (i : Int) + (n : Int) + 1 + 1) = true := by rw [beq_iff_eq]; omega
                    go_wp2_with fail
                    go_ret
                    exact ⟨rfl, below_drewN hB6 _⟩

                  · have hno : ∀ h0 : 0 < t.length, t[0] ≠ 10 := fun _ => htl

                    have hJe := end_app_lt l t i hi (by rw [← hE.out]; exact hel)
                    have HJc := hide (line_own (some ⟨wf.heap.size, 0, none⟩) (l.length + t.length) (l ++ t) i (by rw [List.length_append]; omega) (by rw [List.length_append]; omega) (w4.drewN q5) (unhide HJ4) (unhide HT4) mx (unhide HM4) n (i + n + 1) ((l.drop i).take n)
                      (by rw [hJe, ← hE.out]) (by rw [hJe, ← hE.out, brk_app_last_no l t (i + n) hfin' h13 hno]) (take_app l t i n he2).symm)
                    rw [List.length_append] at HJc
                    have hlast : w4.cell? ⟨g, i + n, none⟩ = some (.int .u8 13) := by
                      have := (unhide HCd) (i + n) hel
                      rw [Nat.zero_add, h13] at this
                      exact this

                    have HLA := hide hlast
                    clear hJe hlast
                    go_wp2_with fail
                    refine (unhide HJc).mono ?_
                    rintro x w6 ⟨a6, c6, rfl, HL6, hb6r⟩
                    have hb6 : Below w4.heap.size w4 w6 := Below.trans (below_drewN (Below.refl _ _) q5) hb6r
                    have hlast6 : w6.cell? ⟨g, i + n, none⟩ = some (.int .u8 13) := (hb6.cell (p := ⟨g, i + n, none⟩) hg).trans (unhide HLA)
                    have HL4' : Hid (At w6 a4 ((l.drop i).take n)) := fun h0 => by
                      obtain ⟨b, off, e, hc⟩ := (unhide HL4) h0
                      exact ⟨b, off, e, hc.later hc.lt hb6⟩
                    have HOt6 := hide ((unhide HOt4).later hb6)
                    have hB6 : Below w.heap.size w w6 := hB4.trans (hb6.mono hB4.size)
                    have HSm := hide (same_n a6 a4 n c6 c4 _ (unhide HS) (by omega) w6 (unhide HL6) (unhide HL4'))
                    obtain ⟨gt, y, rfl, ht6, hy⟩ : ∃ gt, ∃ y : Nat, q' = some ⟨gt, 0, none⟩ ∧ w6.cell? ⟨gt, 0, none⟩ = some (.int .u8 (y : Int)) ∧ y ≠ 10 := by
                      rcases (unhide HOt6) with ⟨_, _, rfl⟩ | ⟨gt, h1, h2, h3, h4⟩
                      · simp at ht0
                      · have := h3 0 ht0
                        rw [Nat.zero_add] at this
                        exact ⟨gt, _, h1, this, fun e => htl (UInt8.toNat_inj.1 e)⟩
                    have hy' : ((y : Int) == 10) = false := beq_eq_false_iff_ne.2 (by omega)
                    clear hb6r HJc HL4 HL4' HL6 HLA HOt4 HJ4 HT4 HM4 HOd4 hB4 hb6 HCd hk1 h13 hbrk' hnx HOt6 htl hno
                    go_wp2_with fail
                    refine (unhide HSm).mono ?_
                    rintro x w7 ⟨rfl, q7, rfl⟩
                    have hzz : ∀ z : Int, (z == z) = true := fun z => by simp
                    have hzy : ((l.length : Int) == (i : Int) + (n : Int) + 1) = true := by rw [beq_iff_eq]; omega
                    go_wp2_with fail
                    go_ret
                    exact ⟨rfl, below_drewN hB6 _⟩

                · have hno : ∀ h0 : 0 < t.length, t[0] ≠ 10 := fun h0 => absurd h0 ht0

                  have hJe := end_app_lt l t i hi (by rw [← hE.out]; exact hel)
                  have HJc := hide (line_own (some ⟨wf.heap.size, 0, none⟩) (l.length + t.length) (l ++ t) i (by rw [List.length_append]; omega) (by rw [List.length_append]; omega) (w4.drewN q5) (unhide HJ4) (unhide HT4) mx (unhide HM4) n (i + n + 1) ((l.drop i).take n)
                    (by rw [hJe, ← hE.out]) (by rw [hJe, ← hE.out, brk_app_last_no l t (i + n) hfin' h13 hno]) (take_app l t i n he2).symm)
                  rw [List.length_append] at HJc
                  have hlast : w4.cell? ⟨g, i + n, none⟩ = some (.int .u8 13) := by
                    have := (unhide HCd) (i + n) hel
                    rw [Nat.zero_add, h13] at this
                    exact this

                  have HLA := hide hlast
                  clear hJe hlast
                  go_wp2_with fail
                  refine (unhide HJc).mono ?_
                  rintro x w6 ⟨a6, c6, rfl, HL6, hb6r⟩
                  have hb6 : Below w4.heap.size w4 w6 := Below.trans (below_drewN (Below.refl _ _) q5) hb6r
                  have hlast6 : w6.cell? ⟨g, i + n, none⟩ = some (.int .u8 13) := (hb6.cell (p := ⟨g, i + n, none⟩) hg).trans (unhide HLA)
                  have HL4' : Hid (At w6 a4 ((l.drop i).take n)) := fun h0 => by
                    obtain ⟨b, off, e, hc⟩ := (unhide HL4) h0
                    exact ⟨b, off, e, hc.later hc.lt hb6⟩
                  have HOt6 := hide ((unhide HOt4).later hb6)
                  have hB6 : Below w.heap.size w w6 := hB4.trans (hb6.mono hB4.size)
                  have HSm := hide (same_n a6 a4 n c6 c4 _ (unhide HS) (by omega) w6 (unhide HL6) (unhide HL4'))
                  clear hb6r HJc HL4 HL4' HL6 HLA HOt4 HJ4 HT4 HM4 HOd4 hB4 hb6 HCd hk1 h13 hbrk' hnx HOt6 hno
                  go_wp2_with fail
                  refine (unhide HSm).mono ?_
                  rintro x w7 ⟨rfl, q7, rfl⟩
                  have hzz : ∀ z : Int, (z == z) = true := fun z => by simp
                  have hzy : ((l.length : Int) == (i : Int) + (n : Int) + 1) = true := by rw [beq_iff_eq]; omega
                  go_wp2_with fail
                  go_ret
                  exact ⟨rfl, below_drewN hB6 _⟩

            · obtain rfl : K = 2 := by rw [hK.out]; exact hk2

              have hJe := end_app_lt l t i hi (by rw [← hE.out]; exact hel)
              have HJc := hide (line_own (some ⟨wf.heap.size, 0, none⟩) (l.length + t.length) (l ++ t) i (by rw [List.length_append]; omega) (by rw [List.length_append]; omega) (w4.drewN q5) (unhide HJ4) (unhide HT4) mx (unhide HM4) n (i + n + 2) ((l.drop i).take n)
                (by rw [hJe, ← hE.out]) (by rw [hJe, ← hE.out, brk_app_crlf l t (i + n) h2 h13 hnx]) (take_app l t i n he2).symm)
              rw [List.length_append] at HJc
              have hlast : w4.cell? ⟨g, i + n + 1, none⟩ = some (.int .u8 10) := by
                have := (unhide HCd) (i + n + 1) h2
                rw [Nat.zero_add, hnx] at this
                exact this

              have HLA := hide hlast
              clear hJe hlast
              go_wp2_with fail
              refine (unhide HJc).mono ?_
              rintro x w6 ⟨a6, c6, rfl, HL6, hb6r⟩
              have hb6 : Below w4.heap.size w4 w6 := Below.trans (below_drewN (Below.refl _ _) q5) hb6r
              have hlast6 : w6.cell? ⟨g, i + n + 1, none⟩ = some (.int .u8 10) := (hb6.cell (p := ⟨g, i + n + 1, none⟩) hg).trans (unhide HLA)
              have HL4' : Hid (At w6 a4 ((l.drop i).take n)) := fun h0 => by
                obtain ⟨b, off, e, hc⟩ := (unhide HL4) h0
                exact ⟨b, off, e, hc.later hc.lt hb6⟩
              have HOt6 := hide ((unhide HOt4).later hb6)
              have hB6 : Below w.heap.size w w6 := hB4.trans (hb6.mono hB4.size)
              have HSm := hide (same_n a6 a4 n c6 c4 _ (unhide HS) (by omega) w6 (unhide HL6) (unhide HL4'))
              clear hb6r HJc HL4 HL4' HL6 HLA HOt4 HJ4 HT4 HM4 HOd4 hB4 hb6 HCd hk2 h13 hbrk' hnx
              go_wp2_with fail
              refine (unhide HSm).mono ?_
              rintro x w7 ⟨rfl, q7, rfl⟩
              have hzz : ∀ z : Int, (z == z) = true := fun z => by simp
              go_wp2_with fail
              go_ret
              exact ⟨rfl, below_drewN hB6 _⟩
        · have hend : i + n = l.length := by omega
          have hK0 : K = 0 := by omega
          subst hK0

          have hJe := end_app_end l t i hi (by rw [← hE.out]; exact hend)
          obtain ⟨ht1, ht2⟩ := endOf_le t 0 (Nat.zero_le _)
          have hbt := brkLen_le t (endOf t 0) ht2
          obtain ⟨m, hEt⟩ : ∃ m, Hid (0 + m = endOf t 0) := ⟨endOf t 0, Nat.zero_add _⟩
          obtain ⟨M, hMt⟩ : ∃ M, Hid (M = endOf t 0 + brkLen t (endOf t 0)) := ⟨_, rfl⟩
          have hml : m ≤ t.length := by have := hEt.out; omega
          have hMl : M ≤ t.length := by rw [hMt.out]; exact hbt
          have HJc := hide (line_own (some ⟨wf.heap.size, 0, none⟩) (l.length + t.length) (l ++ t) i (by rw [List.length_append]; omega) (by rw [List.length_append]; omega) (w4.drewN q5) (unhide HJ4) (unhide HT4) mx (unhide HM4) (n + m) (l.length + M) ((l.drop i).take n ++ (t.drop 0).take m)
            (by rw [hJe]; have := hEt.out; omega) (by rw [hJe, brk_app, hMt.out]; omega) (take_app_end l t i n m hend).symm)
          rw [List.length_append] at HJc
          have HSt : Hid (((t.drop 0).take m).length = m) := by
            rw [Hid, List.length_take, List.length_drop]; omega
          clear hJe ht1 ht2 hbt
          go_wp2_with fail
          refine (unhide HJc).mono ?_
          rintro x w6 ⟨a6, c6, rfl, HL6, hb6r⟩
          have hb6 : Below w4.heap.size w4 w6 := Below.trans (below_drewN (Below.refl _ _) q5) hb6r
          have HL4' : Hid (At w6 a4 ((l.drop i).take n)) := fun h0 => by
            obtain ⟨b, off, e, hc⟩ := (unhide HL4) h0
            exact ⟨b, off, e, hc.later hc.lt hb6⟩
          have HOt6 := hide ((unhide HOt4).later hb6)
          have HT6 := hide (tabs_later (unhide HT4) hb6)
          have HM6 := hide ((hb6.cell (p := ⟨0, 0, none⟩) hb4').trans (unhide HM4))
          have hB6 : Below w.heap.size w w6 := hB4.trans (hb6.mono hB4.size)
          have hb6' : 0 < w6.heap.size := World.block_lt_of_cell? _ _ (unhide HM6)
          have Ht := hide (line_own q' e' t 0 (Nat.zero_le _) (by omega) w6 (unhide HOt6) (unhide HT6) mx (unhide HM6) m M ((t.drop 0).take m) hEt.out hMt.out rfl)
          clear hb6r HL4 HOt4 HT4 HM4 HJ4 HOd4 hB4 hb6 HJc hb4'
          go_wp2_with fail
          refine (unhide Ht).mono ?_
          rintro x w7 ⟨a7, c7, rfl, HL7, hb7⟩
          have HL4'' : Hid (At w7 a4 ((l.drop i).take n)) := fun h0 => by
            obtain ⟨b, off, e, hc⟩ := (unhide HL4') h0
            exact ⟨b, off, e, hc.later hc.lt hb7⟩
          have HL6' : Hid (At w7 a6 ((l.drop i).take n ++ (t.drop 0).take m)) := fun h0 => by
            obtain ⟨b, off, e, hc⟩ := (unhide HL6) h0
            exact ⟨b, off, e, hc.later hc.lt hb7⟩
          have hB7 : Below w.heap.size w w7 := hB6.trans (hb7.mono hB6.size)
          have HJn := hide (join_n a4 a7 n m c4 c7 _ _ (unhide HS) (unhide HSt) (by omega) w7 (unhide HL4'') (unhide HL7))
          clear Ht HL4' HL6 HL4'' HL7 hB6 hb7 hb6' HOt6 HT6 HM6
          go_wp2_with fail
          refine (unhide HJn).mono ?_
          rintro x w8 ⟨rfl, hJ8, hg8, hb8⟩
          have HL6'' : Hid (At w8 a6 ((l.drop i).take n ++ (t.drop 0).take m)) := fun h0 => by
            obtain ⟨b, off, e, hc⟩ := (unhide HL6') h0
            exact ⟨b, off, e, hc.later hc.lt hb8⟩
          have hB8 : Below w.heap.size w w8 := hB7.trans (hb8.mono hB7.size)
          have HSm := hide (same_n a6 (some ⟨w7.heap.size, 0, none⟩) (n + m) c6 (n + m) _ (by rw [List.length_append, unhide HS, unhide HSt]) (by omega) w8 (unhide HL6'') (fun _ => ⟨_, _, rfl, hJ8⟩))
          clear HJn HL6' HL6'' hJ8 hg8 hb8 hB7
          go_wp2_with fail
          refine (unhide HSm).mono ?_
          rintro x w9 ⟨rfl, q9, rfl⟩
          have hzz : ((l.length : Int) + (M : Int) == (l.length : Int) + (M : Int)) = true := by simp
          go_wp2_with fail
          go_ret
          exact ⟨rfl, below_drewN hB8 _⟩

      · obtain rfl : i = l.length := by omega
        obtain rfl : n = 0 := by omega
        obtain rfl : K = 0 := by omega

        have hend : l.length + 0 = l.length := rfl
        rcases (unhide HOd4) with ⟨rfl, rfl, hl0⟩ | ⟨g, rfl, rfl, hcg, hg⟩
        · have hl1 : l.length = 0 := by rw [hl0]; rfl

          subst hl0
          rw [List.nil_append, List.length_nil, Nat.zero_add] at HJ4
          rw [List.length_nil] at HL4
          obtain ⟨ht1, ht2⟩ := endOf_le t 0 (Nat.zero_le _)
          have hbt := brkLen_le t (endOf t 0) ht2
          obtain ⟨m, hEt⟩ : ∃ m, Hid (0 + m = endOf t 0) := ⟨endOf t 0, Nat.zero_add _⟩
          obtain ⟨M, hMt⟩ : ∃ M, Hid (M = endOf t 0 + brkLen t (endOf t 0)) := ⟨_, rfl⟩
          have hml : m ≤ t.length := by have := hEt.out; omega
          have hMl : M ≤ t.length := by rw [hMt.out]; exact hbt
          have hns : t.length ≤ 1048576 := by rw [List.length_nil] at hn; omega
          have HJc := hide (line_own (some ⟨wf.heap.size, 0, none⟩) t.length t 0 (Nat.zero_le _) (by omega) w4 (unhide HJ4) (unhide HT4) mx (unhide HM4) m M ((t.drop 0).take m) hEt.out hMt.out rfl)
          have HSt : Hid (((t.drop 0).take m).length = m) := by
            rw [Hid, List.length_take, List.length_drop]; omega
          clear ht1 ht2 hbt hl1 hn he2 hbk hi hpos hend
          go_wp2_with fail
          refine (same_empty _ _ _ _ _).mono ?_
          rintro x w5 ⟨rfl, rfl⟩
          go_wp2_with fail
          refine (unhide HJc).mono ?_
          rintro x w6 ⟨a6, c6, rfl, HL6, hb6⟩
          have HOt6 := hide ((unhide HOt4).later hb6)
          have HT6 := hide (tabs_later (unhide HT4) hb6)
          have HM6 := hide ((hb6.cell (p := ⟨0, 0, none⟩) hb4').trans (unhide HM4))
          have hB6 : Below w.heap.size w w6 := hB4.trans (hb6.mono hB4.size)
          have Ht := hide (line_own q' e' t 0 (Nat.zero_le _) (by omega) w6 (unhide HOt6) (unhide HT6) mx (unhide HM6) m M ((t.drop 0).take m) hEt.out hMt.out rfl)
          clear HL4 HOt4 HT4 HM4 HJ4 HOd4 hB4 hb6 HJc hb4'
          go_wp2_with fail
          refine (unhide Ht).mono ?_
          rintro x w7 ⟨a7, c7, rfl, HL7, hb7⟩
          have HL6' : Hid (At w7 a6 ((t.drop 0).take m)) := fun h0 => by
            obtain ⟨b, off, e, hc⟩ := (unhide HL6) h0
            exact ⟨b, off, e, hc.later hc.lt hb7⟩
          have hB7 : Below w.heap.size w w7 := hB6.trans (hb7.mono hB6.size)
          have HJn := hide (join_n a4 a7 0 m c4 c7 [] _ rfl (unhide HSt) (by omega) w7 (fun h => by simp at h) (unhide HL7))
          rw [Nat.zero_add, List.nil_append] at HJn
          clear Ht HL6 HL7 hB6 hb7 HOt6 HT6 HM6
          go_wp2_with fail
          refine (unhide HJn).mono ?_
          rintro x w8 ⟨rfl, hJ8, hg8, hb8⟩
          have HL6'' : Hid (At w8 a6 ((t.drop 0).take m)) := fun h0 => by
            obtain ⟨b, off, e, hc⟩ := (unhide HL6') h0
            exact ⟨b, off, e, hc.later hc.lt hb8⟩
          have hB8 : Below w.heap.size w w8 := hB7.trans (hb8.mono hB7.size)
          have HSm := hide (same_n a6 (some ⟨w7.heap.size, 0, none⟩) m c6 m _ (unhide HSt) (by omega) w8 (unhide HL6'') (fun _ => ⟨_, _, rfl, hJ8⟩))
          clear HJn HL6' HL6'' hJ8 hg8 hb8 hB7
          go_wp2_with fail
          refine (unhide HSm).mono ?_
          rintro x w9 ⟨rfl, q9, rfl⟩
          have hzz : ∀ z : Int, (z == z) = true := fun z => by simp
          go_wp2_with fail
          go_ret
          exact ⟨rfl, below_drewN hB8 _⟩
        · go_wp2_with fail
          refine (same_empty _ _ _ _ _).mono ?_
          rintro x w5 ⟨rfl, rfl⟩
          clear hcg hg

          have hJe := end_app_end l t l.length (Nat.le_refl _) (by rw [← hE.out]; exact hend)
          obtain ⟨ht1, ht2⟩ := endOf_le t 0 (Nat.zero_le _)
          have hbt := brkLen_le t (endOf t 0) ht2
          obtain ⟨m, hEt⟩ : ∃ m, Hid (0 + m = endOf t 0) := ⟨endOf t 0, Nat.zero_add _⟩
          obtain ⟨M, hMt⟩ : ∃ M, Hid (M = endOf t 0 + brkLen t (endOf t 0)) := ⟨_, rfl⟩
          have hml : m ≤ t.length := by have := hEt.out; omega
          have hMl : M ≤ t.length := by rw [hMt.out]; exact hbt
          have HJc := hide (line_own (some ⟨wf.heap.size, 0, none⟩) (l.length + t.length) (l ++ t) l.length (by rw [List.length_append]; omega) (by rw [List.length_append]; omega) w4 (unhide HJ4) (unhide HT4) mx (unhide HM4) (0 + m) (l.length + M) ((l.drop l.length).take 0 ++ (t.drop 0).take m)
            (by rw [hJe]; have := hEt.out; omega) (by rw [hJe, brk_app, hMt.out]; omega) (take_app_end l t l.length 0 m hend).symm)
          rw [List.length_append, Nat.zero_add] at HJc
          have HSt : Hid (((t.drop 0).take m).length = m) := by
            rw [Hid, List.length_take, List.length_drop]; omega
          clear hJe ht1 ht2 hbt
          go_wp2_with fail
          refine (unhide HJc).mono ?_
          rintro x w6 ⟨a6, c6, rfl, HL6, hb6r⟩
          have hb6 : Below w4.heap.size w4 w6 := id hb6r
          have HL4' : Hid (At w6 a4 ((l.drop l.length).take 0)) := fun h0 => by
            obtain ⟨b, off, e, hc⟩ := (unhide HL4) h0
            exact ⟨b, off, e, hc.later hc.lt hb6⟩
          have HOt6 := hide ((unhide HOt4).later hb6)
          have HT6 := hide (tabs_later (unhide HT4) hb6)
          have HM6 := hide ((hb6.cell (p := ⟨0, 0, none⟩) hb4').trans (unhide HM4))
          have hB6 : Below w.heap.size w w6 := hB4.trans (hb6.mono hB4.size)
          have hb6' : 0 < w6.heap.size := World.block_lt_of_cell? _ _ (unhide HM6)
          have Ht := hide (line_own q' e' t 0 (Nat.zero_le _) (by omega) w6 (unhide HOt6) (unhide HT6) mx (unhide HM6) m M ((t.drop 0).take m) hEt.out hMt.out rfl)
          clear hb6r HL4 HOt4 HT4 HM4 HJ4 HOd4 hB4 hb6 HJc hb4'
          go_wp2_with fail
          refine (unhide Ht).mono ?_
          rintro x w7 ⟨a7, c7, rfl, HL7, hb7⟩
          have HL4'' : Hid (At w7 a4 ((l.drop l.length).take 0)) := fun h0 => by
            obtain ⟨b, off, e, hc⟩ := (unhide HL4') h0
            exact ⟨b, off, e, hc.later hc.lt hb7⟩
          have HL6' : Hid (At w7 a6 ((l.drop l.length).take 0 ++ (t.drop 0).take m)) := fun h0 => by
            obtain ⟨b, off, e, hc⟩ := (unhide HL6) h0
            exact ⟨b, off, e, hc.later hc.lt hb7⟩
          have hB7 : Below w.heap.size w w7 := hB6.trans (hb7.mono hB6.size)
          have HJn := hide (join_n a4 a7 0 m c4 c7 _ _ (unhide HS) (unhide HSt) (by omega) w7 (unhide HL4'') (unhide HL7))
          rw [Nat.zero_add] at HJn
          clear Ht HL4' HL6 HL4'' HL7 hB6 hb7 hb6' HOt6 HT6 HM6
          go_wp2_with fail
          refine (unhide HJn).mono ?_
          rintro x w8 ⟨rfl, hJ8, hg8, hb8⟩
          have HL6'' : Hid (At w8 a6 ((l.drop l.length).take 0 ++ (t.drop 0).take m)) := fun h0 => by
            obtain ⟨b, off, e, hc⟩ := (unhide HL6') h0
            exact ⟨b, off, e, hc.later hc.lt hb8⟩
          have hB8 : Below w.heap.size w w8 := hB7.trans (hb8.mono hB7.size)
          have HSm := hide (same_n a6 (some ⟨w7.heap.size, 0, none⟩) m c6 m _ (by rw [List.length_append, unhide HS, unhide HSt, Nat.zero_add]) (by omega) w8 (unhide HL6'') (fun _ => ⟨_, _, rfl, hJ8⟩))
          clear HJn HL6' HL6'' hJ8 hg8 hb8 hB7
          go_wp2_with fail
          refine (unhide HSm).mono ?_
          rintro x w9 ⟨rfl, q9, rfl⟩
          have hzz : ((l.length : Int) + (M : Int) == (l.length : Int) + (M : Int)) = true := by simp
          go_wp2_with fail
          go_ret
          exact ⟨rfl, below_drewN hB8 _⟩
end Go.Proofs.Qxb6608622aDoor
