import Derived.Test.Qxb6606399aDoorMagsD
namespace Go.Proofs.Qxb6606399aDoor
open Go.RowKit

theorem splice_two {α : Type} (Z X Y : List α) (h : Z.length = X.length + Y.length) : splice (splice Z 0 X) X.length Y = X ++ Y := by
  unfold splice
  simp [h]
theorem src_of_at {w : World} {p : Option Addr} {l : List UInt8} (h : At w p l) (X : List Value) (hX : X = bvs l) : 0 < X.length → ∃ ad, p = some ad ∧ ∀ j v, X[j]? = some v → w.cell? (ad.add j) = some v := fun h0 => by
  subst hX
  rw [bvs_len] at h0
  obtain ⟨b, off, e, hc⟩ := h h0
  exact ⟨_, e, fun j v hj => cells_add hc j v hj⟩

set_option maxRecDepth 100000 in
set_option maxHeartbeats 1000000 in
/-- concatBytes. -/
theorem cat_call (p q : Option Addr) (c d : Nat) (l m : List UInt8) (hn : l.length + m.length ≤ 1073741824) (w : World) (h1 : At w p l) (h2 : At w q m) :
    Calls Tryd.prog 9 #[.slice p l.length c, .slice q m.length d] w fun e w' => e = .returned (.slice (some ⟨w.heap.size, 0, none⟩) (l.length + m.length) (l.length + m.length)) ∧ Hid (CellsL w' w.heap.size 0 (l ++ m)) ∧ w.heap.size < w'.heap.size ∧ Below w.heap.size w w' := by
  obtain ⟨i0, hi0, hz0, hz1, hz2⟩ := info_parts Tryd.info5
  have HA1 := hide h1
  have HA2 := hide h2
  clear h1 h2
  go_enter Tryd.func9, Tryd.ntmps9
  go_upto_region 2 with (first | (at_make; refine wpList_make_full _ rfl _ _ 22 rfl w.heap.size 5 i0 (.int .u8 0) 1 Tryd.underlying22 hi0 hz0 hz1 .i64 .i64 (l.length + m.length) (l.length + m.length) (l.length + m.length) rfl rfl rfl rfl (by rw [hz2]; omega) (by unfold maxLen; omega) (Nat.le_refl _) ?_; intro w1 hown hgr) | fail)
  rw [show (madeCells (Value.int IntKind.u8 0).cells ((l.length + m.length) * 1)).toList = List.replicate (l.length + m.length) (Value.int .u8 0) from by rw [Nat.mul_one]; exact toList_madeCells_one _ _] at hown
  have hb1 : Below w.heap.size w w1 := (Below.refl _ _).grown hgr (Nat.le_refl _) (fun _ h => by cases h)
  have HBK := hide (owns_block hown)
  obtain ⟨Z, hZ⟩ : ∃ Z, Hid (Z = List.replicate (l.length + m.length) (Value.int .u8 0)) := ⟨_, rfl⟩
  have hZl : Z.length = l.length + m.length := by rw [hZ.out, List.length_replicate]
  rw [← hZ.out] at HBK
  obtain ⟨X, hX⟩ : ∃ X, Hid (X = bvs l) := ⟨_, rfl⟩
  have hXl : X.length = l.length := by rw [hX.out, bvs_len]
  obtain ⟨Y, hY⟩ : ∃ Y, Hid (Y = bvs m) := ⟨_, rfl⟩
  have hYl : Y.length = m.length := by rw [hY.out, bvs_len]
  have HX1 := hide (src_of_at (w := w1) (fun h0 => by
    obtain ⟨b, off, e, hc⟩ := (unhide HA1) h0
    exact ⟨b, off, e, hc.later hc.lt hb1⟩) X hX.out)
  clear hown hgr
  have HXl := hide hXl
  have HYl := hide hYl
  have HZl := hide hZl
  clear hXl hYl hZl
  go_upto_region 3 with (first | (refine wpList_copy_splice rfl (.tmp 12) (.tmp 13) 22 22 rfl 5 Tryd.underlying22 Tryd.size5 _ _ _ _ _ _ rfl rfl w.heap.size 0 Z 5 (unhide HBK) X (by rw [unhide HXl]; simp) (fun h => ⟨rfl, (unhide HX1) h⟩) (by have := unhide HXl; have := unhide HZl; omega) (by rw [hX.out]; exact bvs_one l) w.heap.size w hb1 (Nat.le_refl _) ?_; intro w2 HB2 hb2) | fail)
  have HY2 := hide (src_of_at (w := w2) (fun h0 => by
    obtain ⟨b, off, e, hc⟩ := (unhide HA2) h0
    exact ⟨b, off, e, hc.later hc.lt hb2⟩) Y hY.out)
  have HZ2 : Hid ((splice Z 0 X).length = l.length + m.length) := by
    have h3 := unhide HXl
    have h4 := unhide HZl
    rw [Hid, length_splice _ _ _ (by omega)]
    exact h4
  by_cases hm0 : m.length = 0
  · have HA0 : ¬ (0 < m.length) := by omega
    have e0 : m = [] := List.eq_nil_of_length_eq_zero hm0
    subst e0
    have hy0 : Y = [] := hY.out
    subst hy0
    go_upto_region 4 with (first | (refine wpList_copy_splice rfl (.tmp 18) (.tmp 19) 22 22 rfl 5 Tryd.underlying22 Tryd.size5 _ _ _ _ _ _ rfl rfl w.heap.size 0 (splice Z 0 X) 5 (unhide HB2) [] (by simp) (fun h => by simp at h) (by simp) (fun v hv => by simp at hv) w.heap.size w hb2 (Nat.le_refl _) ?_; intro w3 HB3 hb3) | fail)
    have HC3 : Hid (CellsL w3 w.heap.size 0 (l ++ [])) := by
      have := HB3.out
      have h3 := unhide HXl
      have h4 := unhide HZl
      rw [show splice (splice Z 0 X) 0 [] = splice Z 0 X from by simp [splice], splice_all Z X (by rw [h3, h4]; rfl), hX.out] at this
      rw [List.append_nil]
      exact CellsL.of_block this
    have hg3 : w.heap.size < w3.heap.size := (Array.getElem?_eq_some_iff.1 HB3.out).1
    clear HB3 HB2 HBK HX1 HY2 HZ2 HXl HYl HZl hX hY hZ hb1 hb2
    go_wp2_with fail
    go_ret
    exact ⟨rfl, HC3, hg3, hb3⟩
  · go_upto_region 4 with (first | (refine wpList_copy_splice rfl (.tmp 18) (.tmp 19) 22 22 rfl 5 Tryd.underlying22 Tryd.size5 _ _ _ _ _ _ rfl rfl w.heap.size l.length (splice Z 0 X) 5 (unhide HB2) Y (by rw [unhide HYl]; simp) (fun h => ⟨rfl, (unhide HY2) h⟩) (by have := unhide HYl; have := unhide HZ2; omega) (by rw [hY.out]; exact bvs_one m) w.heap.size w hb2 (Nat.le_refl _) ?_; intro w3 HB3 hb3) | fail)
    have HC3 : Hid (CellsL w3 w.heap.size 0 (l ++ m)) := by
      have := HB3.out
      have h3 := unhide HXl
      have h4 := unhide HZl
      have h5 := unhide HYl
      rw [← h3, splice_two Z X Y (by omega), hX.out, hY.out, ← bvs_append] at this
      exact CellsL.of_block this
    have hg3 : w.heap.size < w3.heap.size := (Array.getElem?_eq_some_iff.1 HB3.out).1
    clear HB3 HB2 HBK HX1 HY2 HZ2 HXl HYl HZl hX hY hZ hb1 hb2
    go_wp2_with fail
    go_ret
    exact ⟨rfl, HC3, hg3, hb3⟩

theorem mag_step (u : Nat) (h : 0 < u) : mag u = mag (u / 10) ++ [UInt8.ofNat (48 + u % 10)] := by
  obtain ⟨h1, h2, h3⟩ := mag_facts (u / 10)
  have hd : (UInt8.ofNat (48 + u % 10)).toNat = 48 + u % 10 := digit_nat _ (by omega)
  have e := mag_unique (mag (u / 10) ++ [UInt8.ofNat (48 + u % 10)]) (h1.append (.cons ((digB_iff _).2 (by rw [hd]; omega)) .nil)) ?_
  · rw [valN_snoc, h3, hd, show u / 10 * 10 + (48 + u % 10 - 48) = u by omega] at e
    exact e.symm
  · by_cases h0 : u / 10 = 0
    · rw [(mag_nil _).2 h0]
      intro e
      have : (UInt8.ofNat (48 + u % 10)) = 48 := by simpa using e
      have := congrArg UInt8.toNat this
      rw [hd] at this
      have : u % 10 = 0 := by simpa using this
      omega
    · have hne : mag (u / 10) ≠ [] := fun e => h0 ((mag_nil _).1 e)
      unfold NoZero
      cases hm : mag (u / 10) with
      | nil => exact absurd hm hne
      | cons x r => rw [hm] at h2; exact h2
theorem mag_small (N k : Nat) (h : N < 10 ^ k) : (mag N).length ≤ k := by
  obtain ⟨h1, h2, h3⟩ := mag_facts N
  cases hm : mag N with
  | nil => simp
  | cons c r =>
    rw [hm] at h1 h2 h3
    have h4 := valN_ge c r h1.head (fun e => h2 (by rw [e]; rfl))
    rw [h3] at h4
    rcases Nat.lt_or_ge r.length k with h5 | h5
    · rw [List.length_cons]; omega
    · have := Nat.pow_le_pow_right (n := 10) (by omega) h5
      omega
/-- A row of any type whose last bytes are known. -/
def TailT (t : TypeId) (w : World) (g cap : Nat) (R : List UInt8) : Prop := ∃ F, w.rowIs g t cap F ∧ R.length ≤ cap ∧ ∀ j (hj : j < R.length), F (cap - R.length + j) = bv R[j]
theorem TailT.put {t : TypeId} {w : World} {g cap : Nat} {R : List UInt8} (h : TailT t w g cap R) (d : UInt8) (hc : R.length + 1 ≤ cap) (z : Int) (hz : z = (d.toNat : Int)) (i : Nat) (hi : i + (R.length + 1) = cap) : TailT t (w.setCell ⟨g, i, none⟩ (.int .u8 z)) g cap (d :: R) := by
  obtain ⟨F, h1, h2, h3⟩ := h
  refine ⟨_, h1.set i _, by rw [List.length_cons]; exact hc, fun j hj => ?_⟩
  rw [List.length_cons] at hj ⊢
  cases j with
  | zero =>
    rw [if_pos (by omega), hz]
    rfl
  | succ j =>
    rw [if_neg (by omega)]
    have := h3 j (by omega)
    rw [show cap - (R.length + 1) + (j + 1) = cap - R.length + j by omega, this]
    rfl
theorem TailT.cells {t : TypeId} {w : World} {g cap : Nat} {R : List UInt8} (h : TailT t w g cap R) (o : Nat) (ho : R.length + o = cap) : CellsL w g o R := fun i hi => by
  obtain ⟨F, h1, h2, h3⟩ := h
  have := h3 i hi
  rw [show cap - R.length + i = o + i by omega] at this
  rw [h1.cell (by omega), this]
  rfl
theorem TailT.at_ {t : TypeId} {w : World} {g cap : Nat} {R : List UInt8} (h : TailT t w g cap R) (i : Nat) (hi : i < cap) : w.frozen? ⟨g, i, none⟩ = false ∧ ∃ u, w.cell? ⟨g, i, none⟩ = some u := by
  obtain ⟨F, h1, _, _⟩ := h
  exact ⟨h1.frozen i, F i, h1.cell hi⟩

theorem Tryd.len38 : Tryd.prog.arrayLen 38 = 20 := by kernel_rfl
theorem Tryd.elem38 : Tryd.prog.elem 38 = 5 := by kernel_rfl
theorem Tryd.und38 : Tryd.prog.underlying 38 = some (.array (Tryd.prog.arrayLen 38) (Tryd.prog.elem 38)) := by kernel_rfl
theorem slice38 (g i n : Nat) (hi : i < 20) (hn : n = 20 - i) (w : World) : (Instr.sliceAt 38 (.pointer (some ⟨g, 0, none⟩)) (some (.int .i64 (i : Int))) none none).run Tryd.prog w = .ok (.slice (some ⟨g, i, none⟩) n n) w := by
  rw [run_sliceAt_array_l w 38 _ Tryd.und38 .i64 i (by omega) (by rw [Tryd.len38]; omega), Tryd.elem38, Tryd.len38]
  simp [sizeOf, slicedAt, Addr.add, hn, show ¬ 20 = i by omega]
  rw [show Tryd.t5.size = 1 from by kernel_rfl, Nat.mul_one]
  by_cases h : i = 0
  · rw [if_pos h, h]
  · rw [if_neg h]
theorem arr20 (w : World) : TailT 38 (w.alloc (.cells (List.replicate 20 (Value.int .u8 0)).toArray 38)) w.heap.size 20 [] :=
  ⟨fun _ => .int .u8 0, ⟨(List.replicate 20 (Value.int .u8 0)).toArray, by show (w.heap.push _)[w.heap.size]? = _; simp, by simp, fun i hi => by rw [List.getElem?_toArray, List.getElem?_replicate, if_pos hi]⟩, Nat.zero_le _, fun j hj => by simp at hj⟩
set_option maxRecDepth 100000 in
set_option maxHeartbeats 4000000 in
theorem magof_call (v : Int) (h1 : -9223372036854775808 < v) (h2 : v < 9223372036854775808) (w : World) :
    Calls Tryd.prog 19 #[.int .i64 v] w fun e w' => ∃ p' c', e = .returned (.tuple #[.bool (decide (v < 0)), .slice p' (mag v.natAbs).length c']) ∧ Hid (At w' p' (mag v.natAbs)) ∧ Below w.heap.size w w' := by
  obtain ⟨i0, hi0, hz0, hz1, hz2⟩ := info_parts Tryd.info5
  obtain ⟨N, hN⟩ : ∃ N, Hid (N = v.natAbs) := ⟨_, rfl⟩
  rw [← hN.out]
  have hN9 : N < 9223372036854775808 := by rw [hN.out]; omega
  have hM : (mag N).length ≤ 19 := mag_small N 19 (by omega)
  go_enter Tryd.func19, Tryd.ntmps19
  go_upto_if 11 with fail
  go_cut [5] (fun uv wx => uv = .int .u64 (N : Nat) ∧ w = wx)
  case first =>
    by_cases h : v < 0
    · have e : Hid (-(v + 1) + 1 = (N : Int)) := by rw [Hid, hN.out]; omega
      go_wp2_with fail
      go_meet
      case rel => exact ⟨by rw [e.out], rfl⟩
    · have e : Hid (v = (N : Int)) := by rw [Hid, hN.out]; omega
      go_wp2_with fail
      go_meet
      case rel => exact ⟨by rw [e.out], rfl⟩
  case rest =>
    obtain ⟨rfl, rfl⟩ := hcut
    go_wp2_with fail
    go_loopg [7, 5] N (fun gg iv uv wr => ∃ (i u : Nat) (R : List UInt8), gg = u ∧ i ≤ 20 ∧ iv = .int .i64 (i : Nat) ∧ uv = .int .u64 (u : Nat) ∧ u < 9223372036854775808 ∧ Hid (R.length + i = 20 ∧ mag N = mag u ++ R) ∧ Hid (TailT 38 wr w.heap.size 20 R) ∧ Below w.heap.size w wr)
    case atStart =>
      refine ⟨20, N, [], rfl, Nat.le_refl _, rfl, rfl, hN9, ⟨rfl, (List.append_nil _).symm⟩, ?_, (Below.refl _ _).alloc (Nat.le_refl _) _⟩
      exact arr20 w
    case round =>
      obtain ⟨i, u, R, rfl, hi, rfl, rfl, hu9, HV, HR, hbr⟩ := hrel
      by_cases hu : 0 < gk
      · have hltz : (0 : Int) < (gk : Int) := by omega
        have hst := mag_step gk hu
        have hil : 1 ≤ i := by
          have h3 := (unhide HV).1
          have h4 := congrArg List.length (unhide HV).2
          rw [hst] at h4
          simp only [List.length_append, List.length_cons] at h4
          omega
        obtain ⟨r, hr⟩ : ∃ r, Hid (r = gk % 10) := ⟨_, rfl⟩
        obtain ⟨t, ht⟩ : ∃ t, Hid (t = gk / 10) := ⟨_, rfl⟩
        have hmod : (gk : Int).tmod 10 = (r : Int) := by rw [hr.out, Int.tmod_eq_emod_of_nonneg (by omega)]; omega
        have hdiv : (gk : Int).tdiv 10 = (t : Int) := by rw [ht.out, Int.tdiv_eq_ediv_of_nonneg (by omega)]; omega
        have hr9 : r ≤ 9 := by rw [hr.out]; omega
        have htu : t < gk := by rw [ht.out]; omega
        obtain ⟨x, hx⟩ : ∃ x : UInt8, Hid (x = UInt8.ofNat (48 + r)) := ⟨_, rfl⟩
        have hxn : Hid (x.toNat = 48 + r) := by rw [Hid, hx.out]; exact digit_nat r (by omega)
        obtain ⟨j, hj⟩ : ∃ j, Hid (j = i - 1) := ⟨_, rfl⟩
        have hjz : (i : Int) - 1 = (j : Int) := by have := hj.out; omega
        have hj20 : j < 20 := by rw [hj.out]; omega
        obtain ⟨hfz, u', hcu⟩ := (unhide HR).at_ j hj20
        have HRn : Hid (TailT 38 (wr.setCell ⟨w.heap.size, j, none⟩ (.int .u8 (48 + (r : Int)))) w.heap.size 20 (x :: R)) :=
          (unhide HR).put x (by have := (unhide HV).1; omega) _ (by rw [unhide hxn]; omega) j (by have := (unhide HV).1; rw [hj.out]; omega)
        have HVn : Hid ((x :: R).length + j = 20 ∧ mag N = mag t ++ x :: R) := by
          refine ⟨by have := (unhide HV).1; rw [List.length_cons, hj.out]; omega, ?_⟩
          rw [(unhide HV).2, hst, ← hr.out, ← hx.out, ← ht.out, List.append_assoc]
          rfl
        have hbn : Below w.heap.size w (wr.setCell ⟨w.heap.size, j, none⟩ (.int .u8 (48 + (r : Int)))) := hbr.setCell (Nat.le_refl _) _
        clear HR HV hst
        go_wp2_with fail
        go_roundg t
        case measure => omega
        case rel => exact ⟨j, t, x :: R, rfl, by omega, by go_num, rfl, by omega, HVn, HRn, hbn⟩
      · obtain rfl : gk = 0 := by omega
        have HRe : Hid (mag N = R) := (unhide HV).2
        have hRl : R.length + i = 20 := (unhide HV).1
        obtain ⟨n, hn⟩ : ∃ n, Hid (n = R.length) := ⟨_, rfl⟩
        have hnz : (20 : Int) - (i : Int) = (n : Int) := by rw [hn.out]; omega
        have hn20 : n ≤ 20 := by rw [hn.out]; omega
        have HRl := hide hRl
        clear hRl
        go_upto_region 13 with (first | (at_make; refine wpList_make_full _ rfl _ _ 22 rfl wr.heap.size 5 i0 (.int .u8 0) 1 Tryd.underlying22 hi0 hz0 hz1 .i64 .i64 _ _ n rfl rfl (by omega) (by omega) (by rw [hz2]; omega) (by unfold maxLen; omega) (Nat.le_refl _) ?_; intro w1 hown hgr) | fail)
        rw [show (madeCells (Value.int IntKind.u8 0).cells (n * 1)).toList = List.replicate n (Value.int .u8 0) from by rw [Nat.mul_one]; exact toList_madeCells_one _ _] at hown
        have hb1 : Below wr.heap.size wr w1 := (Below.refl _ _).grown hgr (Nat.le_refl _) (fun _ h => by cases h)
        have HBK := hide (owns_block hown)
        clear hown hgr
        obtain ⟨Z, hZ⟩ : ∃ Z, Hid (Z = List.replicate n (Value.int .u8 0)) := ⟨_, rfl⟩
        have HZl : Hid (Z.length = n) := by rw [Hid, hZ.out, List.length_replicate]
        rw [← hZ.out] at HBK
        obtain ⟨X, hX⟩ : ∃ X, Hid (X = bvs R) := ⟨_, rfl⟩
        have HXl : Hid (X.length = n) := by rw [Hid, hX.out, bvs_len, hn.out]
        have hlt : w.heap.size < wr.heap.size := by obtain ⟨_, h1, _⟩ := unhide HR; exact h1.lt
        have HX1 := hide (src_of_at (w := w1) (p := some ⟨w.heap.size, i, none⟩) (fun _ => ⟨_, _, rfl, ((unhide HR).cells i (unhide HRl)).later (fun _ => hlt) hb1⟩) X hX.out)
        have hbw : Below w.heap.size w w1 := hbr.trans (hb1.mono (Nat.le_of_lt hlt))
        by_cases h0 : i = 20
        · subst h0
          have hn0 : n = 0 := by omega
          subst hn0
          go_upto_region 14 with (first | (refine wpList_copy_splice rfl (.tmp 34) (.tmp 36) 22 22 rfl 5 Tryd.underlying22 Tryd.size5 _ _ _ _ _ _ rfl rfl wr.heap.size 0 Z 5 (unhide HBK) [] (by simp) (fun h => by simp at h) (by simp) (fun v hv => by simp at hv) w.heap.size w hbw (Nat.le_of_lt hlt) ?_; intro w2 HB2 hb2) | fail)
          have HR0 : Hid (R = []) := List.eq_nil_of_length_eq_zero hn.out.symm
          go_wp2_with fail
          go_ret2
          rw [unhide HRe, unhide HR0]
          exact ⟨_, _, rfl, (fun h => by simp at h), hb2⟩
        · have hi20 : i < 20 := by omega
          have hsl := slice38 w.heap.size i n hi20 (by rw [hn.out]; have := unhide HRl; omega)
          go_upto_region 14 with (first | (refine wpList_copy_splice rfl (.tmp 34) (.tmp 36) 22 22 rfl 5 Tryd.underlying22 Tryd.size5 _ _ _ _ _ _ rfl rfl wr.heap.size 0 Z 5 (unhide HBK) X (by rw [unhide HXl]; simp) (fun h => ⟨rfl, (unhide HX1) h⟩) (by have := unhide HXl; have := unhide HZl; omega) (by rw [hX.out]; exact bvs_one R) w.heap.size w hbw (Nat.le_of_lt hlt) ?_; intro w2 HB2 hb2) | fail)
          have HC2 : Hid (CellsL w2 wr.heap.size 0 R) := by
            have := HB2.out
            have h3 := unhide HXl
            have h4 := unhide HZl
            rw [splice_all Z X (by omega), hX.out] at this
            exact CellsL.of_block this
          clear HB2 HBK HX1
          go_wp2_with fail
          go_ret2
          rw [unhide HRe]
          exact ⟨some ⟨wr.heap.size, 0, none⟩, n, by rw [← hn.out]; rfl, (fun _ => ⟨_, _, rfl, unhide HC2⟩), hb2⟩
end Go.Proofs.Qxb6606399aDoor
