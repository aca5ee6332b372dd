import Derived.Test.Qxb6606353aDoorBase
import Derived.Test.Qxb6606353aDoorShelf
namespace Go.Proofs.Qxb6606353aDoor
open Go.RowKit
open Pl

/-! ### The library's functions as the road meets them: each string under a name of its own -/
theorem size_list (s : ByteArray) : s.size = s.data.toList.length := by rw [Array.length_toList]; rfl
theorem data_mk (l : List UInt8) : (ByteArray.mk l.toArray).data.toList = l := by simp
theorem c_prefix (s : ByteArray) (l : List UInt8) (neg : Bool) (hs : s.data.toList = l) (h : Lib.hasPrefix l [45] = neg) (w : World) :
    Calls Tryd.prog 20 #[.string s, .string ⟨#[45]⟩] w fun e w' => e = .returned (.bool neg) ∧ w = w' := by
  refine (Tryd.strings_HasPrefix s ⟨#[45]⟩ w).mono fun e w' ⟨he, hw⟩ => ⟨?_, hw.symm⟩
  rw [he, hs]; exact congrArg (fun b => Ending.returned (.bool b)) h
theorem c_trimSign (s : ByteArray) (l r : List UInt8) (hs : s.data.toList = l) (h : Lib.trimLeftS l [43, 45] = r) (w : World) :
    Calls Tryd.prog 23 #[.string s, .string ⟨#[43, 45]⟩] w fun e w' => ∃ s', e = .returned (.string s') ∧ Hid (s'.data.toList = r) ∧ Below w.heap.size w w' := by
  refine (Tryd.strings_TrimLeft_laid s ⟨#[43, 45]⟩ w (by decide) (fun j b hj => ?_)).mono fun e w' ⟨he, hw⟩ => ⟨_, he, ?_, hw⟩
  · have : b ∈ [(43 : UInt8), 45] := List.mem_of_getElem? hj
    simp at this; rcases this with rfl | rfl <;> decide
  · rw [Hid, data_mk, hs]; exact h
theorem c_lower (s : ByteArray) (l r : List UInt8) (hs : s.data.toList = l) (h : Lib.toLowerA l = r) (hl : l.length ≤ 1048576) (ha : ∀ c ∈ l, c.toNat < 128) (w : World) :
    Calls Tryd.prog 22 #[.string s] w fun e w' => ∃ s', e = .returned (.string s') ∧ Hid (s'.data.toList = r) ∧ Below w.heap.size w w' := by
  refine (Tryd.strings_ToLower_ascii s w (by rw [size_list, hs]; omega) (fun j b hj => ha b (by rw [hs] at hj; exact List.mem_of_getElem? hj))).mono fun e w' ⟨he, hw⟩ => ⟨_, he, ?_, hw⟩
  rw [Hid, data_mk, hs]; exact h
theorem c_cut (c : UInt8) (s : ByteArray) (l r1 r2 : List UInt8) (hs : s.data.toList = l) (h1 : (Lib.cut l [c]).1 = r1) (h2 : (Lib.cut l [c]).2.1 = r2) (hl : l.length ≤ 1048576) (mx : Int) (w : World) (hm : w.cell? ⟨0, 0, none⟩ = some (.int .i64 mx)) :
    Calls Tryd.prog 21 #[.string s, .string ⟨#[c]⟩] w fun e w' => ∃ s1 s2 f, e = .returned (.tuple #[.string s1, .string s2, .bool f]) ∧ Hid (s1.data.toList = r1) ∧ Hid (s2.data.toList = r2) ∧ Below w.heap.size w w' := by
  refine (Tryd.strings_Cut s ⟨#[c]⟩ mx w (by rw [size_list, hs]; omega) hm).mono fun e w' ⟨he, n, hw⟩ => ⟨_, _, _, he, ?_, ?_, ?_⟩
  · rw [Hid, data_mk, hs]; exact h1
  · rw [Hid, data_mk, hs]; exact h2
  · rw [hw]; exact below_drewN (Below.refl _ _) n
theorem c_trimR (s : ByteArray) (l r : List UInt8) (hs : s.data.toList = l) (h : Lib.trimRightB l 48 = r) (hl : l.length ≤ 1048576) (w : World) :
    Calls Tryd.prog 24 #[.string s, .string ⟨#[48]⟩] w fun e w' => ∃ s', e = .returned (.string s') ∧ Hid (s'.data.toList = r) ∧ w = w' := by
  refine (Tryd.strings_TrimRight_one s 48 (by decide) w (by rw [size_list, hs]; omega)).mono fun e w' ⟨he, hw⟩ => ⟨_, he, ?_, hw.symm⟩
  rw [Hid, data_mk, hs]; exact h
theorem c_trimL (s : ByteArray) (l r : List UInt8) (hs : s.data.toList = l) (h : Lib.trimLeftB l 48 = r) (w : World) :
    Calls Tryd.prog 23 #[.string s, .string ⟨#[48]⟩] w fun e w' => ∃ s', e = .returned (.string s') ∧ Hid (s'.data.toList = r) ∧ w = w' := by
  refine (Tryd.strings_TrimLeft_one s 48 (by decide) w).mono fun e w' ⟨he, hw⟩ => ⟨_, he, ?_, hw.symm⟩
  rw [Hid, data_mk, hs]; exact h
theorem c_repeat (n : Nat) (hn : n ≤ 10) (w : World) :
    Calls Tryd.prog 26 #[.string ⟨#[48]⟩, .int .i64 n] w fun e w' => ∃ s', e = .returned (.string s') ∧ Hid (s'.data.toList = List.replicate n 48) ∧ Below w.heap.size w w' := by
  refine (Tryd.strings_Repeat ⟨#[48]⟩ n w (by omega) (by simp [ByteArray.size]; omega)).mono fun e w' ⟨he, hw⟩ => ⟨_, he, ?_, hw⟩
  rw [Hid, data_mk]
  have : ∀ k, Lib.repeatL [(48 : UInt8)] k = List.replicate k 48 := fun k => by
    induction k with
    | zero => rfl
    | succ k ih => rw [Lib.repeatL, ih]; rfl
  exact this n
theorem below_bw {w w' : World} (h : w' = w ∨ ∃ t, w' = Lib.bytesWorld w 5 t) : Below w.heap.size w w' := by
  rcases h with rfl | ⟨t, rfl⟩
  · exact Below.refl _ _
  · exact Lib.bytesWorld_below _ _ _
/-- strconv.ParseInt at the exponent's text. -/
theorem c_parseX (s : ByteArray) (X : List UInt8) (exp : Int) (hs : s.data.toList = xTail X) (hX : ExpOk X exp) (hl : X.length ≤ 1048576) (w : World)
    (ev2 ev3 : Value) (h2 : w.cell? ⟨2, 0, none⟩ = some ev2) (e2 : ev2 = .nilIface ∨ ∃ te pe, ev2 = .iface te pe) (h3 : w.cell? ⟨3, 0, none⟩ = some ev3) (e3 : ev3 = .nilIface ∨ ∃ te pe, ev3 = .iface te pe) :
    Calls Tryd.prog 25 #[.string s, .int .i64 10, .int .i64 64] w fun e w' => ∃ v er, e = .returned (.tuple #[.int .i64 v, er]) ∧ Hid (clampE v = clampE exp) ∧ -9223372036854775808 ≤ v ∧ v ≤ 9223372036854775807 ∧ Below w.heap.size w w' := by
  have hsz : s.size ≤ 1048576 := by
    rw [size_list, hs]; unfold xTail; rw [List.length_drop]; omega
  rcases hX with ⟨rfl, rfl⟩ | ⟨c, es, D, eneg, rfl, hc, hes, hD, hD0, rfl⟩
  · refine (Tryd.strconv_ParseInt_10_at64_syntax s (by omega) (by rw [hs]; rfl) ev2 w h2 e2).mono fun e w' ⟨N, he, _, _, hb⟩ => ⟨0, _, he, rfl, by omega, by omega, hb⟩
  · have hs' : s.data.toList = es ++ D := hs
    rcases parse_exp es D eneg hes hD hD0 with ⟨v, h1, h4, h5, h6⟩ | ⟨h1, h4, h5, h6⟩
    · refine (Tryd.strconv_ParseInt_10_at64_ok s (by omega) v (by rw [hs']; exact h1) w).mono fun e w' ⟨he, hw⟩ => ⟨v, _, he, h4, h5, h6, below_bw hw⟩
    · refine (Tryd.strconv_ParseInt_10_at64_range s (by omega) (by rw [hs']; exact h1) ev3 w h3 e3).mono fun e w' ⟨N, he, _, _, hb⟩ => ⟨_, _, he, by rw [hs']; exact h4, by rw [hs']; exact h5, by rw [hs']; exact h6, hb⟩
theorem c_parseD (s : ByteArray) (D : List UInt8) (hs : s.data.toList = D) (hD : dgs D) (h0 : D ≠ []) (hl : D.length ≤ 10) (w : World) :
    Calls Tryd.prog 25 #[.string s, .int .i64 10, .int .i64 64] w fun e w' => ∃ er, e = .returned (.tuple #[.int .i64 (dval D : Int), er]) ∧ Below w.heap.size w w' := by
  refine (Tryd.strconv_ParseInt_10_at64_ok s (by rw [size_list, hs]; omega) (dval D : Int) (by rw [hs]; exact parse_small D hD h0 hl) w).mono fun e w' ⟨he, hw⟩ => ⟨_, he, below_bw hw⟩
set_option maxRecDepth 100000 in
set_option maxHeartbeats 1000000 in
theorem whole_any (b off cp : Nat) (l : List UInt8) (neg : Bool) (m : List UInt8) (pt exp : Int) (w : World) (hn : l.length ≤ 1048576) (hc : CellsL w b off l) (hd : IsDec l neg m pt exp) (mx : Int) (hmx : w.cell? ⟨0, 0, none⟩ = some (.int .i64 mx))
    (ev2 ev3 : Value) (h2 : w.cell? ⟨2, 0, none⟩ = some ev2) (e2 : ev2 = .nilIface ∨ ∃ te pe, ev2 = .iface te pe) (h3 : w.cell? ⟨3, 0, none⟩ = some ev3) (e3 : ev3 = .nilIface ∨ ∃ te pe, ev3 = .iface te pe) :
    Calls Tryd.prog 16 #[.slice (some ⟨b, off, none⟩) l.length cp] w fun e w' => e = .returned (.tuple #[.int .i64 (wres neg m pt exp).1, .bool (wres neg m pt exp).2]) ∧ Below w.heap.size w w' := by
  obtain ⟨sg, u, X, hl, hsg, hM, hm, hX⟩ := hd
  obtain ⟨t1, t2⟩ := trim_sign hl hsg hM hm
  obtain ⟨t3, t4⟩ := cut_exp hM hX
  obtain ⟨A, B, t5, t6, t7, t8⟩ := cut_dot hM
  have hpt := hM.lt
  have hlen : l.length = sg.length + (u.length + X.length) := by rw [hl]; simp
  have HA : Hid (∀ c ∈ u ++ X, c.toNat < 128) := fun c hc => by
    rcases List.mem_append.1 hc with hc | hc
    · rcases hM.chars c hc with h | h
      · omega
      · subst h; decide
    · rcases hX with ⟨rfl, _⟩ | ⟨c', es, D, eneg, rfl, hc', hes, hD, _, _⟩
      · simp at hc
      · rcases List.mem_cons.1 hc with rfl | hc
        · rcases hc' with rfl | rfl <;> decide
        · rcases List.mem_append.1 hc with hc | hc
          · have := hes.chars c hc; omega
          · have := hD c hc; omega
  have huX : u.length + X.length ≤ 1048576 := by omega
  have hABm : A.length + B.length = m.length := by rw [← t7]; simp
  have HT : Hid (Lib.trimLeftS l [43, 45] = u ++ X ∧ Lib.hasPrefix l [45] = neg ∧ (Lib.cut (Lib.toLowerA (u ++ X)) [101]).1 = u ∧ (Lib.cut (Lib.toLowerA (u ++ X)) [101]).2.1 = xTail X ∧ (Lib.cut u [46]).1 = A ∧ (Lib.cut u [46]).2.1 = B ∧ A ++ B = m ∧ (B.length : Int) = m.length - pt) := ⟨t1, t2, t3, t4, t5, t6, t7, t8⟩
  have HX : Hid (ExpOk X exp) := hX
  have hmu := hpt.2.2
  obtain ⟨s0, hs0⟩ : ∃ s, Hid (s = ByteArray.mk l.toArray) := ⟨_, rfl⟩
  have hkc : Sem.run Tryd.prog (convert 22 9 (.slice (some ⟨b, off, none⟩) l.length cp)) w = .ok (.string s0) w := by rw [hs0.out]; exact run_conv w b off cp l hc
  have hs0d : Hid (s0.data.toList = l) := by rw [Hid, hs0.out]
  have HM : Hid (MantF u m pt ∧ m ≠ []) := ⟨hM, hm⟩
  have HE : Hid ((ev2 = .nilIface ∨ ∃ te pe, ev2 = .iface te pe) ∧ (ev3 = .nilIface ∨ ∃ te pe, ev3 = .iface te pe)) := ⟨e2, e3⟩
  have hb0 := World.block_lt_of_cell? _ _ hmx
  have hb2 := World.block_lt_of_cell? _ _ h2
  have hb3 := World.block_lt_of_cell? _ _ h3
  simp only at hb0 hb2 hb3
  clear t1 t2 t3 t4 t5 t6 t7 t8 hl hM hX hs0 hc e2 e3 hm hlen
  go_enter Tryd.func16, Tryd.ntmps16
  go_wp2_with fail
  refine (c_prefix _ _ _ hs0d.out HT.out.2.1 _).mono ?_
  rintro e w1 ⟨rfl, rfl⟩
  go_wp2_with fail
  refine (c_trimSign _ _ _ hs0d.out HT.out.1 _).mono ?_
  rintro e w1 ⟨s1, rfl, hs1, hb1⟩
  go_wp2_with fail
  refine (c_lower _ _ _ hs1.out rfl (by rw [List.length_append]; exact huX) HA.out _).mono ?_
  rintro e w2' ⟨s2, rfl, hs2, hb2'⟩
  have hB2 : Below w.heap.size w w2' := hb1.trans (hb2'.mono hb1.size)
  clear hb1 hb2'
  go_wp2_with fail
  have hm2 := (hB2.cell (p := ⟨0, 0, none⟩) hb0).trans hmx
  refine (c_cut 101 _ _ u (xTail X) hs2.out HT.out.2.2.1 HT.out.2.2.2.1 (by unfold Lib.toLowerA; rw [List.length_map, List.length_append]; exact huX) mx _ hm2).mono ?_
  rintro e w3' ⟨sm, sx, f1, rfl, hsm, hsx, hb3'⟩
  have hB3 : Below w.heap.size w w3' := hB2.trans (hb3'.mono hB2.size)
  clear hb3' hB2 hm2
  go_wp2_with fail
  have hm3 := (hB3.cell (p := ⟨0, 0, none⟩) hb0).trans hmx
  refine (c_cut 46 _ _ A B hsm.out HT.out.2.2.2.2.1 HT.out.2.2.2.2.2.1 (by omega) mx _ hm3).mono ?_
  rintro e w4 ⟨sA, sB, f2, rfl, hsA, hsB, hb4⟩
  have hB4 : Below w.heap.size w w4 := hB3.trans (hb4.mono hB3.size)
  clear hb4 hB3 hm3
  have hzA : sA.size = A.length := by rw [size_list, hsA.out]
  have hzB : sB.size = B.length := by rw [size_list, hsB.out]
  have hzAB : sA.size + sB.size ≤ 1048576 := by omega
  have HzA : Hid (sA.size = A.length ∧ sB.size = B.length) := ⟨hzA, hzB⟩
  clear hzA hzB
  go_wp2_with fail
  have hmm : Hid ((sA ++ sB).data.toList = m) := by rw [Hid, ByteArray.data_append, Array.toList_append, hsA.out, hsB.out]; exact HT.out.2.2.2.2.2.2.1
  obtain ⟨sM, hsM⟩ : ∃ s, Hid (s = sA ++ sB) := ⟨_, rfl⟩
  have hzM : Hid (sM.size = m.length) := by rw [Hid, hsM.out, size_list, hmm.out]
  rw [← hsM.out] at hmm ⊢
  refine (c_trimR _ _ (Lib.trimRightB m 48) hmm.out rfl (by omega) _).mono ?_
  rintro e w5 ⟨sR, rfl, hsR, rfl⟩
  have hzR : Hid (sR.size = (Lib.trimRightB m 48).length) := by rw [Hid, size_list, hsR.out]
  have hRm : sR.size ≤ 1048576 := by
    rw [hzR.out]
    have : (Lib.trimRightB m 48).length ≤ m.length := by
      unfold Lib.trimRightB
      have := (List.dropWhile_sublist (· == (48 : UInt8)) (l := m.reverse)).length_le
      simpa using this
    omega
  have hMm : sM.size ≤ 1048576 := by rw [hzM.out]; omega
  have hBm : sB.size ≤ 1048576 := by omega
  clear hzAB
  go_wp2_with fail
  refine (c_trimL _ _ (core m) hsR.out rfl _).mono ?_
  rintro e w6 ⟨sD, rfl, hsD, rfl⟩
  have hzD : Hid (sD.size = (core m).length) := by rw [Hid, size_list, hsD.out]
  by_cases hcr : core m = []
  · have hw : Hid (wres neg m pt exp = (0, true)) := by rw [Hid]; unfold wres; rw [if_pos hcr]
    obtain rfl : sD = ⟨#[]⟩ := by
      have := hsD.out
      rw [hcr] at this
      cases sD with
      | mk d =>
        have : d = #[] := Array.toList_inj.1 this
        rw [this]
    clear hcr hsD hzD
    go_wp2_with fail
    go_ret2
    exact ⟨by rw [hw.out]; rfl, hB4⟩
  · have hDl : 0 < sD.size := by rw [hzD.out]; exact List.length_pos_iff.2 hcr
    have HCR : Hid (core m ≠ []) := hcr
    clear hcr
    have hne : sD.toList.isEmpty = false := by
      rw [Lib.toList_data, hsD.out]
      exact List.isEmpty_eq_false_iff.2 HCR.out
    go_wp2_with fail
    have h2' := (hB4.cell (p := ⟨2, 0, none⟩) hb2).trans h2
    have h3' := (hB4.cell (p := ⟨3, 0, none⟩) hb3).trans h3
    refine (c_parseX _ X exp hsx.out HX.out (by omega) _ ev2 ev3 h2' HE.out.1 h3' HE.out.2).mono ?_
    rintro e w7 ⟨v, er, rfl, hv, hv1, hv2, hb7⟩
    have hB7 : Below w.heap.size w w7 := hB4.trans (hb7.mono hB4.size)
    clear hb7 hB4 h2' h3'
    have HSH : Hid ((sM.size : Int) - sR.size - sB.size + min (max v (-4294967296)) 4294967296 = shiftOf m pt exp) := by
      rw [Hid, hzM.out, hzR.out, HzA.out.2]
      have h8 := HT.out.2.2.2.2.2.2.2
      unfold shiftOf
      rw [← hv.out, ← h8]; rfl
    have hcb : -4294967296 ≤ min (max v (-4294967296)) 4294967296 ∧ min (max v (-4294967296)) 4294967296 ≤ 4294967296 := by omega
    by_cases hbad : neg = true ∨ shiftOf m pt exp < 0 ∨ 10 < ((core m).length : Int) + shiftOf m pt exp
    · have hw : Hid (wres neg m pt exp = (0, false)) := by rw [Hid]; unfold wres; rw [if_neg HCR.out, if_pos hbad]
      rw [← HSH.out, ← hzD.out] at hbad
      cases hng : neg with
      | true =>
        clear hbad
        subst hng
        go_wp2_with fail
        go_ret2
        exact ⟨by rw [hw.out]; rfl, hB7⟩
      | false =>
        subst hng
        by_cases hs0 : (sM.size : Int) - sR.size - sB.size + min (max v (-4294967296)) 4294967296 < 0
        · clear hbad
          go_wp2_with fail
          go_ret2
          exact ⟨by rw [hw.out]; rfl, hB7⟩
        · have hs10 : 10 < (sD.size : Int) + ((sM.size : Int) - sR.size - sB.size + min (max v (-4294967296)) 4294967296) := by
            rcases hbad with h | h | h
            · cases h
            · exact absurd h hs0
            · exact h
          clear hbad
          have hDM : sD.size ≤ 1048576 := by
            rw [hzD.out]
            have : (core m).length ≤ m.length := by
              unfold core Lib.trimLeftB Lib.trimRightB
              have h1 := (List.dropWhile_sublist (· == (48 : UInt8)) (l := (List.dropWhile (· == (48 : UInt8)) m.reverse).reverse)).length_le
              have h2 := (List.dropWhile_sublist (· == (48 : UInt8)) (l := m.reverse)).length_le
              simp only [List.length_reverse] at h1 h2
              omega
            omega
          go_wp2_with fail
          go_ret2
          exact ⟨by rw [hw.out]; rfl, hB7⟩
    · have hw : Hid (wres neg m pt exp = ((dval (core m ++ List.replicate (shiftOf m pt exp).toNat 48) : Int), true)) := by rw [Hid]; unfold wres; rw [if_neg HCR.out, if_neg hbad]
      simp only [not_or] at hbad
      obtain ⟨hng, hs0, hs10⟩ := hbad
      obtain rfl : neg = false := by simpa using hng
      obtain ⟨n, hn'⟩ : ∃ n : Nat, shiftOf m pt exp = n := ⟨(shiftOf m pt exp).toNat, by omega⟩
      rw [hn'] at hs0 hs10
      rw [Hid, hn', Int.toNat_natCast] at hw
      have hsn : (sM.size : Int) - sR.size - sB.size + min (max v (-4294967296)) 4294967296 = (n : Int) := by rw [HSH.out, hn']
      rw [← hzD.out] at hs10
      have HW : Hid (wres false m pt exp = ((dval (core m ++ List.replicate n 48) : Int), true)) := hw
      clear hn' hng hw HSH
      go_wp2_with fail
      refine (c_repeat n (by omega) _).mono ?_
      rintro e w8 ⟨sZ, rfl, hsZ, hb8⟩
      have hB8 : Below w.heap.size w w8 := hB7.trans (hb8.mono hB7.size)
      clear hb8 hB7 hsn
      have hzZ : sZ.size = n := by rw [size_list, hsZ.out, List.length_replicate]
      have hzDZ : sD.size + sZ.size ≤ 10 := by omega
      have hDZ : Hid ((sD ++ sZ).data.toList = core m ++ List.replicate n 48) := by rw [Hid, ByteArray.data_append, Array.toList_append, hsD.out, hsZ.out]
      have hlen : Hid ((core m ++ List.replicate n 48).length ≤ 10) := by rw [Hid, List.length_append, List.length_replicate, ← hzD.out]; omega
      clear hzZ
      go_wp2_with fail
      have hdg : dgs (core m ++ List.replicate n 48) := by
        intro c hc
        rcases List.mem_append.1 hc with hc | hc
        · unfold core Lib.trimLeftB Lib.trimRightB at hc
          have := (List.dropWhile_sublist _).subset hc
          have := List.mem_reverse.1 this
          have := (List.dropWhile_sublist _).subset this
          exact HM.out.1.1 c (List.mem_reverse.1 this)
        · have := List.eq_of_mem_replicate hc
          subst this; decide
      refine (c_parseD _ _ hDZ.out hdg (by simp [HCR.out]) hlen.out _).mono ?_
      rintro e w9 ⟨er2, rfl, hb9⟩
      have hB9 : Below w.heap.size w w9 := hB8.trans (hb9.mono hB8.size)
      clear hb9 hB8 hdg
      go_wp2_with fail
      go_ret2
      exact ⟨by rw [HW.out]; rfl, hB9⟩
/-- ZZwholeNumber hands it on. -/
theorem zzwhole_any (b off cp : Nat) (l : List UInt8) (neg : Bool) (m : List UInt8) (pt exp : Int) (w : World) (hn : l.length ≤ 1048576) (hc : CellsL w b off l) (hd : IsDec l neg m pt exp) (mx : Int) (hmx : w.cell? ⟨0, 0, none⟩ = some (.int .i64 mx))
    (ev2 ev3 : Value) (h2 : w.cell? ⟨2, 0, none⟩ = some ev2) (e2 : ev2 = .nilIface ∨ ∃ te pe, ev2 = .iface te pe) (h3 : w.cell? ⟨3, 0, none⟩ = some ev3) (e3 : ev3 = .nilIface ∨ ∃ te pe, ev3 = .iface te pe) :
    Calls Tryd.prog 9 #[.slice (some ⟨b, off, none⟩) l.length cp] w fun e w' => e = .returned (.tuple #[.int .i64 (wres neg m pt exp).1, .bool (wres neg m pt exp).2]) ∧ Below w.heap.size w w' := by
  have H := whole_any b off cp l neg m pt exp w hn hc hd mx hmx ev2 ev3 h2 e2 h3 e3
  clear hc hd hmx h2 h3 e2 e3
  go_enter Tryd.func9, Tryd.ntmps9
  go_wp2_with fail
  refine H.mono ?_
  rintro e w1 ⟨rfl, hb⟩
  clear H
  go_wp2_with fail
  go_ret2
  exact ⟨rfl, hb⟩
end Go.Proofs.Qxb6606353aDoor
