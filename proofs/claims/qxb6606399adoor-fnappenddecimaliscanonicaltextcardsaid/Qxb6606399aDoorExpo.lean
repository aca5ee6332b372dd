import Derived.Test.Qxb6606399aDoorInsertB
import Derived.Test.Qxb6606399aDoorPlainD
namespace Go.Proofs.Qxb6606399aDoor
open Go.RowKit

theorem new_at (w : World) (x : UInt8) : At (w.alloc (.cells #[bv x] 5)) (some ⟨w.heap.size, 0, none⟩) [x] := fun _ => ⟨_, _, rfl, fun i hi => by
  obtain rfl : i = 0 := by simpa using hi
  exact World.cell?_alloc_at (w := w) #[bv x] 5 w.heap.size 0 rfl⟩
theorem below_new (w : World) (o : Obj) : Below w.heap.size w (w.alloc o) := (Below.refl _ _).alloc (Nat.le_refl _) o
theorem size_new (w : World) (o : Obj) : w.heap.size ≤ (w.alloc o).heap.size := (below_new w o).size
theorem ext_dig {y : List UInt8} (h : y = [] ∨ ExT y) : AllDig (expDigits y) := by
  rcases h with rfl | ⟨sg, d, rfl, hs, _, hd⟩
  · exact .nil
  · rw [expDigits_sign sg d hs hd]; exact hd
theorem own_at {w : World} {B g n cap : Nat} {l : List UInt8} (h : w.ownsRow B 5 1 (.slice (some ⟨g, 0, none⟩) n cap) n (bvs l)) (j : Nat) (hj : j < n) (x : UInt8) (hx : l[j]? = some x) :
    w.frozen? ⟨g, j, none⟩ = false ∧ w.cell? ⟨g, j, none⟩ = some (.int .u8 (x.toNat : Int)) := by
  refine ⟨h.frozenAt j, ?_⟩
  have hlt : j < l.length := by
    rcases Nat.lt_or_ge j l.length with h' | h'
    · exact h'
    · rw [List.getElem?_eq_none h'] at hx; cases hx
  rw [h.cellAt j (by omega), bvs_get l j hlt]
  rw [List.getElem?_eq_getElem hlt] at hx
  rw [Option.some.inj hx]
theorem own_put {w : World} {B g n cap : Nat} {l : List UInt8} (h : w.ownsRow B 5 1 (.slice (some ⟨g, 0, none⟩) n cap) n (bvs l)) (j : Nat) (hj : j < n) (x : UInt8) (z : Int) (hz : z = (x.toNat : Int)) :
    (w.setCell ⟨g, j, none⟩ (.int .u8 z)).ownsRow B 5 1 (.slice (some ⟨g, 0, none⟩) n cap) n (bvs (l.set j x)) := by
  obtain ⟨g', cap', e, _, _, _, h'⟩ := owns_set h j hj x
  cases e
  subst hz
  exact h'
theorem set_mid (X Y : List UInt8) (a : Nat) (z t : UInt8) : (X ++ (List.replicate (a + 1) z ++ Y)).set (X.length + a) t = X ++ (List.replicate a z ++ (t :: Y)) := by
  rw [List.replicate_succ', List.append_assoc, ← List.append_assoc X, List.set_append_right _ _ (by simp)]
  simp
theorem get_mid (X Y : List UInt8) (a : Nat) (z : UInt8) : (X ++ (List.replicate (a + 1) z ++ Y))[X.length + a]? = some z := by
  rw [List.replicate_succ', List.append_assoc, ← List.append_assoc X, List.getElem?_append_right (by simp)]
  simp
theorem set_last (X : List UInt8) (c t : UInt8) (Y : List UInt8) : ((X ++ [c]) ++ Y).set X.length t = (X ++ [t]) ++ Y := by
  rw [List.append_assoc, List.set_append_right _ _ (Nat.le_refl _)]
  simp
theorem get_last (X : List UInt8) (c : UInt8) (Y : List UInt8) : ((X ++ [c]) ++ Y)[X.length]? = some c := by
  rw [List.append_assoc, List.getElem?_append_right (Nat.le_refl _)]
  simp
theorem nz_app {A r s : List UInt8} {c x : UInt8} (h : NoZero (A ++ (c :: r))) (hx : x ≠ 48) : NoZero (A ++ (x :: s)) := by
  cases A with
  | nil => exact fun e => hx (by simpa using e)
  | cons d t => exact h
theorem block_new (w : World) (o : Obj) : (w.alloc o).heap[w.heap.size]? = some o := Go.Deep.blk_alloc_new w o
/-- What appendExponent hands back. -/
def ExpoEnd (B n : Nat) (l T : List UInt8) (w : World) (e : Ending) (w' : World) : Prop := ∃ v', e = .returned v' ∧ w'.ownsRow B 5 1 v' (n + T.length) (bvs (l ++ T)) ∧ Below B w w'

set_option maxRecDepth 100000 in
set_option maxHeartbeats 4000000 in
theorem expo_call (B n : Nat) (v : Value) (l y : List UInt8) (px : Option Addr) (cx : Nat) (sh : Int) (hs1 : -4294967296 < sh) (hs2 : sh < 4294967296) (w : World) (hown : w.ownsRow B 5 1 v n (bvs l)) (hB : B ≤ w.heap.size) (hr : Rd B w px cx y) (hY : y = [] ∨ ExT y)
    (hn : n ≤ 4194304) (hy : y.length ≤ 4194304) (htab : Lib.TabBelow Tryd.prog B w (Tryd.prog.globals[3]!.name) .u64 Lib.pow10Tab) :
    Calls Tryd.prog 25 #[v, .slice px y.length cx, .int .i64 sh] w (ExpoEnd B n l (expText (expOf y + sh)) w) := by
  have HO := hide hown
  have HR := hide hr
  have HD := hide (ext_dig hY)
  have HT := hide htab
  obtain ⟨neg, hneg⟩ : ∃ neg : Bool, Hid (neg = decide (y.head? = some 45)) := ⟨_, rfl⟩
  clear hown hr htab hY
  go_enter Tryd.func25, Tryd.ntmps25
  go_upto_region 1 with fail
  go_cut [7] (fun nv wx => nv = .bool neg ∧ w = wx)
  case first =>
    as_aux_lemma =>
      by_cases h0 : 0 < y.length
      · obtain ⟨b, off, rfl, hc⟩ := (unhide HR).2.2.1 h0
        have h0z : (0 : Int) < (y.length : Int) := by omega
        obtain ⟨x0, hx0, HX0⟩ : ∃ x : Nat, w.cell? ⟨b, off, none⟩ = some (.int .u8 (x : Int)) ∧ Hid (x = (y[0]).toNat) := ⟨(y[0]).toNat, hc 0 h0, rfl⟩
        have hh : y.head? = some y[0] := by rw [List.head?_eq_getElem?, List.getElem?_eq_getElem h0]
        have hne : ((x0 : Int) == 45) = neg := by
          rw [hneg.out, hh]
          by_cases h45 : y[0] = 45
          · have e : x0 = 45 := by rw [HX0.out, h45]; rfl
            rw [e, h45]; rfl
          · rw [decide_eq_false (fun e => h45 (Option.some.inj e))]
            exact beq_eq_false_iff_ne.2 (fun e => h45 (UInt8.toNat_inj.1 (by rw [← HX0.out]; show x0 = 45; omega)))
        clear hc hh
        go_wp2_with fail
        go_meet
        case rel => exact ⟨rfl, rfl⟩
      · obtain rfl : y = [] := List.eq_nil_of_length_eq_zero (by omega)
        have hn0 : neg = false := by rw [hneg.out]; rfl
        subst hn0
        go_wp2_with fail
        go_meet
        case rel => exact ⟨rfl, rfl⟩
  case rest =>
    obtain ⟨rfl, rfl⟩ := hcut
    go_wp2_with fail
    refine (sgn_call (unhide HR) hB).mono ?_
    rintro e w1 ⟨p1, c1, rfl, hr1, hb1⟩
    have hB1 : B ≤ w1.heap.size := Nat.le_trans hB hb1.size
    have HR1 := hide hr1
    clear hr1 HR
    go_wp2_with fail
    refine (tL_call (unhide HR1)).mono ?_
    rintro e w2 ⟨p2, c2, rfl, hr2, rfl⟩
    have HO1 := hide (owns_kept (unhide HO) hb1)
    have HT1 := hide ((unhide HT).on (hb1.mono hB))
    have hBw1 : Below B w w1 := hb1.mono hB
    obtain ⟨d, hd⟩ : ∃ d, Hid (d = tL (expDigits y)) := ⟨_, rfl⟩
    rw [← hd.out] at hr2 ⊢
    have HR2 := hide hr2
    have hdd : Hid (AllDig d) := by rw [Hid, hd.out]; exact tL_sub _ (unhide HD)
    have hdz : Hid (NoZero d) := by rw [Hid, hd.out]; obtain ⟨_, _, h⟩ := tL_split (expDigits y); exact h
    have hdl : d.length ≤ 4194304 := by
      rw [hd.out]; have h1 := tL_len (expDigits y); have h2 := (expDigits_drop y).2; omega
    clear hr2 HR1 HO HT HD
    by_cases h18 : d.length ≤ 18
    · as_aux_lemma =>
        have HV := hide (dec_val p2 c2 d (unhide hdd) h18 w1 (unhide HR2).2.2.1)
        have hvl : valN d < 1000000000000000000 := by
          have h1 := valN_lt d (unhide hdd)
          have h2 : 10 ^ d.length ≤ 10 ^ 18 := Nat.pow_le_pow_right (by omega) h18
          have h3 : (10 : Nat) ^ 18 = 1000000000000000000 := rfl
          omega
        obtain ⟨V, hV⟩ : ∃ V, Hid (V = valN d) := ⟨_, rfl⟩
        rw [← hV.out] at hvl HV
        have hEx : Hid (expOf y = if neg then -(V : Int) else (V : Int)) := by
          rw [Hid, hV.out, hd.out, val_tL, hneg.out]
          unfold expOf
          by_cases h : y.head? = some 45
          · rw [if_pos h, decide_eq_true h]; rfl
          · rw [if_neg h, decide_eq_false h]; rfl
        go_wp2_with fail
        refine (unhide HV).mono ?_
        rintro e w3 ⟨rfl, rfl⟩
        obtain ⟨X, hX⟩ : ∃ X : Int, Hid (X = if neg then -(V : Int) else (V : Int)) := ⟨_, rfl⟩
        rw [← hX.out] at hEx
        have hXl : -1000000000000000000 < X ∧ X < 1000000000000000000 := by
          rw [hX.out]; cases neg <;> simp only [if_true, Bool.false_eq_true, if_false] <;> omega
        obtain ⟨hX1, hX2⟩ := hXl
        go_upto_if 32 with fail
        go_cut [9] (fun ev wx => ev = .int .i64 X ∧ w1 = wx)
        case first =>
          cases neg with
          | true =>
            have e1 : X = -(V : Int) := hX.out
            go_wp2_with fail
            go_meet
            case rel => exact ⟨by rw [e1], rfl⟩
          | false =>
            have e1 : X = (V : Int) := hX.out
            go_wp2_with fail
            go_meet
            case rel => exact ⟨by rw [e1], rfl⟩
        case rest =>
          obtain ⟨rfl, rfl⟩ := hcut
          by_cases hz : X + sh = 0
          · have hzb : (X + sh == 0) = true := by rw [hz]; rfl
            go_wp2_with fail
            go_ret
            exact ⟨v, rfl, by rw [hEx.out]; unfold expText; rw [if_pos hz, List.append_nil]; exact unhide HO1, hBw1⟩
          · have hzb : (X + sh == 0) = false := beq_eq_false_iff_ne.2 hz
            have hA : Apx B (w1.alloc (.cells #[bv 101] 5)) v n l n := Apx.kept (.inl (unhide HO1)) hB1 (below_new _ _)
            have HA := hide hA
            clear hA
            go_wp2_with (first | (at_builtin; refine append_bytes rfl _ _ rfl B v n l n rfl (unhide HA) (some ⟨w1.heap.size, 0, none⟩) 1 1 [101] rfl rfl (new_at w1 101) (fun e => by cases e) (fun x e => by cases e; rfl) (by omega) (Nat.le_trans hB1 (size_new _ _)) ?_; intro v4 w4 hA4 hb4) | fail)
            have hb14 : Below B w1 w4 := ((below_new w1 _).mono hB1).trans hb4
            have hB4 : B ≤ w4.heap.size := Nat.le_trans hB1 hb14.size
            have HI := hide (int_call B (n + 1) (X + sh) (by omega) (by omega) v4 (l ++ [101]) w4 (hA4.own (by omega)) hB4 (by omega) ((unhide HT1).on hb14))
            clear hA4 hb4 HA
            go_wp2_with fail
            refine (unhide HI).mono ?_
            rintro e w5 ⟨v5, rfl, ho5, hb5⟩
            have HO5 := hide ho5
            clear ho5 HI
            go_wp2_with fail
            go_ret
            refine ⟨v5, rfl, ?_, hBw1.trans (hb14.trans hb5)⟩
            rw [hEx.out]
            unfold expText
            rw [if_neg hz]
            have := unhide HO5
            rw [List.append_assoc, List.singleton_append] at this
            rw [List.length_cons, show n + ((Lib.itoa (X + sh)).length + 1) = n + 1 + (Lib.itoa (X + sh)).length by omega]
            exact this
    · have h18' : 18 < d.length := by omega
      have hA : Apx B (w1.alloc (.cells #[bv 101] 5)) v n l n := Apx.kept (.inl (unhide HO1)) hB1 (below_new _ _)
      have HA := hide hA
      clear hA
      go_upto_region 12 with (first | (at_builtin; refine append_bytes rfl _ _ rfl B v n l n rfl (unhide HA) (some ⟨w1.heap.size, 0, none⟩) 1 1 [101] rfl rfl (new_at w1 101) (fun e => by cases e) (fun x e => by cases e; rfl) (by omega) (Nat.le_trans hB1 (size_new _ _)) ?_; intro v4 w4 hA4 hb4) | fail)
      have hb14 : Below B w1 w4 := ((below_new w1 _).mono hB1).trans hb4
      have hB4 : B ≤ w4.heap.size := Nat.le_trans hB1 hb14.size
      have HO4 := hide (hA4.own (by omega))
      have HR4 := hide ((unhide HR2).later hb14)
      have HT4 := hide ((unhide HT1).on hb14)
      have hBw4 : Below B w w4 := hBw1.trans hb14
      clear hA4 hb4 HA HR2 HT1 HO1 hb14 hBw1 hb1
      obtain ⟨sg, hsg⟩ : ∃ sg : List UInt8, Hid (sg = if neg then [45] else []) := ⟨_, rfl⟩
      obtain ⟨S, hS⟩ : ∃ S : Int, Hid (S = if neg then -sh else sh) := ⟨_, rfl⟩
      have hSl : -4294967296 < S ∧ S < 4294967296 := by
        rw [hS.out]; cases neg <;> simp only [if_true, Bool.false_eq_true, if_false] <;> omega
      obtain ⟨hS1, hS2⟩ := hSl
      go_upto_if 49 with fail
      go_cut [0, 2] (fun bv' sv wx => ∃ n5, Hid (wx.ownsRow B 5 1 bv' n5 (bvs (l ++ (101 :: sg)))) ∧ Hid (n5 = n + (1 + sg.length)) ∧ n5 ≤ n + 2 ∧ 0 < n5 ∧ Below B w4 wx ∧ sv = .int .i64 S)
      case first =>
        as_aux_lemma =>
          cases neg with
          | true =>
            have e1 : S = -sh := hS.out
            have e2 : sg = [45] := hsg.out
            have hA : Apx B (w4.alloc (.cells #[bv 45] 5)) v4 (n + 1) (l ++ [101]) (n + 1) := Apx.kept (.inl (unhide HO4)) hB4 (below_new _ _)
            have HA := hide hA
            clear hA
            go_wp2_with (first | (at_builtin; refine append_bytes rfl _ _ rfl B v4 (n + 1) (l ++ [101]) (n + 1) rfl (unhide HA) (some ⟨w4.heap.size, 0, none⟩) 1 1 [45] rfl rfl (new_at w4 45) (fun e => by cases e) (fun x e => by cases e; rfl) (by omega) (Nat.le_trans hB4 (size_new _ _)) ?_; intro v5 w5 hA5 hb5) | fail)
            have hb45 : Below B w4 w5 := ((below_new w4 _).mono hB4).trans hb5
            have HO5 := hide (hA5.own (by omega))
            clear hA5 hb5
            go_wp2_with fail
            go_meet
            case rel => exact ⟨n + 1 + 1, by have := unhide HO5; rw [List.append_assoc] at this; rw [e2]; exact this, by rw [Hid, e2]; rfl, by omega, by omega, hb45, by rw [e1]⟩
          | false =>
            have e1 : S = sh := hS.out
            have e2 : sg = [] := hsg.out
            go_wp2_with fail
            go_meet
            case rel => exact ⟨n + 1, by rw [e2]; exact unhide HO4, by rw [Hid, e2]; rfl, by omega, by omega, Below.refl _ _, by rw [e1]⟩
      case rest =>
        obtain ⟨n5, HO5, HN5, hn5, hn50, hb5, rfl⟩ := hcut
        obtain ⟨g5, cap5, f5, rfl, hg5, hnc5, hcap5, hl5, hrow5, hf5⟩ := row_of_owns (unhide HO5) hn50
        clear hrow5 hf5 HO4
        have hB5 : B ≤ wc.heap.size := Nat.le_trans hB4 hb5.size
        have HR5 := hide ((unhide HR4).later hb5)
        have HT5 := hide ((unhide HT4).on hb5)
        have hBw5 : Below B w wc := hBw4.trans hb5
        obtain ⟨w5, hw5⟩ : ∃ w5, Hid (w5 = wc) := ⟨_, rfl⟩
        rw [← hw5.out] at HO5 HR5 HT5 hBw5 hB5 ⊢
        clear hw5 hb5 HR4 HT4 hBw4
        obtain ⟨b2, o2, rfl, hc2⟩ := (unhide HR5).2.2.1 (by omega)
        have hcl2 := (unhide HR5).1
        have hcl3 := (unhide HR5).2.1
        have hb2B := ((unhide HR5).2.2.2.2 _ rfl).1
        have HC2 := hide hc2
        obtain ⟨h, hh⟩ : ∃ h, d.length = h + 18 := ⟨d.length - 18, by omega⟩
        have hh0 : 0 < h := by omega
        have hAt : At w5 (some ⟨b2, o2, none⟩) (d.take h) := fun _ => ⟨_, _, rfl, hc2.take h⟩
        have hAd : At w5 (some ⟨b2, o2 + h, none⟩) (d.drop h) := fun _ => ⟨_, _, rfl, hc2.drop h⟩
        have HAt := hide hAt
        have htk : (d.take h).length = h := by rw [List.length_take]; omega
        have hdk : (d.drop h).length = 18 := by rw [List.length_drop]; omega
        have HTK := hide htk
        have HA5 : Hid (Apx B w5 (.slice (some ⟨g5, 0, none⟩) n5 cap5) n5 (l ++ (101 :: sg)) n5) := .inl (unhide HO5)
        have HDk := hide hdk
        clear hc2 hAt hAd htk hdk
        go_upto_region 17 with (first | (at_builtin; refine append_bytes rfl _ _ rfl B _ n5 (l ++ (101 :: sg)) n5 rfl (unhide HA5) (some ⟨b2, o2, none⟩) h c2 (d.take h) rfl (unhide HTK) (unhide HAt) (fun e => by cases e) (fun x e => by cases e; rfl) (by omega) hB5 ?_; intro v6 w6 hA6 hb6) | fail)
        have HO6 := hide (hA6.own (by omega))
        have hB6 : B ≤ w6.heap.size := Nat.le_trans hB5 hb6.size
        have HR6 := hide ((unhide HR5).later hb6)
        have HT6 := hide ((unhide HT5).on hb6)
        have hBw6 : Below B w w6 := hBw5.trans hb6
        obtain ⟨g6, cap6, f6, rfl, hg6, hnc6, hcap6, hl6, hrow6, hf6⟩ := row_of_owns (unhide HO6) (by omega)
        have hdd18 : Hid (AllDig (d.drop h)) := fun x hx => (unhide hdd) x (List.mem_of_mem_drop hx)
        have hddH : Hid (AllDig (d.take h)) := fun x hx => (unhide hdd) x (List.mem_of_mem_take hx)
        have hdzH : Hid (NoZero (d.take h)) := by
          intro e
          rw [List.head?_take, if_neg (by omega)] at e
          exact (unhide hdz) e
        have hne : Hid (d.take h ≠ []) := fun e => by
          have := (unhide HTK)
          rw [e] at this
          simp at this
          omega
        have HV := hide (dec_val (some ⟨b2, o2 + h, none⟩) (c2 - h) (d.drop h) (unhide hdd18) (by rw [unhide HDk]; omega) w6 (fun _ => ⟨_, _, rfl, by
          obtain ⟨b', o', e', hc'⟩ := (unhide HR6).2.2.1 (by omega)
          cases e'
          exact hc'.drop h⟩))
        rw [unhide HDk] at HV
        have hLl : valN (d.drop h) < 1000000000000000000 := by
          have h1 := valN_lt (d.drop h) (unhide hdd18)
          rw [unhide HDk] at h1
          exact h1
        obtain ⟨LV, hLV⟩ : ∃ LV, Hid (LV = valN (d.drop h)) := ⟨_, rfl⟩
        rw [← hLV.out] at HV hLl
        have hval : Hid (valN d = valN (d.take h) * 10 ^ 18 + LV) := by
          have := valN_app (d.take h) (d.drop h)
          rw [List.take_append_drop, unhide HDk, ← hLV.out] at this
          exact this
        have hHpos : Hid (1 ≤ valN (d.take h)) := by
          rw [Hid]
          cases hq : d.take h with
          | nil => exact absurd hq (unhide hne)
          | cons c r =>
            have h1 := unhide hddH
            have h2 := unhide hdzH
            rw [hq] at h1 h2
            have := valN_ge c r h1.head (fun e => h2 (by rw [e]; rfl))
            have hp : 0 < 10 ^ r.length := Nat.pow_pos (by omega)
            omega
        clear hA6 hb6 hrow6 hf6 HA5 HAt HC2 HO5 HR5 HT5 hBw5 hdz HR6
        go_wp2_with fail
        refine (unhide HV).mono ?_
        rintro e w7 ⟨rfl, rfl⟩
        go_upto_block 0 with fail
        obtain ⟨N, hN⟩ : ∃ N : Nat, Hid ((N : Int) = (valN d : Int) + S) := ⟨((valN d : Int) + S).toNat, by rw [Hid]; have h1 := hval.out; have h2 := hHpos.out; omega⟩
        have hNpos : 0 < N := by have h0 := hN.out; have h1 := hval.out; have h2 := hHpos.out; omega
        obtain ⟨pre, hpre⟩ : ∃ pre, Hid (pre = l ++ (101 :: sg)) := ⟨_, rfl⟩
        rw [← hpre.out] at HO6 hl6
        obtain ⟨Hh, hHh⟩ : ∃ Hh, Hid (Hh = d.take h) := ⟨_, rfl⟩
        rw [← hHh.out] at HO6 HTK hddH hdzH hne hval hHpos hl6
        have HHl : Hid (Hh.length = h) := unhide HTK
        have hpl : Hid (pre.length = n5) := by rw [Hid]; rw [List.length_append, unhide HHl] at hl6; omega
        clear hl6 HTK HV
        go_cut [0, 11, 12, 13] (fun bv' lv _i1 _i2 wx => ∃ (n7 : Nat) (H' : List UInt8) (lo : Nat), Hid (wx.ownsRow B 5 1 bv' n7 (bvs (pre ++ H'))) ∧ Hid (n7 = n5 + H'.length) ∧ n7 ≤ 16777216 ∧ 0 < n7 ∧ Below B w6 wx ∧ lv = .int .i64 ((lo : Nat) : Int) ∧ lo < 1000000000000000000 ∧ Hid (AllDig H' ∧ NoZero H' ∧ (H' = [] → 10 ^ 17 ≤ lo) ∧ valN H' * 10 ^ 18 + lo = N))
        case first =>
          by_cases hneg0 : (LV : Int) + S < 0
          · as_aux_lemma =>
              obtain ⟨A, c, k, hHs, hc1, hc2⟩ := dec_split Hh (unhide hddH) (unhide hdzH) (unhide hne)
              obtain ⟨X0, hX0⟩ : ∃ X0, Hid (X0 = pre ++ A) := ⟨_, rfl⟩
              obtain ⟨m, hm⟩ : ∃ m, Hid (m = X0.length) := ⟨_, rfl⟩
              have hAk : A.length + 1 + k = h := by
                have := unhide HHl
                rw [hHs, List.length_append, List.length_cons, List.length_replicate] at this
                omega
              have HmA : Hid (m = n5 + A.length) := by rw [Hid, hm.out, hX0.out, List.length_append, unhide hpl]
              have hm1 : n5 ≤ m := by have := HmA.out; omega
              have hm2 : m + 1 + k ≤ n5 + h := by have := HmA.out; omega
              have hm3 : n5 + h ≤ m + 1 + k := by have := HmA.out; omega
              have HAk := hide hAk
              clear hAk
              obtain ⟨lo, hloH⟩ : ∃ lo : Nat, Hid ((LV : Int) + S + 1000000000000000000 = (lo : Int)) := ⟨((LV : Int) + S + 1000000000000000000).toNat, show (LV : Int) + S + 1000000000000000000 = ((((LV : Int) + S + 1000000000000000000).toNat : Nat) : Int) by omega⟩
              have hlo1 : Hid (lo < 1000000000000000000) := by have := hloH.out; rw [Hid]; omega
              have hlo2 : Hid (100000000000000000 ≤ lo) := by have := hloH.out; rw [Hid]; omega
              have HOs : Hid (w6.ownsRow B 5 1 (.slice (some ⟨g6, 0, none⟩) (n5 + h) cap6) (n5 + h) (bvs ((X0 ++ [c]) ++ (List.replicate k 48 ++ List.replicate 0 57)))) := by
                have := unhide HO6
                rw [hHs] at this
                rw [Hid, hX0.out]
                simpa using this
              have HHs := hide hHs
              clear hHs
              go_wp2_with fail
              go_loopg [12] k (fun gg iv wr => ∃ q j : Nat, Hid (gg + j = k) ∧ Hid (q = m + gg) ∧ iv = .int .i64 ((q : Nat) : Int) ∧ Hid (wr.ownsRow B 5 1 (.slice (some ⟨g6, 0, none⟩) (n5 + h) cap6) (n5 + h) (bvs ((X0 ++ [c]) ++ (List.replicate gg 48 ++ List.replicate j 57)))) ∧ Below B w6 wr)
              case atStart => exact ⟨m + k, 0, rfl, rfl, by congr 1 <;> omega, HOs, Below.refl _ _⟩
              case round =>
                obtain ⟨q, j, haj, HQ, rfl, HW, hbr⟩ := hrel
                cases gk with
                | zero =>
                  obtain rfl : j = k := by have := haj.out; omega
                  obtain rfl : m = q := HQ.out.symm
                  obtain ⟨hfz, hcl⟩ := own_at (unhide HW) m (by omega) c (by rw [hm.out]; exact get_last X0 c _)
                  obtain ⟨x, hx⟩ : ∃ x : Nat, Hid (x = c.toNat) := ⟨_, rfl⟩
                  rw [← hx.out] at hcl hc1 hc2
                  have hn48 : ((x : Int) == 48) = false := beq_eq_false_iff_ne.2 (by omega)
                  obtain ⟨c', hc'⟩ : ∃ c' : UInt8, Hid (c' = UInt8.ofNat (c.toNat - 1)) := ⟨_, rfl⟩
                  have hcn : Hid (c'.toNat = x - 1) := by rw [Hid, hc'.out, low_nat c (by rw [← hx.out]; omega), hx.out]
                  have HW2 : Hid ((wr.setCell ⟨g6, m, none⟩ (.int .u8 ((x : Int) - 1))).ownsRow B 5 1 (.slice (some ⟨g6, 0, none⟩) (n5 + h) cap6) (n5 + h) (bvs ((X0 ++ [c']) ++ (List.replicate 0 48 ++ List.replicate j 57)))) := by
                    have := own_put (unhide HW) m (by omega) c' ((x : Int) - 1) (by rw [unhide hcn]; omega)
                    rw [hm.out, set_last] at this
                    rw [Hid, hm.out]
                    exact this
                  have hcl2 : (wr.setCell ⟨g6, m, none⟩ (.int .u8 ((x : Int) - 1))).cell? ⟨g6, m, none⟩ = some (.int .u8 ((x : Int) - 1)) := by
                    have := (own_at (unhide HW2) m (by omega) c' (by rw [hm.out]; exact get_last X0 c' _)).2
                    rw [this, unhide hcn, show ((x - 1 : Nat) : Int) = (x : Int) - 1 by omega]
                  have hbN : Below B w6 (wr.setCell ⟨g6, m, none⟩ (.int .u8 ((x : Int) - 1))) := hbr.setCell hg6 _
                  have HVl : Hid (valN (A ++ (c' :: List.replicate j 57)) + 1 = valN Hh) := by
                    rw [Hid, unhide HHs, hc'.out]
                    exact lower_val A c j (by rw [← hx.out]; exact hc1)
                  have HDg : Hid (AllDig (A ++ (c' :: List.replicate j 57))) := by
                    have h1 := unhide hddH
                    rw [unhide HHs] at h1
                    exact h1.left.append (.cons ((digB_iff c').2 (by rw [unhide hcn]; omega)) (nines_dig j))
                  by_cases hdel : m = n5 ∧ x = 49
                  · obtain ⟨hm5, rfl⟩ := hdel
                    have hA0 : A = [] := List.eq_nil_of_length_eq_zero (by have := HmA.out; omega)
                    have hX0p : X0 = pre := by rw [hX0.out, hA0, List.append_nil]
                    have HDl := hide (delete_call B (n5 + h) n5 (.slice (some ⟨g6, 0, none⟩) (n5 + h) cap6) _ _ (unhide HW2) (by omega))
                    have hdrp : List.drop (n5 + 1) (pre ++ ([c'] ++ (List.replicate 0 48 ++ List.replicate j 57))) = List.replicate j (57 : UInt8) := by
                      rw [List.drop_append, List.drop_of_length_le (by rw [unhide hpl]; omega), unhide hpl, Nat.add_sub_cancel_left]; rfl
                    rw [hX0p, List.append_assoc, List.take_left' (unhide hpl), hdrp] at HDl
                    subst hm5
                    go_wp2_with fail
                    refine (unhide HDl).mono ?_
                    rintro e w9 ⟨v9, rfl, ho9, hb9⟩
                    have HO9 := hide ho9
                    clear ho9 HDl
                    go_wp2_with fail
                    go_meet
                    case rel =>
                      refine ⟨m + h - 1, List.replicate j 57, lo, HO9, ?_, by omega, by omega, hbN.trans hb9, by rw [hloH.out], hlo1.out, nines_dig j, ?_, fun _ => hlo2.out, ?_⟩
                      · rw [Hid, List.length_replicate]; have h1 := HAk.out; rw [hA0] at h1; simp only [List.length_nil] at h1; omega
                      · cases j with
                        | zero => simp [NoZero]
                        | succ j => rw [List.replicate_succ]; simp [NoZero]
                      · have h0 := hN.out
                        have h1 := hval.out
                        have hlo := hloH.out
                        have h2 := unhide HVl
                        rw [hA0, List.nil_append, valN_cons, unhide hcn] at h2
                        simp only [Nat.zero_mul, Nat.zero_add, show 49 - 1 - 48 = 0 from rfl] at h2
                        omega
                  · have hx' : c' ≠ 48 ∨ A ≠ [] := by
                      by_cases hA0 : A = []
                      · refine .inl (fun e => hdel ⟨?_, ?_⟩)
                        · rw [HmA.out, hA0]; rfl
                        · have := unhide hcn; rw [e] at this; have h48 : (48 : UInt8).toNat = 48 := rfl; omega
                      · exact .inr hA0
                    have HNz : Hid (NoZero (A ++ (c' :: List.replicate j 57))) := by
                      have h1 := unhide hdzH
                      rw [unhide HHs] at h1
                      rcases hx' with e | e
                      · exact nz_app h1 e
                      · cases A with
                        | nil => exact absurd rfl e
                        | cons d t => exact h1
                    have HO9 : Hid ((wr.setCell ⟨g6, m, none⟩ (.int .u8 ((x : Int) - 1))).ownsRow B 5 1 (.slice (some ⟨g6, 0, none⟩) (n5 + h) cap6) (n5 + h) (bvs (pre ++ (A ++ (c' :: List.replicate j 57))))) := by
                      have := unhide HW2
                      rw [hX0.out] at this
                      rw [Hid]
                      simpa using this
                    have HRel : Hid (n5 + h = n5 + (A ++ (c' :: List.replicate j 57)).length) := by
                      rw [Hid, List.length_append, List.length_cons, List.length_replicate]; have := HAk.out; omega
                    have HVf : Hid (valN (A ++ (c' :: List.replicate j 57)) * 10 ^ 18 + lo = N) := by
                      have h0 := hN.out
                      have h1 := hval.out
                      have hlo := hloH.out
                      have h2 := unhide HVl
                      rw [Hid]
                      omega
                    clear hx' HW2 HW HOs
                    by_cases hm5 : m = n5
                    · have hx49 : ((x : Int) - 1 == 48) = false := beq_eq_false_iff_ne.2 (fun e => hdel ⟨hm5, by omega⟩)
                      clear hdel
                      subst hm5
                      go_wp2_with fail
                      go_meet
                      case rel => exact ⟨m + h, _, lo, HO9, HRel, by omega, by omega, hbN, by rw [hloH.out], hlo1.out, unhide HDg, unhide HNz, (fun e => by simp at e), unhide HVf⟩
                    · have hmn : ((m : Int) == (n5 : Int)) = false := beq_eq_false_iff_ne.2 (by omega)
                      clear hdel
                      go_wp2_with fail
                      go_meet
                      case rel => exact ⟨n5 + h, _, lo, HO9, HRel, by omega, by omega, hbN, by rw [hloH.out], hlo1.out, unhide HDg, unhide HNz, (fun e => by simp at e), unhide HVf⟩
                | succ a =>
                  have hXl : (X0 ++ [c]).length = m + 1 := by rw [List.length_append, ← hm.out]; rfl
                  have hq1 : q < n5 + h := by have h1 := HQ.out; have h2 := haj.out; omega
                  have hq2 : 1 ≤ q := by have h1 := HQ.out; omega
                  have hqe : q = (X0 ++ [c]).length + a := by have h1 := HQ.out; omega
                  have hcl : wr.cell? ⟨g6, q, none⟩ = some (.int .u8 48) := (own_at (unhide HW) q hq1 48 (by rw [hqe]; exact get_mid _ _ a 48)).2
                  have hfz := (own_at (unhide HW) q hq1 48 (by rw [hqe]; exact get_mid _ _ a 48)).1
                  have HW2 : Hid ((wr.setCell ⟨g6, q, none⟩ (.int .u8 57)).ownsRow B 5 1 (.slice (some ⟨g6, 0, none⟩) (n5 + h) cap6) (n5 + h) (bvs ((X0 ++ [c]) ++ (List.replicate a 48 ++ List.replicate (j + 1) 57)))) := by
                    have := own_put (unhide HW) q hq1 57 57 rfl
                    have e2 := set_mid (X0 ++ [c]) (List.replicate j 57) a 48 57
                    rw [← hqe] at e2
                    rw [e2] at this
                    exact this
                  clear hqe hXl
                  go_wp2_with fail
                  go_roundg a
                  case measure => omega
                  case rel => exact ⟨q - 1, j + 1, by have h2 := haj.out; rw [Hid]; omega, by have h1 := HQ.out; rw [Hid]; omega, by congr 1 <;> omega, HW2, hbr.setCell hg6 _⟩
          · by_cases hbig0 : 1000000000000000000 ≤ (LV : Int) + S
            · as_aux_lemma =>
                obtain ⟨lo, hloH⟩ : ∃ lo : Nat, Hid ((LV : Int) + S - 1000000000000000000 = (lo : Int)) := ⟨((LV : Int) + S - 1000000000000000000).toNat, show (LV : Int) + S - 1000000000000000000 = ((((LV : Int) + S - 1000000000000000000).toNat : Nat) : Int) by omega⟩
                have hlo1 : Hid (lo < 1000000000000000000) := by have := hloH.out; rw [Hid]; omega
                rcases inc_split Hh (unhide hddH) with ⟨k, hHs⟩ | ⟨A, c, k, hHs, hc1, hc2⟩
                · obtain rfl : k = h := by have := unhide HHl; rw [hHs, List.length_replicate] at this; exact this
                  have HOs : Hid (w6.ownsRow B 5 1 (.slice (some ⟨g6, 0, none⟩) (n5 + k) cap6) (n5 + k) (bvs (pre ++ (List.replicate k 57 ++ List.replicate 0 48)))) := by
                    have := unhide HO6
                    rw [hHs] at this
                    rw [Hid]
                    simpa using this
                  have HHs := hide hHs
                  clear hHs
                  go_wp2_with fail
                  go_loopg [13] k (fun gg iv wr => ∃ (z : Int) (j : Nat), Hid (gg + j = k) ∧ Hid (z = (n5 : Int) + (gg : Int) - 1) ∧ iv = .int .i64 z ∧ Hid (wr.ownsRow B 5 1 (.slice (some ⟨g6, 0, none⟩) (n5 + k) cap6) (n5 + k) (bvs (pre ++ (List.replicate gg 57 ++ List.replicate j 48)))) ∧ Below B w6 wr)
                  case atStart => exact ⟨(n5 : Int) + (k : Int) - 1, 0, rfl, rfl, rfl, HOs, Below.refl _ _⟩
                  case round =>
                    obtain ⟨z, j, haj, HZ, rfl, HW, hbr⟩ := hrel
                    cases gk with
                    | zero =>
                      obtain rfl : j = k := by have := haj.out; omega
                      obtain rfl : z = (n5 : Int) - 1 := by have := HZ.out; omega
                      have hzn : ¬ ((n5 : Int) ≤ (n5 : Int) - 1) := by omega
                      have hzl : (n5 : Int) - 1 < (n5 : Int) := by omega
                      have hgl : g6 < wr.heap.size := by
                        obtain ⟨_, _, _, e, _, _, _, _, hrr, _⟩ := row_of_owns (unhide HW) (by omega)
                        cases e
                        exact hrr.lt
                      have hBr : B ≤ wr.heap.size := Nat.le_trans hB6 hbr.size
                      have HIn := hide (insert_call B (n5 + j) n5 wr.heap.size (.slice (some ⟨g6, 0, none⟩) (n5 + j) cap6) _ 49 (wr.alloc (.cells #[bv 49] 5)) (owns_kept (unhide HW) (below_new _ _)) (Nat.le_trans hBr (size_new _ _)) (by omega) (by omega) (block_new _ _) (fun e => by
                        have := Option.some.inj e
                        have h2 : g6 = wr.heap.size := this
                        omega))
                      rw [List.take_left' (unhide hpl), List.drop_left' (unhide hpl)] at HIn
                      clear HZ haj
                      go_wp2_with fail
                      refine (unhide HIn).mono ?_
                      rintro e w9 ⟨v9, rfl, ho9, hb9⟩
                      have HO9 := hide ho9
                      clear ho9 HIn
                      go_wp2_with fail
                      go_meet
                      case rel =>
                        refine ⟨n5 + j + 1, 49 :: List.replicate j 48, lo, HO9, ?_, by omega, by omega, hbr.trans (((below_new wr _).mono hBr).trans hb9), by rw [hloH.out], hlo1.out, .cons rfl (zeros_dig j), by simp [NoZero], (fun e => by cases e), ?_⟩
                        · rw [Hid, List.length_cons, List.length_replicate]; omega
                        · have h0 := hN.out
                          have h1 := hval.out
                          have hlo := hloH.out
                          have h2 := raise_val_all j
                          rw [← unhide HHs] at h2
                          omega
                    | succ a =>
                      obtain ⟨q, HQ⟩ : ∃ q : Nat, Hid (q = n5 + a) := ⟨_, rfl⟩
                      obtain rfl : z = (q : Int) := by have h1 := HZ.out; have h2 := HQ.out; omega
                      have hq1 : q < n5 + k := by have h1 := HQ.out; have h2 := haj.out; omega
                      have hq2 : n5 ≤ q := by have h1 := HQ.out; omega
                      have hqe : q = pre.length + a := by rw [unhide hpl]; exact HQ.out
                      have hcl : wr.cell? ⟨g6, q, none⟩ = some (.int .u8 57) := (own_at (unhide HW) q hq1 57 (by rw [hqe]; exact get_mid _ _ a 57)).2
                      have hfz := (own_at (unhide HW) q hq1 57 (by rw [hqe]; exact get_mid _ _ a 57)).1
                      have HW2 : Hid ((wr.setCell ⟨g6, q, none⟩ (.int .u8 48)).ownsRow B 5 1 (.slice (some ⟨g6, 0, none⟩) (n5 + k) cap6) (n5 + k) (bvs (pre ++ (List.replicate a 57 ++ List.replicate (j + 1) 48)))) := by
                        have := own_put (unhide HW) q hq1 48 48 rfl
                        have e2 := set_mid pre (List.replicate j 48) a 57 48
                        rw [← hqe] at e2
                        rw [e2] at this
                        exact this
                      clear hqe HZ
                      have hqz : (n5 : Int) ≤ (q : Int) := by omega
                      go_wp2_with fail
                      go_roundg a
                      case measure => omega
                      case rel => exact ⟨(q : Int) - 1, j + 1, by have h2 := haj.out; rw [Hid]; omega, by have h1 := HQ.out; rw [Hid]; omega, rfl, HW2, hbr.setCell hg6 _⟩
                · obtain ⟨X0, hX0⟩ : ∃ X0, Hid (X0 = pre ++ A) := ⟨_, rfl⟩
                  obtain ⟨m, hm⟩ : ∃ m, Hid (m = X0.length) := ⟨_, rfl⟩
                  have HAk : Hid (A.length + 1 + k = h) := by
                    have := unhide HHl
                    rw [hHs, List.length_append, List.length_cons, List.length_replicate] at this
                    rw [Hid]
                    omega
                  have HmA : Hid (m = n5 + A.length) := by rw [Hid, hm.out, hX0.out, List.length_append, unhide hpl]
                  have hm1 : n5 ≤ m := by have := HmA.out; omega
                  have hm2 : m + 1 + k ≤ n5 + h := by have h1 := HmA.out; have h2 := HAk.out; omega
                  have hm3 : n5 + h ≤ m + 1 + k := by have h1 := HmA.out; have h2 := HAk.out; omega
                  have HOs : Hid (w6.ownsRow B 5 1 (.slice (some ⟨g6, 0, none⟩) (n5 + h) cap6) (n5 + h) (bvs ((X0 ++ [c]) ++ (List.replicate k 57 ++ List.replicate 0 48)))) := by
                    have := unhide HO6
                    rw [hHs] at this
                    rw [Hid, hX0.out]
                    simpa using this
                  have HHs := hide hHs
                  clear hHs
                  go_wp2_with fail
                  go_loopg [13] k (fun gg iv wr => ∃ q j : Nat, Hid (gg + j = k) ∧ Hid (q = m + gg) ∧ iv = .int .i64 ((q : Nat) : Int) ∧ Hid (wr.ownsRow B 5 1 (.slice (some ⟨g6, 0, none⟩) (n5 + h) cap6) (n5 + h) (bvs ((X0 ++ [c]) ++ (List.replicate gg 57 ++ List.replicate j 48)))) ∧ Below B w6 wr)
                  case atStart => exact ⟨m + k, 0, rfl, rfl, by congr 1 <;> omega, HOs, Below.refl _ _⟩
                  case round =>
                    obtain ⟨q, j, haj, HQ, rfl, HW, hbr⟩ := hrel
                    cases gk with
                    | zero =>
                      obtain rfl : j = k := by have := haj.out; omega
                      obtain rfl : q = m := HQ.out
                      obtain ⟨hfz, hcl⟩ := own_at (unhide HW) q (by omega) c (by rw [hm.out]; exact get_last X0 c _)
                      obtain ⟨x, hx⟩ : ∃ x : Nat, Hid (x = c.toNat) := ⟨_, rfl⟩
                      rw [← hx.out] at hcl hc1 hc2
                      have hn57 : ((x : Int) == 57) = false := beq_eq_false_iff_ne.2 (by omega)
                      obtain ⟨c', hc'⟩ : ∃ c' : UInt8, Hid (c' = UInt8.ofNat (c.toNat + 1)) := ⟨_, rfl⟩
                      have hcn : Hid (c'.toNat = x + 1) := by rw [Hid, hc'.out, up_nat c (by rw [← hx.out]; omega), hx.out]
                      have HW2 : Hid ((wr.setCell ⟨g6, q, none⟩ (.int .u8 ((x : Int) + 1))).ownsRow B 5 1 (.slice (some ⟨g6, 0, none⟩) (n5 + h) cap6) (n5 + h) (bvs ((X0 ++ [c']) ++ (List.replicate 0 57 ++ List.replicate j 48)))) := by
                        have := own_put (unhide HW) q (by omega) c' ((x : Int) + 1) (by rw [unhide hcn]; omega)
                        rw [hm.out, set_last] at this
                        rw [Hid, hm.out]
                        exact this
                      have hbN : Below B w6 (wr.setCell ⟨g6, q, none⟩ (.int .u8 ((x : Int) + 1))) := hbr.setCell hg6 _
                      have HVl : Hid (valN (A ++ (c' :: List.replicate j 48)) = valN Hh + 1) := by
                        rw [Hid, unhide HHs, hc'.out]
                        exact raise_val A c j (by rw [← hx.out]; exact hc1) (by rw [← hx.out]; exact hc2)
                      have HDg : Hid (AllDig (A ++ (c' :: List.replicate j 48))) := by
                        have h1 := unhide hddH
                        rw [unhide HHs] at h1
                        exact h1.left.append (.cons ((digB_iff c').2 (by rw [unhide hcn]; omega)) (zeros_dig j))
                      have HNz : Hid (NoZero (A ++ (c' :: List.replicate j 48))) := by
                        have h1 := unhide hdzH
                        rw [unhide HHs] at h1
                        refine nz_app h1 (fun e => ?_)
                        have := unhide hcn
                        rw [e] at this
                        have h48 : (48 : UInt8).toNat = 48 := rfl
                        omega
                      have HO9 : Hid ((wr.setCell ⟨g6, q, none⟩ (.int .u8 ((x : Int) + 1))).ownsRow B 5 1 (.slice (some ⟨g6, 0, none⟩) (n5 + h) cap6) (n5 + h) (bvs (pre ++ (A ++ (c' :: List.replicate j 48))))) := by
                        have := unhide HW2
                        rw [hX0.out] at this
                        rw [Hid]
                        simpa using this
                      have HRel : Hid (n5 + h = n5 + (A ++ (c' :: List.replicate j 48)).length) := by
                        rw [Hid, List.length_append, List.length_cons, List.length_replicate]; have := HAk.out; omega
                      have HVf : Hid (valN (A ++ (c' :: List.replicate j 48)) * 10 ^ 18 + lo = N) := by
                        have h0 := hN.out
                        have h1 := hval.out
                        have hlo := hloH.out
                        have h2 := unhide HVl
                        rw [Hid]
                        omega
                      clear HW2 HW HOs HQ haj
                      have hqz : (n5 : Int) ≤ (q : Int) := by omega
                      have hqz2 : ¬ ((q : Int) < (n5 : Int)) := by omega
                      go_wp2_with fail
                      go_meet
                      case rel => exact ⟨n5 + h, _, lo, HO9, HRel, by omega, by omega, hbN, by rw [hloH.out], hlo1.out, unhide HDg, unhide HNz, (fun e => by simp at e), unhide HVf⟩
                    | succ a =>
                      have hXl : (X0 ++ [c]).length = m + 1 := by rw [List.length_append, ← hm.out]; rfl
                      have hq1 : q < n5 + h := by have h1 := HQ.out; have h2 := haj.out; omega
                      have hq2 : n5 ≤ q := by have h1 := HQ.out; omega
                      have hqe : q = (X0 ++ [c]).length + a := by have h1 := HQ.out; omega
                      have hcl : wr.cell? ⟨g6, q, none⟩ = some (.int .u8 57) := (own_at (unhide HW) q hq1 57 (by rw [hqe]; exact get_mid _ _ a 57)).2
                      have hfz := (own_at (unhide HW) q hq1 57 (by rw [hqe]; exact get_mid _ _ a 57)).1
                      have HW2 : Hid ((wr.setCell ⟨g6, q, none⟩ (.int .u8 48)).ownsRow B 5 1 (.slice (some ⟨g6, 0, none⟩) (n5 + h) cap6) (n5 + h) (bvs ((X0 ++ [c]) ++ (List.replicate a 57 ++ List.replicate (j + 1) 48)))) := by
                        have := own_put (unhide HW) q hq1 48 48 rfl
                        have e2 := set_mid (X0 ++ [c]) (List.replicate j 48) a 57 48
                        rw [← hqe] at e2
                        rw [e2] at this
                        exact this
                      clear hqe hXl
                      have hqz : (n5 : Int) ≤ (q : Int) := by omega
                      go_wp2_with fail
                      go_roundg a
                      case measure => omega
                      case rel => exact ⟨q - 1, j + 1, by have h2 := haj.out; rw [Hid]; omega, by have h1 := HQ.out; rw [Hid]; omega, by congr 1 <;> omega, HW2, hbr.setCell hg6 _⟩
            · as_aux_lemma =>
                have hz1 : 0 ≤ (LV : Int) + S := by omega
                have hz2 : (LV : Int) + S < 1000000000000000000 := by omega
                clear hneg0 hbig0
                go_wp2_with fail
                go_meet
                case rel =>
                  obtain ⟨lo, hlo⟩ : ∃ lo : Nat, (LV : Int) + S = (lo : Int) := ⟨((LV : Int) + S).toNat, by omega⟩
                  exact ⟨n5 + h, Hh, lo, HO6, by rw [Hid, unhide HHl], by omega, by omega, Below.refl _ _, by rw [hlo], by omega, unhide hddH, unhide hdzH, fun e => absurd e (unhide hne), by have h0 := hN.out; have h1 := hval.out; omega⟩
        case rest =>
          obtain ⟨n7, H', lo, HO7, HN7, hn7, hn70, hb7, rfl, hlo, HF⟩ := hcut
          obtain ⟨g7, cap7, f7, rfl, hg7, hnc7, hcap7, hl7, hrow7, hf7⟩ := row_of_owns (unhide HO7) hn70
          have hB7 : B ≤ wc.heap.size := Nat.le_trans hB6 hb7.size
          have HI := hide (int_call B n7 ((lo : Int) + 1000000000000000000) (by omega) (by omega) (.slice (some ⟨g7, 0, none⟩) n7 cap7) (pre ++ H') wc (unhide HO7) hB7 (by omega) ((unhide HT6).on hb7))
          clear hrow7 hf7 HO6 HO7
          as_aux_lemma =>
            go_wp2_with fail
            refine (unhide HI).mono ?_
            rintro e w8 ⟨v8, rfl, ho8, hb8⟩
            obtain ⟨P, hP1, hP2, hP3, hP4⟩ := pad_facts lo hlo
            have hit : Lib.itoa ((lo : Int) + 1000000000000000000) = 49 :: P := by
              have e : (lo : Int) + 1000000000000000000 = ((lo + 10 ^ 18 : Nat) : Int) := by omega
              rw [e]
              unfold Lib.itoa
              rw [if_neg (by omega), Int.toNat_natCast]
              exact hP1
            rw [hit, List.length_cons, hP2] at ho8
            have HDl := hide (delete_call B (n7 + (18 + 1)) n7 v8 (pre ++ H' ++ 49 :: P) w8 ho8 (by omega))
            have hBw8 : Below B w w8 := hBw6.trans (hb7.trans hb8)
            clear ho8 HI
            go_wp2_with fail
            refine (unhide HDl).mono ?_
            rintro e w9 ⟨v9, rfl, ho9, hb9⟩
            have HO9 := hide ho9
            clear ho9 HDl
            go_wp2_with fail
            go_ret
            refine ⟨v9, rfl, ?_, hBw8.trans hb9⟩
            obtain ⟨f1, f2, f3, f4⟩ := unhide HF
            have hbt := big_text H' P f1 f2 hP2 hP3 (fun e => noZero_of_big P hP2 hP3 (by rw [hP4]; exact f3 e)) N (by rw [hP4]; exact f4) hNpos
            have hx := exp_big y sh d hd.out neg hneg.out N (by rw [hN.out, hS.out]) hNpos
            rw [hx, ← hsg.out, ← hbt]
            have ho := unhide HO9
            have e1 : (pre ++ H').length = n7 := by rw [List.length_append, unhide hpl, unhide HN7]
            rw [List.take_left' e1, show (pre ++ H' ++ 49 :: P).drop (n7 + 1) = P from by rw [List.drop_append, List.drop_of_length_le (by omega), List.nil_append, e1, Nat.add_sub_cancel_left]; rfl] at ho
            have e2 : pre ++ H' ++ P = l ++ (101 :: (sg ++ (H' ++ P))) := by rw [hpre.out]; simp
            rw [e2] at ho
            have e3 : n7 + (18 + 1) - 1 = n + (101 :: (sg ++ (H' ++ P))).length := by
              have h1 := unhide HN7
              have h2 := unhide HN5
              rw [List.length_cons, List.length_append, List.length_append, hP2]
              omega
            rw [e3] at ho
            exact ho
end Go.Proofs.Qxb6606399aDoor
