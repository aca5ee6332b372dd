import Derived.Test.Qxb6606353aDoorParse
import Derived.Test.Qxb6606353aDoorWhole
namespace Go.Proofs.Qxb6606353aDoor
open Go.RowKit
open Pl

theorem hide {p : Prop} (h : p) : Hid p := h
theorem unhide {p : Prop} (h : Hid p) : p := h
theorem zz_ok (a : Option Addr) (n c : Nat) (hn : n ≤ 1048576) (w : World) : Calls Tryd.prog 6 #[.slice a n c] w fun e w' => e = .returned (.bool true) ∧ w = w' := by
  go_enter Tryd.func6, Tryd.ntmps6
  go_wp2
  go_ret
  exact ⟨rfl, rfl⟩
theorem zz_no (a : Option Addr) (n c : Nat) (hn : 1048576 < n) (hm : n ≤ 9223372036854775807) (w : World) : Calls Tryd.prog 6 #[.slice a n c] w fun e w' => e = .returned (.bool false) ∧ w = w' := by
  go_enter Tryd.func6, Tryd.ntmps6
  go_wp2
  go_ret
  exact ⟨rfl, rfl⟩
theorem law_big (a : Option Addr) (n c : Nat) (hn : 1048576 < n) (hm : n ≤ 9223372036854775807) (w : World) : Calls Tryd.prog 3 #[.slice a n c] w fun e w' => e = .returned (.bool true) ∧ Below w.heap.size w w' := by
  go_enter Tryd.func3, Tryd.ntmps3
  go_wp2_with fail
  refine (zz_no a n c hn hm _).mono ?_
  rintro e w1 ⟨rfl, rfl⟩
  go_wp2_with fail
  go_ret
  exact ⟨rfl, Below.refl _ _⟩
set_option maxHeartbeats 400000 in
theorem clone_empty (a : Addr) (c : Nat) (w : World) :
    Calls Tryd.prog 7 #[.slice (some a) 0 c] w fun e w' => e = .returned (.slice (some ⟨w.heap.size, 0, none⟩) 0 0) ∧ w'.ownsRow w.heap.size 5 1 (.slice (some ⟨w.heap.size, 0, none⟩) 0 0) 0 [] ∧ Below w.heap.size w w' := by
  have q22 := fun (w : World) (a : Option Addr) (n c n' c' : Nat) => Lib.run_eql_slice_nil (P := Tryd.prog) w 22 5 a n c n' c' Tryd.underlying22
  obtain ⟨i0, hi, hz0, hz1, hz2⟩ := info_parts Tryd.info5
  go_enter Tryd.func7, Tryd.ntmps7
  go_wp2_with (first | (at_make; refine wpList_make_full _ rfl _ _ 22 rfl w.heap.size 5 i0 (.int .u8 0) 1 Tryd.underlying22 hi hz0 hz1 .i64 .i64 0 0 0 rfl rfl rfl rfl (by rw [hz2]; omega) (by unfold maxLen; omega) (Nat.le_refl _) ?_; intro w1 hown hgr) | fail)
  have hb1 : Below w.heap.size w w1 := (Below.refl _ _).grown hgr (Nat.le_refl _) (fun _ h => by cases h)
  clear hgr
  refine wp_loop_rounds 1 ?_
  rw [rounds_succ]
  go_wp2
  go_ret
  exact ⟨rfl, by rw [show (madeCells (Value.int IntKind.u8 0).cells (0 * 1)).toList = [] from by rw [Nat.zero_mul]; exact toList_madeCells_one _ 0] at hown; exact hown, hb1⟩
/-- b1Clone of whatever slice that is not nil. -/
theorem clone_all (a : Addr) (c : Nat) (l : List UInt8) (w : World) (hn : l.length ≤ 1048576) (hc : 0 < l.length → ∃ b off, a = ⟨b, off, none⟩ ∧ CellsL w b off l) :
    Calls Tryd.prog 7 #[.slice (some a) l.length c] w fun e w' => e = .returned (.slice (some ⟨w.heap.size, 0, none⟩) l.length l.length) ∧ w'.ownsRow w.heap.size 5 1 (.slice (some ⟨w.heap.size, 0, none⟩) l.length l.length) l.length (bvs l) ∧ Below w.heap.size w w' := by
  cases l with
  | nil => exact clone_empty a c w
  | cons x r =>
    obtain ⟨b, off, rfl, hcl⟩ := hc (by simp)
    have hb : b < w.heap.size := World.block_lt_of_cell? _ _ (hcl 0 (by simp))
    refine (clone_any b off (x :: r).length c ((x :: r).map fun c => (c.toNat : Int)) w (by simp) hn (fun i hi => ?_) (fun _ => hb)).mono ?_
    · rw [hcl i hi, List.getD, List.getElem?_map, List.getElem?_eq_getElem hi]; rfl
    · rintro e w' ⟨h1, h2, h3⟩
      refine ⟨h1, ?_, h3⟩
      have : ((x :: r).map (fun c => (c.toNat : Int))).map (Value.int .u8) = bvs (x :: r) := by unfold bvs bv; rw [List.map_map]; rfl
      rw [this] at h2
      exact h2
theorem isDec_bd {l : List UInt8} {neg : Bool} {m : List UInt8} {pt exp : Int} (h : IsDec l neg m pt exp) : m.length ≤ l.length ∧ 0 ≤ pt ∧ pt ≤ m.length ∧ -1099511627776 ≤ exp ∧ exp ≤ 1099511627776 ∧ dgs m := by
  obtain ⟨sg, u, X, rfl, hsg, hM, hm, hX⟩ := h
  have h1 := hM.lt
  have h2 := hX.bd
  refine ⟨?_, h1.1, h1.2.1, h2.1, h2.2, hM.1⟩
  simp; omega
theorem exists_last (m : List UInt8) (a : Nat) (ha : a < m.length) (hz : ∀ i, (h : i < m.length) → i < a → m[i] = 48) (hna : m[a] ≠ 48) : ∃ b, Pl.Ends m a b := by
  have key : ∀ k, k ≤ m.length → a < k → (∀ i, (h : i < m.length) → k ≤ i → m[i] = 48) → ∃ b, Pl.Ends m a b := by
    intro k
    induction k with
    | zero => intro _ h; omega
    | succ k ih =>
      intro hk hak hzb
      by_cases hx : m[k] = 48
      · by_cases e : a = k
        · subst e; exact absurd hx hna
        · exact ih (by omega) (by omega) (fun i hi hki => by
            by_cases e2 : i = k
            · subst e2; exact hx
            · exact hzb i hi (by omega))
      · exact ⟨k, by omega, by omega, hz, hna, hx, fun i hi hki => hzb i hi (by omega)⟩
  exact key m.length (Nat.le_refl _) ha (fun i hi h => by omega)
set_option maxRecDepth 100000 in
set_option maxHeartbeats 4000000 in
theorem law_some (a : Addr) (c : Nat) (l : List UInt8) (w : World) (hn : l.length ≤ 1048576) (hc : 0 < l.length → ∃ b off, a = ⟨b, off, none⟩ ∧ CellsL w b off l) (mx : Int) (hmx : w.cell? ⟨0, 0, none⟩ = some (.int .i64 mx))
    (ev2 ev3 : Value) (h2 : w.cell? ⟨2, 0, none⟩ = some ev2) (e2 : ev2 = .nilIface ∨ ∃ te pe, ev2 = .iface te pe) (h3 : w.cell? ⟨3, 0, none⟩ = some ev3) (e3 : ev3 = .nilIface ∨ ∃ te pe, ev3 = .iface te pe) :
    Calls Tryd.prog 3 #[.slice (some a) l.length c] w fun e w' => e = .returned (.bool true) ∧ Below w.heap.size w w' := by
  have hcl := clone_all a c l w hn hc
  have HCL := hide hcl
  have HE : Hid ((ev2 = .nilIface ∨ ∃ te pe, ev2 = .iface te pe) ∧ (ev3 = .nilIface ∨ ∃ te pe, ev3 = .iface te pe)) := ⟨e2, e3⟩
  have hb0 := World.block_lt_of_cell? _ _ hmx
  have hb2 := World.block_lt_of_cell? _ _ h2
  have hb3 := World.block_lt_of_cell? _ _ h3
  simp only at hb0 hb2 hb3
  clear hcl hc e2 e3
  go_enter Tryd.func3, Tryd.ntmps3
  go_wp2_with fail
  refine (zz_ok (some a) l.length c hn _).mono ?_
  rintro e w1 ⟨rfl, rfl⟩
  go_wp2_with fail
  refine (unhide HCL).mono ?_
  rintro e w1 ⟨rfl, hown1, hB1⟩
  have hcl1 : CellsL w1 w.heap.size 0 l := CellsL.of_owns rfl hown1
  have HC1 := hide hcl1
  have hlt1 : 0 < l.length → w.heap.size < w1.heap.size := fun h => World.block_lt_of_cell? _ _ (hcl1 0 h)
  have HLT := hide hlt1
  clear HCL hown1 hcl1 hlt1
  go_wp2_with fail
  refine (parse_any w.heap.size 0 l.length l w1 hn (unhide HC1) (unhide HLT)).mono ?_
  rintro e w2 ⟨hB2, hres⟩
  have hB2' : Below w.heap.size w w2 := hB1.trans (hB2.mono hB1.size)
  rcases hres with rfl | ⟨neg, m, pt, exp, rfl, hown, hdec⟩
  · go_wp2_with fail
    go_ret
    exact ⟨rfl, hB2'⟩
  · have hcl2 : CellsL w2 w.heap.size 0 l := (unhide HC1).later (unhide HLT) hB2
    have hcm : CellsL w2 w1.heap.size 0 m := CellsL.of_owns rfl hown
    have HD := hide hdec
    have HC2 := hide hcl2
    have HCM := hide hcm
    clear hcl2 hcm hown hdec HC1 HLT hB1
    go_wp2_with fail
    have hmx2 := (hB2'.cell (p := ⟨0, 0, none⟩) hb0).trans hmx
    have h22 := (hB2'.cell (p := ⟨2, 0, none⟩) hb2).trans h2
    have h32 := (hB2'.cell (p := ⟨3, 0, none⟩) hb3).trans h3
    obtain ⟨N, OK, hw⟩ : ∃ N OK, Hid (wres neg m pt exp = (N, OK)) := ⟨_, _, rfl⟩
    have HZ := zzwhole_any w.heap.size 0 l.length l neg m pt exp w2 hn (unhide HC2) (unhide HD) mx hmx2 ev2 ev3 h22 HE.out.1 h32 HE.out.2
    rw [hw.out] at HZ
    refine HZ.mono ?_
    rintro e w3 ⟨rfl, hB3⟩
    have hB3' : Below w.heap.size w w3 := hB2'.trans (hB3.mono hB2'.size)
    obtain ⟨bd1, bd2, bd3, bd4, bd5, bd6⟩ := isDec_bd (unhide HD)
    have hlt2 : 0 < m.length → w1.heap.size < w2.heap.size := fun h => World.block_lt_of_cell? _ _ ((unhide HCM) 0 h)
    have hcm3 : CellsL w3 w1.heap.size 0 m := (unhide HCM).later hlt2 hB3
    have HC3 := hide hcm3
    have HDG := hide bd6
    have hml : m.length ≤ 1048576 := by omega
    clear hmx2 h22 h32 HZ hlt2 hcm3 HCM HC2 HD hB2' hB3 hB2 bd6
    go_upto_block 0 with fail
    go_cut [10] (fun f wx => w3 = wx ∧ ((f = .int .i64 (-1) ∧ ∀ i, (h : i < m.length) → m[i] = 48) ∨ ∃ (a : Nat) (h : a < m.length), f = .int .i64 (a : Nat) ∧ (∀ i, (h : i < m.length) → i < a → m[i] = 48) ∧ m[a] ≠ 48))
    case first =>
      as_aux_lemma =>
        go_wp2_with fail
        go_loopg [10, 11] (m.length) (fun g f j wr => ∃ k : Nat, g = m.length - k ∧ k ≤ m.length ∧ Hid (∀ i, (h : i < m.length) → i < k → m[i] = 48) ∧ w3 = wr ∧ f = .int .i64 (-1) ∧ j = .int .i64 (k : Nat))
        case atStart => exact ⟨0, rfl, Nat.zero_le _, fun i _ h => by omega, rfl, rfl, rfl⟩
        case round =>
          obtain ⟨k, rfl, hk, HZ, rfl, rfl, rfl⟩ := hrel
          by_cases hlt : k < m.length
          · obtain ⟨x, hcx, hx256, HX⟩ : ∃ x : Nat, w3.cell? ⟨w1.heap.size, k, none⟩ = some (.int .u8 (x : Int)) ∧ x < 256 ∧ Hid (x = (m[k]).toNat) :=
              ⟨_, by have := HC3.out k hlt; rwa [Nat.zero_add] at this, m[k].toNat_lt, rfl⟩
            by_cases h48 : x = 48
            · have HZ' : Hid (∀ i, (h : i < m.length) → i < k + 1 → m[i] = 48) := fun i hi hik => by
                by_cases e : i = k
                · subst e; exact UInt8.toNat_inj.1 (by rw [← HX.out]; exact h48)
                · exact HZ.out i hi (by omega)
              subst h48
              go_wp2
              go_roundg (m.length - (k + 1))
              case measure => omega
              case rel => exact ⟨k + 1, rfl, by omega, HZ', rfl, rfl, by go_num⟩
            · have e1 : ((x : Int) != 48) = true := by rw [bne_iff_ne]; omega
              have HN : Hid (m[k] ≠ 48) := fun e => h48 (by rw [HX.out, e]; rfl)
              go_wp2
              go_meet
              case rel => exact ⟨rfl, .inr ⟨k, hlt, rfl, HZ.out, HN.out⟩⟩
          · have HZ' : Hid (∀ i, (h : i < m.length) → m[i] = 48) := fun i hi => HZ.out i hi (by omega)
            go_wp2
            go_meet
            case rel => exact ⟨rfl, .inl ⟨rfl, HZ'.out⟩⟩
    case rest =>
      obtain ⟨rfl, hcase⟩ := hcut
      rcases hcase with ⟨rfl, hz⟩ | ⟨fa, hfa, rfl, hza, hna⟩
      · have he := hw.out.symm.trans (law_zero neg m pt exp hz)
        obtain ⟨rfl, rfl⟩ := Prod.mk.inj he
        clear he hz
        go_wp2_with fail
        go_ret
        exact ⟨rfl, hB3'⟩
      · obtain ⟨lb, hE⟩ := exists_last m fa hfa hza hna
        have HE2 := hide hE
        have hab := hE.ab
        have hbl := hE.bl
        clear hE hza hna
        cases hng : neg with
        | true =>
          subst hng
          have he := hw.out.symm.trans (law_neg (unhide HE2) pt exp)
          obtain ⟨rfl, rfl⟩ := Prod.mk.inj he
          clear he
          go_wp2_with fail
          go_ret
          exact ⟨rfl, hB3'⟩
        | false =>
          subst hng
          go_upto_block 2 with fail
          go_cut [12] (fun la wx => w3 = wx ∧ la = .int .i64 (lb : Nat))
          case first =>
            as_aux_lemma =>
              go_wp2_with fail
              go_loopg [12, 13] (m.length - 1) (fun g la j wr => ∃ k : Nat, k = g ∧ k < m.length ∧ lb ≤ k ∧ w3 = wr ∧ la = .int .i64 (fa : Nat) ∧ j = .int .i64 (k : Nat))
              case atStart => exact ⟨m.length - 1, rfl, by omega, by omega, rfl, rfl, by go_num⟩
              case round =>
                obtain ⟨k, rfl, hk, hbk, rfl, rfl, rfl⟩ := hrel
                by_cases hlt : fa < k
                · obtain ⟨x, hcx, hx256, HX⟩ : ∃ x : Nat, w3.cell? ⟨w1.heap.size, k, none⟩ = some (.int .u8 (x : Int)) ∧ x < 256 ∧ Hid (x = (m[k]).toNat) :=
                    ⟨_, by have := HC3.out k hk; rwa [Nat.zero_add] at this, m[k].toNat_lt, rfl⟩
                  by_cases h48 : x = 48
                  · have hne : lb ≠ k := fun e => by
                      have := (unhide HE2).nb
                      subst e
                      exact this (UInt8.toNat_inj.1 (by rw [← HX.out]; exact h48))
                    have hlb : lb ≤ k - 1 := by omega
                    clear hne
                    subst h48
                    go_wp2
                    go_roundg (k - 1)
                    case measure => omega
                    case rel => exact ⟨k - 1, rfl, by omega, by omega, rfl, rfl, by go_num⟩
                  · have e1 : ((x : Int) != 48) = true := by rw [bne_iff_ne]; omega
                    have hkb : k = lb := by
                      by_cases e : lb < k
                      · exact absurd (by rw [HX.out, (unhide HE2).zb k hk e]; rfl) h48
                      · omega
                    subst hkb
                    go_wp2
                    go_meet
                    case rel => exact ⟨rfl, rfl⟩
                · have hkb : lb = fa := by omega
                  subst hkb
                  go_wp2
                  go_meet
                  case rel => exact ⟨rfl, rfl⟩
          case rest =>
            obtain ⟨rfl, rfl⟩ := hcut
            by_cases c1 : pt + exp ≤ (lb : Int)
            · have he := hw.out.symm.trans (law_frac (unhide HE2) false pt exp hml bd2 bd3 c1)
              obtain ⟨rfl, rfl⟩ := Prod.mk.inj he
              clear he
              go_wp2_with fail
              go_ret
              exact ⟨rfl, hB3'⟩
            · by_cases c2 : 10 < pt + exp - (fa : Int)
              · have he := hw.out.symm.trans (law_long (unhide HE2) false pt exp hml bd2 bd3 c2)
                obtain ⟨rfl, rfl⟩ := Prod.mk.inj he
                clear he
                go_wp2_with fail
                go_ret
                exact ⟨rfl, hB3'⟩
              · obtain ⟨f1, f2, f3⟩ := law_whole (unhide HE2) pt exp hml bd2 bd3 (by omega) (by omega)
                have he := hw.out.symm.trans f1
                obtain ⟨rfl, rfl⟩ := Prod.mk.inj he
                have fd := full_dgs HDG.out pt exp
                clear he f1
                obtain ⟨E, hEE⟩ : ∃ E, Hid (E = full m pt exp) := ⟨_, rfl⟩
                rw [← hEE.out] at f2 fd
                have f3' : ∀ q, (hq : q < E.length) → E[q] = (if hq' : fa + q < m.length then m[fa + q] else 48) := by
                  rw [hEE.out]; exact f3
                rw [← hEE.out]
                have HF3 := hide f3'
                have HFD := hide fd
                have hEl : E.length ≤ 10 := by omega
                clear f3 f3' fd hEE
                have HF2 := hide f2
                clear f2
                obtain ⟨V0, HV0⟩ : ∃ V : Int, Hid (V = (dval E : Int)) := ⟨_, rfl⟩
                rw [← HV0.out]
                go_wp2_with fail
                go_loopg [15, 16] (E.length) (fun g wv pv wr => ∃ (q : Nat) (V : Int), g = E.length - q ∧ q ≤ E.length ∧ 0 ≤ V ∧ V < 10000000000 ∧ Hid (V = dval (E.take q)) ∧ w3 = wr ∧ wv = .int .i64 V ∧ pv = .int .i64 ((fa + q : Nat) : Int))
                case atStart => exact ⟨0, 0, rfl, Nat.zero_le _, by omega, by omega, rfl, rfl, rfl, rfl⟩
                case round =>
                  obtain ⟨q, V, rfl, hq, hV0, hV1, HV, rfl, rfl, rfl⟩ := hrel
                  by_cases hlt : q < E.length
                  · have hend : ((fa : Int) + (q : Int)) < pt + exp := by have := HF2.out; omega
                    have hstep := dval_take_succ E q hlt HFD.out
                    have hbd := dval_take_lt E (q + 1) HFD.out hEl
                    by_cases hin : fa + q < m.length
                    · obtain ⟨x, hcx, hx256, HX⟩ : ∃ x : Nat, w3.cell? ⟨w1.heap.size, fa + q, none⟩ = some (.int .u8 (x : Int)) ∧ x < 256 ∧ Hid (x = (m[fa + q]).toNat) :=
                        ⟨_, by have := HC3.out (fa + q) hin; rwa [Nat.zero_add] at this, m[fa + q].toNat_lt, rfl⟩
                      have hdx : 48 ≤ x ∧ x ≤ 57 := by rw [HX.out]; exact HDG.out _ (List.getElem_mem hin)
                      obtain ⟨hd1, hd2⟩ := hdx
                      have HN : Hid (V * 10 + ((x : Int) - 48) = (dval (E.take (q + 1)) : Int)) := by
                        rw [Hid, hstep, ← HV.out, HF3.out q hlt, dif_pos hin, ← HX.out]
                      have hb2 : V * 10 + ((x : Int) - 48) < 10000000000 := by rw [HN.out]; omega
                      clear hstep hbd
                      go_wp2
                      go_roundg (E.length - (q + 1))
                      case measure => omega
                      case rel => exact ⟨q + 1, V * 10 + ((x : Int) - 48), rfl, by omega, by omega, hb2, HN, rfl, by go_num, by go_num⟩
                    · have HN : Hid (V * 10 = (dval (E.take (q + 1)) : Int)) := by
                        rw [Hid, hstep, ← HV.out, HF3.out q hlt, dif_neg hin]
                        have : (48 : UInt8).toNat = 48 := rfl
                        rw [this]; omega
                      have hb2 : V * 10 < 10000000000 := by rw [HN.out]; omega
                      clear hstep hbd
                      go_wp2
                      go_roundg (E.length - (q + 1))
                      case measure => omega
                      case rel => exact ⟨q + 1, V * 10, rfl, by omega, by omega, hb2, HN, rfl, by go_num, by go_num⟩
                  · have hend : pt + exp ≤ ((fa : Int) + (q : Int)) := by have := HF2.out; omega
                    have hVV : V0 = V := by
                      rw [HV0.out, HV.out, List.take_of_length_le (by omega)]
                    subst hVV
                    go_wp2_with fail
                    go_ret
                    exact ⟨rfl, hB3'⟩
end Go.Proofs.Qxb6606353aDoor
