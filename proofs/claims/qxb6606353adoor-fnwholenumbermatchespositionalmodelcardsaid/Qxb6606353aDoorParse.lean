import Derived.Test.Qxb6606353aDoorBase
import Derived.Deep.DeepCutAuto
import Derived.Deep.CutBlock
import Derived.Deep.LoopGhost
namespace Go.Proofs.Qxb6606353aDoor
open Go.RowKit
open Pl

def ParseEnd (w : World) (l : List UInt8) (e : Ending) (w' : World) : Prop :=
  Below w.heap.size w w' ∧ (e = .returned (.tuple #[.bool false, .slice none 0 0, .int .i64 0, .int .i64 0, .bool false]) ∨
    ∃ neg m pt exp, e = .returned (.tuple #[.bool neg, .slice (some ⟨w.heap.size, 0, none⟩) m.length l.length, .int .i64 pt, .int .i64 exp, .bool true]) ∧
      w'.ownsRow w.heap.size 5 1 (.slice (some ⟨w.heap.size, 0, none⟩) m.length l.length) m.length (bvs m) ∧ IsDec l neg m pt exp)

/-- What the first loop's round holds of the mantissa. -/
def MI (w wr : World) (l sg : List UInt8) (k : Nat) (u m : List UInt8) (pt : Int) : Prop :=
  k ≤ l.length ∧ l.take k = sg ++ u ∧ Mant u m pt ∧ m.length ≤ k ∧ wr.ownsRow w.heap.size 5 1 (.slice (some ⟨w.heap.size, 0, none⟩) m.length l.length) m.length (bvs m) ∧ Below w.heap.size w wr
theorem MI.digit {w wr w1 : World} {l sg : List UInt8} {k : Nat} {u m : List UInt8} {pt : Int} {o : Obj} (h : MI w wr l sg k u m pt) (hk : k < l.length) (h1 : 48 ≤ l[k].toNat) (h2 : l[k].toNat ≤ 57)
    (ho : w1.ownsRow w.heap.size 5 1 (.slice (some ⟨w.heap.size, 0, none⟩) (m.length + 1) l.length) (m.length + 1) (bvs m ++ [.int .u8 (l[k].toNat : Int)])) (hg : (wr.alloc o).grownBy w1 (some w.heap.size)) :
    MI w w1 l sg (k + 1) (u ++ [l[k]]) (m ++ [l[k]]) pt := by
  obtain ⟨_, ht, hm, hle, _, hbl⟩ := h
  have hsz := hbl.size
  refine ⟨by omega, by rw [take_snoc l k hk, ht]; simp, hm.digit _ h1 h2, by simp; omega, ?_, ?_⟩
  · rw [bvs_snoc, List.length_append]; exact ho
  · exact ((hbl.alloc hsz o).grown hg (by simp; omega) (fun k hk => by cases hk; exact Nat.le_refl _))
theorem MI.dot {w wr : World} {l sg : List UInt8} {k : Nat} {u m : List UInt8} {pt : Int} (h : MI w wr l sg k u m pt) (hk : k < l.length) (h1 : l[k].toNat = 46) (hp : pt < 0) :
    MI w wr l sg (k + 1) (u ++ [46]) m m.length := by
  obtain ⟨_, ht, hm, hle, ho, hbl⟩ := h
  refine ⟨by omega, by rw [take_snoc l k hk, ht, UInt8.toNat_inj.1 (show l[k].toNat = (46 : UInt8).toNat from h1)]; simp, hm.dot hp, by omega, ho, hbl⟩

set_option maxRecDepth 100000 in
set_option maxHeartbeats 4000000 in
theorem parse_any (b off c : Nat) (l : List UInt8) (w : World) (hn : l.length ≤ 1048576) (hc : CellsL w b off l) (hb : 0 < l.length → b < w.heap.size) :
    Calls Tryd.prog 8 #[.slice (some ⟨b, off, none⟩) l.length c] w (ParseEnd w l) := by
  obtain ⟨i0, hi, hz0, hz1, hz2⟩ := info_parts Tryd.info5
  have HC : Hid (CellsL w b off l) := hc
  clear hc
  go_enter Tryd.func8, Tryd.ntmps8
  go_upto_region 3 with fail
  go_cut [32] (fun s wx => ∃ sb : Bool, s = .bool sb ∧ w = wx ∧ (sb = true → ∃ c r, l = c :: r ∧ (c = 43 ∨ c = 45)))
  case first =>
    as_aux_lemma =>
      rcases l with _ | ⟨c0, r⟩
      · go_wp2
        go_meet
        case rel => exact ⟨false, rfl, rfl, by simp⟩
      · have h0 : w.cell? ⟨b, off, none⟩ = some (.int .u8 (c0.toNat : Int)) := HC.out 0 (by simp)
        obtain ⟨x, hx⟩ : ∃ x : Nat, x = c0.toNat := ⟨_, rfl⟩
        rw [← hx] at h0
        have HX : Hid (x = c0.toNat) := hx
        clear hx
        by_cases h1 : x = 43
        · subst h1
          go_wp2
          go_meet
          case rel => exact ⟨true, rfl, rfl, fun _ => ⟨c0, r, rfl, .inl (UInt8.toNat_inj.1 HX.out.symm)⟩⟩
        · by_cases h2 : x = 45
          · subst h2
            go_wp2
            go_meet
            case rel => exact ⟨true, rfl, rfl, fun _ => ⟨c0, r, rfl, .inr (UInt8.toNat_inj.1 HX.out.symm)⟩⟩
          · have e1 : ((x : Int) == 43) = false := beq_eq_false_iff_ne.2 (by omega)
            have e2 : ((x : Int) == 45) = false := beq_eq_false_iff_ne.2 (by omega)
            go_wp2
            go_meet
            case rel => exact ⟨false, rfl, rfl, by simp⟩
  case rest =>
    obtain ⟨sb, rfl, rfl, hsb⟩ := hcut
    go_upto_if 32 with fail
    go_cut [7, 8] (fun s ng wx => w = wx ∧ ∃ sg neg k0, k0 ≤ l.length ∧ l.take k0 = sg ∧ Sgn sg neg ∧ s = .int .i64 (k0 : Nat) ∧ ng = .bool neg)
    case first =>
      as_aux_lemma =>
        cases sb with
        | false =>
          go_wp2
          go_meet
          case rel => exact ⟨rfl, [], false, 0, by omega, rfl, .inl ⟨rfl, rfl⟩, rfl, rfl⟩
        | true =>
          obtain ⟨c0, r, rfl, hc0⟩ := hsb rfl
          have h0 : w.cell? ⟨b, off, none⟩ = some (.int .u8 (c0.toNat : Int)) := HC.out 0 (by simp)
          rcases hc0 with rfl | rfl
          · have h0' : w.cell? ⟨b, off, none⟩ = some (.int .u8 43) := h0
            clear h0
            go_wp2
            go_meet
            case rel => exact ⟨rfl, [43], false, 1, by simp, rfl, .inr (.inl ⟨rfl, rfl⟩), rfl, rfl⟩
          · have h0' : w.cell? ⟨b, off, none⟩ = some (.int .u8 45) := h0
            clear h0
            go_wp2
            go_meet
            case rel => exact ⟨rfl, [45], true, 1, by simp, rfl, .inr (.inr ⟨rfl, rfl⟩), rfl, rfl⟩
    case rest =>
      obtain ⟨rfl, sg, neg, k0, hk0, ht, hsg, rfl, rfl⟩ := hcut
      have HT : Hid (l.take k0 = sg) := ht
      clear ht hsb
      go_upto_block 0 with (first | (at_make; refine wpList_make_own _ rfl _ _ 22 rfl w.heap.size 5 i0 (.int .u8 0) 1 Tryd.underlying22 hi hz0 hz1 .i64 .i64 l.length l.length rfl rfl rfl (by rw [hz2]; omega) (by unfold maxLen; omega) (Nat.le_refl _) ?_; intro w1 hown hgr) | fail)
      have hb1 : Below w.heap.size w w1 := (Below.refl _ _).grown hgr (Nat.le_refl _) (fun _ h => by cases h)
      clear hgr
      go_cut [7, 9, 10] (fun i mv p wr => ∃ k u m pt, MI w wr l sg k u m pt ∧ i = .int .i64 (k : Nat) ∧ mv = .slice (some ⟨w.heap.size, 0, none⟩) m.length l.length ∧ p = .int .i64 pt)
      case first =>
        as_aux_lemma =>
          go_wp2_with fail
          go_loopg [7, 9, 10] (l.length - k0) (fun g i mv p wr => ∃ k u m pt, g = l.length - k ∧ MI w wr l sg k u m pt ∧ i = .int .i64 (k : Nat) ∧ mv = .slice (some ⟨w.heap.size, 0, none⟩) m.length l.length ∧ p = .int .i64 pt)
          case atStart => exact ⟨k0, [], [], -1, rfl, ⟨hk0, by simpa using HT.out, Mant.nil, by simp, hown, hb1⟩, rfl, rfl, rfl⟩
          case round =>
            obtain ⟨k, u, m, pt, rfl, hM, rfl, rfl, rfl⟩ := hrel
            have hkn := hM.1
            have hml := hM.2.2.2.1
            have hpt := hM.2.2.1.lt
            have HM : Hid (MI w wr l sg k u m pt) := hM
            clear hM hown hb1
            by_cases hlt : k < l.length
            · obtain ⟨x, hcx, hx256, HX⟩ := HC.out.at_ hb HM.out.2.2.2.2.2 k hlt
              by_cases hd : 48 ≤ x ∧ x ≤ 57
              · obtain ⟨hd1, hd2⟩ := hd
                have hsz := HM.out.2.2.2.2.2.size
                have HO : Hid (wr.ownsRow w.heap.size 5 1 (.slice (some ⟨w.heap.size, 0, none⟩) m.length l.length) m.length (bvs m)) := HM.out.2.2.2.2.1
                go_wp2_with (first | (at_builtin; go_must (refine wpList_append_fits _ rfl (.tmp 57) (.tmp 59) 22 rfl w.heap.size 5 i0 1 Tryd.underlying22 hi hz1 w.heap.size m.length l.length (bvs m) rfl (World.ownsRow.alloc HO.out _) ⟨wr.heap.size, 0, none⟩ 1 1 [.int .u8 (x : Int)] rfl rfl (cell_one_new _ _ _) (by simp [Value.oneCell']) (by omega) ?_); intro w1 hown1 hgr1) | fail)
                have R := HM.out.digit (o := _) hlt (by rw [← HX.out]; exact hd1) (by rw [← HX.out]; exact hd2) (by rw [← HX.out]; exact hown1) hgr1
                go_roundg (l.length - (k + 1))
                case measure => omega
                case rel => exact ⟨k + 1, _, _, pt, rfl, R, by go_num, by simp, rfl⟩
              · by_cases hdot : x = 46 ∧ pt < 0
                · obtain ⟨rfl, hp⟩ := hdot
                  have R := HM.out.dot hlt HX.out.symm hp
                  have HR : Hid _ := R
                  clear R
                  go_wp2
                  go_roundg (l.length - (k + 1))
                  case measure => omega
                  case rel => exact ⟨k + 1, _, _, _, rfl, HR.out, by go_num, rfl, rfl⟩
                · have hd' : x < 48 ∨ 57 < x := by omega
                  by_cases h46 : x = 46
                  · subst h46
                    have hp : ¬ pt < 0 := fun h => hdot ⟨rfl, h⟩
                    go_wp2
                    go_meet
                    case rel => exact ⟨k, u, m, pt, HM.out, rfl, rfl, rfl⟩
                  · have e1 : ((x : Int) == 46) = false := beq_eq_false_iff_ne.2 (by omega)
                    rcases hd' with h48 | h57
                    all_goals
                      go_wp2
                      go_meet
                      case rel => exact ⟨k, u, m, pt, HM.out, rfl, rfl, rfl⟩
            · go_wp2
              go_meet
              case rel => exact ⟨k, u, m, pt, HM.out, rfl, rfl, rfl⟩
      case rest =>
        obtain ⟨k, u, m, pt, hM, rfl, rfl, rfl⟩ := hcut
        obtain ⟨w2, hw2⟩ : ∃ x, x = wc := ⟨_, rfl⟩
        subst hw2
        have HM : Hid (MI w w2 l sg k u m pt) := hM
        have hkn := hM.1
        have hml := hM.2.2.2.1
        have hpt := hM.2.2.1.lt
        clear hM hown hb1 HT
        by_cases hm0 : m = []
        · skip
          as_aux_lemma =>
            subst hm0
            go_wp2
            exact bodyPost_ret (v := .tuple #[.bool false, .slice none 0 0, .int .i64 0, .int .i64 0, .bool false]) (by simp [results, Tryd.results8, go_sem]) rfl ⟨HM.out.2.2.2.2.2, .inl rfl⟩
        · have hm1 : 0 < m.length := List.length_pos_iff.2 hm0
          have e0 : ((m.length : Int) == 0) = false := beq_eq_false_iff_ne.2 (by omega)
          have HM0 : Hid (m ≠ []) := hm0
          clear hm0
          go_upto_if 77 with fail
          go_cut [10] (fun p wx => w2 = wx ∧ ∃ pf, MantF u m pf ∧ p = .int .i64 pf)
          case first =>
            have hfin := HM.out.2.2.1.fin
            by_cases hp : pt < 0
            · rw [if_pos hp] at hfin
              have HF : Hid (MantF u m (m.length : Int)) := hfin
              clear hfin
              go_wp2
              go_meet
              case rel => exact ⟨rfl, _, HF.out, rfl⟩
            · rw [if_neg hp] at hfin
              have HF : Hid (MantF u m pt) := hfin
              clear hfin
              go_wp2
              go_meet
              case rel => exact ⟨rfl, _, HF.out, rfl⟩
          case rest =>
            obtain ⟨rfl, pf, hF, rfl⟩ := hcut
            have HF : Hid (MantF u m pf) := hF
            have hpf := hF.lt
            clear hF
            go_upto_region 21 with fail
            go_cut [97] (fun s wx => ∃ eb : Bool, s = .bool eb ∧ w2 = wx ∧ (eb = true → ∃ h : k < l.length, l[k] = 101 ∨ l[k] = 69))
            case first =>
              as_aux_lemma =>
                by_cases hlt : k < l.length
                · obtain ⟨x, hcx, hx256, HX⟩ := HC.out.at_ hb HM.out.2.2.2.2.2 k hlt
                  by_cases h1 : x = 101
                  · subst h1
                    go_wp2
                    go_meet
                    case rel => exact ⟨true, rfl, rfl, fun _ => ⟨hlt, .inl (UInt8.toNat_inj.1 HX.out.symm)⟩⟩
                  · have e1 : ((x : Int) == 101) = false := beq_eq_false_iff_ne.2 (by omega)
                    by_cases h2 : x = 69
                    · subst h2
                      go_wp2
                      go_meet
                      case rel => exact ⟨true, rfl, rfl, fun _ => ⟨hlt, .inr (UInt8.toNat_inj.1 HX.out.symm)⟩⟩
                    · have e2 : ((x : Int) == 69) = false := beq_eq_false_iff_ne.2 (by omega)
                      go_wp2
                      go_meet
                      case rel => exact ⟨false, rfl, rfl, by simp⟩
                · go_wp2
                  go_meet
                  case rel => exact ⟨false, rfl, rfl, by simp⟩
            case rest =>
              obtain ⟨eb, rfl, rfl, heb⟩ := hcut
              go_upto_if 97 with fail
              go_cut [7, 12] (fun i ev wx => w2 = wx ∧ ∃ k2 X exp, k2 ≤ l.length ∧ l.take k2 = sg ++ (u ++ X) ∧ ExpOk X exp ∧ i = .int .i64 (k2 : Nat) ∧ ev = .int .i64 exp)
              case first =>
                cases eb with
                | false =>
                  go_wp2
                  go_meet
                  case rel => exact ⟨rfl, k, [], 0, hkn, by simpa using HM.out.2.1, .inl ⟨rfl, rfl⟩, rfl, rfl⟩
                | true =>
                  obtain ⟨hlt, hck⟩ := heb rfl
                  have HK : Hid (l[k] = 101 ∨ l[k] = 69) := hck
                  clear heb hck
                  go_upto_region 24 with fail
                  go_cut [117] (fun s wx => ∃ esb : Bool, s = .bool esb ∧ w2 = wx ∧ (esb = true → ∃ h : k + 1 < l.length, l[k + 1] = 43 ∨ l[k + 1] = 45))
                  case first =>
                    as_aux_lemma =>
                      by_cases hlt1 : k + 1 < l.length
                      · obtain ⟨x, hcx, hx256, HX⟩ := HC.out.at_ hb HM.out.2.2.2.2.2 (k + 1) hlt1
                        by_cases h1 : x = 43
                        · subst h1
                          go_wp2
                          go_meet
                          case rel => exact ⟨true, rfl, rfl, fun _ => ⟨hlt1, .inl (UInt8.toNat_inj.1 HX.out.symm)⟩⟩
                        · have e1 : ((x : Int) == 43) = false := beq_eq_false_iff_ne.2 (by omega)
                          by_cases h2 : x = 45
                          · subst h2
                            go_wp2
                            go_meet
                            case rel => exact ⟨true, rfl, rfl, fun _ => ⟨hlt1, .inr (UInt8.toNat_inj.1 HX.out.symm)⟩⟩
                          · have e2 : ((x : Int) == 45) = false := beq_eq_false_iff_ne.2 (by omega)
                            go_wp2
                            go_meet
                            case rel => exact ⟨false, rfl, rfl, by simp⟩
                      · go_wp2
                        go_meet
                        case rel => exact ⟨false, rfl, rfl, by simp⟩
                  case rest =>
                    obtain ⟨esb, rfl, rfl, hesb⟩ := hcut
                    go_upto_if 117 with fail
                    go_cut [7, 13] (fun i ng wx => w2 = wx ∧ ∃ es eneg ks, ks ≤ l.length ∧ l.take ks = sg ++ (u ++ (l[k] :: es)) ∧ ESgn es eneg ∧ i = .int .i64 (ks : Nat) ∧ ng = .bool eneg)
                    case first =>
                      as_aux_lemma =>
                        cases esb with
                        | false =>
                          go_wp2
                          go_meet
                          case rel => exact ⟨rfl, [], false, k + 1, by omega, by rw [take_snoc l k hlt, HM.out.2.1]; simp, .inl ⟨rfl, rfl⟩, by go_num, rfl⟩
                        | true =>
                          obtain ⟨hlt1, hc1⟩ := hesb rfl
                          obtain ⟨x, hcx, hx256, HX⟩ := HC.out.at_ hb HM.out.2.2.2.2.2 (k + 1) hlt1
                          rcases hc1 with hc1 | hc1
                          · obtain rfl : x = 43 := by rw [HX.out, hc1]; rfl
                            have HT2 : Hid (l.take (k + 1 + 1) = sg ++ (u ++ (l[k] :: [43]))) := by rw [Hid, take_snoc l (k + 1) hlt1, take_snoc l k hlt, HM.out.2.1, hc1]; simp
                            clear hc1
                            go_wp2
                            go_meet
                            case rel => exact ⟨rfl, [43], false, k + 1 + 1, by omega, HT2.out, .inr (.inl ⟨rfl, rfl⟩), by go_num, rfl⟩
                          · obtain rfl : x = 45 := by rw [HX.out, hc1]; rfl
                            have HT2 : Hid (l.take (k + 1 + 1) = sg ++ (u ++ (l[k] :: [45]))) := by rw [Hid, take_snoc l (k + 1) hlt1, take_snoc l k hlt, HM.out.2.1, hc1]; simp
                            clear hc1
                            go_wp2
                            go_meet
                            case rel => exact ⟨rfl, [45], true, k + 1 + 1, by omega, HT2.out, .inr (.inr ⟨rfl, rfl⟩), by go_num, rfl⟩
                    case rest =>
                      obtain ⟨rfl, es, eneg, ks, hks, ht2, hes, rfl, rfl⟩ := hcut
                      have HT2 : Hid (l.take ks = sg ++ (u ++ (l[k] :: es))) := ht2
                      clear ht2 hesb
                      go_upto_block 2 with fail
                      go_cut [7, 12] (fun i ev wr => ∃ k2 D E, k2 ≤ l.length ∧ ks ≤ k2 ∧ Hid (k2 = ks + D.length ∧ l.take k2 = sg ++ (u ++ (l[k] :: (es ++ D))) ∧ dgs D ∧ E = ecap D) ∧ w2 = wr ∧ i = .int .i64 (k2 : Nat) ∧ ev = .int .i64 E)
                      case first =>
                        as_aux_lemma =>
                          go_wp2_with fail
                          go_loopg [7, 12] (l.length - ks) (fun g i ev wr => ∃ k2 D E, g = l.length - k2 ∧ k2 ≤ l.length ∧ ks ≤ k2 ∧ Hid (k2 = ks + D.length ∧ l.take k2 = sg ++ (u ++ (l[k] :: (es ++ D))) ∧ dgs D ∧ E = ecap D) ∧ w2 = wr ∧ i = .int .i64 (k2 : Nat) ∧ ev = .int .i64 E)
                          case atStart => exact ⟨ks, [], 0, rfl, hks, Nat.le_refl _, ⟨by simp, by simpa using HT2.out, fun _ h => by simp at h, ecap_nil.symm⟩, rfl, rfl, rfl⟩
                          case round =>
                            obtain ⟨k2, D, E, rfl, hk2, hks2, HT3, rfl, rfl, rfl⟩ := hrel
                            have hE12 : 0 ≤ E ∧ E ≤ 10995116277769 := by rw [HT3.out.2.2.2]; exact ecap_bd D HT3.out.2.2.1
                            obtain ⟨hE1, hE2⟩ := hE12
                            by_cases hlt2 : k2 < l.length
                            · obtain ⟨x, hcx, hx256, HX⟩ := HC.out.at_ hb HM.out.2.2.2.2.2 k2 hlt2
                              by_cases hd1 : x < 48
                              · go_wp2
                                go_meet
                                case rel => exact ⟨k2, D, E, hk2, hks2, HT3, rfl, rfl, rfl⟩
                              · by_cases hd2 : 57 < x
                                · go_wp2
                                  go_meet
                                  case rel => exact ⟨k2, D, E, hk2, hks2, HT3, rfl, rfl, rfl⟩
                                · have HN : Hid (k2 + 1 = ks + (D ++ [l[k2]]).length ∧ l.take (k2 + 1) = sg ++ (u ++ (l[k] :: (es ++ (D ++ [l[k2]])))) ∧ dgs (D ++ [l[k2]]) ∧ (if E < 1099511627776 then E * 10 + ((x : Int) - 48) else E) = ecap (D ++ [l[k2]])) := by
                                    refine ⟨by have := HT3.out.1; simp; omega, by rw [take_snoc l k2 hlt2, HT3.out.2.1]; simp, fun y hy => ?_, ?_⟩
                                    · rcases List.mem_append.1 hy with hy | hy
                                      · exact HT3.out.2.2.1 y hy
                                      · simp at hy; subst hy; rw [← HX.out]; omega
                                    · have : (dgv l[k2] : Int) = (x : Int) - 48 := by rw [HX.out]; unfold dgv; have := HX.out; omega
                                      rw [ecap_snoc, this, ← HT3.out.2.2.2]
                                  by_cases hE : E < 1099511627776
                                  · have HN2 : Hid (k2 + 1 = ks + (D ++ [l[k2]]).length ∧ l.take (k2 + 1) = sg ++ (u ++ (l[k] :: (es ++ (D ++ [l[k2]])))) ∧ dgs (D ++ [l[k2]]) ∧ E * 10 + ((x : Int) - 48) = ecap (D ++ [l[k2]])) := by
                                      have := HN.out; rw [if_pos hE] at this; exact this
                                    clear HN
                                    go_wp2
                                    go_roundg (l.length - (k2 + 1))
                                    case measure => omega
                                    case rel => exact ⟨k2 + 1, D ++ [l[k2]], _, rfl, by omega, by omega, HN2, rfl, by go_num, rfl⟩
                                  · have HN2 : Hid (k2 + 1 = ks + (D ++ [l[k2]]).length ∧ l.take (k2 + 1) = sg ++ (u ++ (l[k] :: (es ++ (D ++ [l[k2]])))) ∧ dgs (D ++ [l[k2]]) ∧ E = ecap (D ++ [l[k2]])) := by
                                      have := HN.out; rw [if_neg hE] at this; exact this
                                    clear HN
                                    go_wp2
                                    go_roundg (l.length - (k2 + 1))
                                    case measure => omega
                                    case rel => exact ⟨k2 + 1, D ++ [l[k2]], _, rfl, by omega, by omega, HN2, rfl, by go_num, rfl⟩
                            · go_wp2
                              go_meet
                              case rel => exact ⟨k2, D, E, hk2, hks2, HT3, rfl, rfl, rfl⟩
                      case rest =>
                        obtain ⟨k2, D, E, hk2, hks2, HT3, rfl, rfl, rfl⟩ := hcut
                        have hE12 : 0 ≤ E ∧ E ≤ 10995116277769 := by rw [HT3.out.2.2.2]; exact ecap_bd D HT3.out.2.2.1
                        obtain ⟨hE1, hE2⟩ := hE12
                        as_aux_lemma =>
                          by_cases hD0 : D = []
                          · have hkk : k2 = ks := by rw [HT3.out.1, hD0]; rfl
                            clear hD0
                            subst hkk
                            go_wp2
                            exact bodyPost_ret (v := .tuple #[.bool false, .slice none 0 0, .int .i64 0, .int .i64 0, .bool false]) (by simp [results, Tryd.results8, go_sem]) rfl ⟨HM.out.2.2.2.2.2, .inl rfl⟩
                          · have hDl : 0 < D.length := List.length_pos_iff.2 hD0
                            have e3 : ((k2 : Int) == (ks : Int)) = false := beq_eq_false_iff_ne.2 (by have := HT3.out.1; omega)
                            have HX1 : Hid (ExpOk (l[k] :: (es ++ D)) (if eneg then - capE D else capE D)) := .inr ⟨l[k], es, D, eneg, rfl, HK.out, hes, HT3.out.2.2.1, hD0, rfl⟩
                            have hcb := capE_bd D
                            obtain ⟨F, HF3⟩ : ∃ F, Hid (F = capE D) := ⟨_, rfl⟩
                            rw [← HF3.out] at HX1 hcb
                            clear hD0
                            go_upto_if 161 with fail
                            go_cut [12] (fun ev wx => w2 = wx ∧ ev = .int .i64 F)
                            case first =>
                              by_cases hcp : 1099511627776 < E
                              · have HQ : Hid (F = 1099511627776) := HF3.out.trans (capE_hi D HT3.out.2.2.1 (by rw [← HT3.out.2.2.2]; exact hcp))
                                go_wp2
                                go_meet
                                case rel => exact ⟨rfl, congrArg (Value.int .i64) HQ.out.symm⟩
                              · have HQ : Hid (F = E) := HF3.out.trans ((capE_lo D HT3.out.2.2.1 (by rw [← HT3.out.2.2.2]; exact hcp)).trans HT3.out.2.2.2.symm)
                                go_wp2
                                go_meet
                                case rel => exact ⟨rfl, congrArg (Value.int .i64) HQ.out.symm⟩
                            case rest =>
                              obtain ⟨rfl, rfl⟩ := hcut
                              cases eneg with
                              | false =>
                                go_wp2
                                go_meet
                                case rel => exact ⟨rfl, k2, _, F, hk2, HT3.out.2.1, HX1.out, rfl, rfl⟩
                              | true =>
                                go_wp2
                                go_meet
                                case rel => exact ⟨rfl, k2, _, -F, hk2, HT3.out.2.1, HX1.out, rfl, rfl⟩
              case rest =>
                obtain ⟨rfl, k2, X, exp, hk2, ht3, hX, rfl, rfl⟩ := hcut
                have HT3 : Hid (l.take k2 = sg ++ (u ++ X)) := ht3
                have HX : Hid (ExpOk X exp) := hX
                have hxb := hX.bd
                clear ht3 hX heb
                by_cases hfin : k2 = l.length
                · have HF2 : Hid (IsDec l neg m pf exp) := by
                    refine ⟨sg, u, X, ?_, hsg, HF.out, HM0.out, HX.out⟩
                    have := HT3.out
                    rw [hfin, List.take_length] at this
                    exact this
                  subst hfin
                  go_wp2
                  exact bodyPost_ret (v := .tuple #[.bool neg, .slice (some ⟨w.heap.size, 0, none⟩) m.length l.length, .int .i64 pf, .int .i64 exp, .bool true]) (by simp [results, Tryd.results8, go_sem]) rfl ⟨HM.out.2.2.2.2.2, .inr ⟨neg, m, pf, exp, rfl, HM.out.2.2.2.2.1, HF2.out⟩⟩
                · have e4 : ((k2 : Int) != (l.length : Int)) = true := by rw [bne_iff_ne]; omega
                  go_wp2
                  exact bodyPost_ret (v := .tuple #[.bool false, .slice none 0 0, .int .i64 0, .int .i64 0, .bool false]) (by simp [results, Tryd.results8, go_sem]) rfl ⟨HM.out.2.2.2.2.2, .inl rfl⟩
end Go.Proofs.Qxb6606353aDoor
