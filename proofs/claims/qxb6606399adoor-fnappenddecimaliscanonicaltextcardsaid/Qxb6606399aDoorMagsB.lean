import Derived.Test.Qxb6606399aDoorMags
import Derived.Deep.OwnRows
namespace Go.Proofs.Qxb6606399aDoor
open Go.RowKit

/-- A row whose last bytes are known. -/
def TailAt (w : World) (g cap : Nat) (R : List UInt8) : Prop := ∃ F, w.rowIs g 5 cap F ∧ R.length ≤ cap ∧ ∀ j (hj : j < R.length), F (cap - R.length + j) = bv R[j]
theorem TailAt.put {w : World} {g cap : Nat} {R : List UInt8} (h : TailAt w g cap R) (d : UInt8) (hc : R.length + 1 ≤ cap) (z : Int) (hz : z = (d.toNat : Int)) (i : Nat) (hi : i + (R.length + 1) = cap) : TailAt (w.setCell ⟨g, i, none⟩ (.int .u8 z)) g cap (d :: R) := by
  obtain ⟨F, h1, h2, h3⟩ := h
  refine ⟨_, h1.set i _, by rw [List.length_cons]; exact hc, fun j hj => ?_⟩
  rw [List.length_cons] at hj ⊢
  cases j with
  | zero =>
    rw [if_pos (by omega), hz]
    rfl
  | succ j =>
    rw [if_neg (by omega)]
    have := h3 j (by omega)
    rw [show cap - (R.length + 1) + (j + 1) = cap - R.length + j by omega, this]
    rfl
theorem TailAt.full {w : World} {g cap : Nat} {R : List UInt8} (h : TailAt w g cap R) (hc : R.length = cap) : CellsL w g 0 R := fun i hi => by
  obtain ⟨F, h1, h2, h3⟩ := h
  have := h3 i hi
  rw [show cap - R.length + i = i by omega] at this
  rw [Nat.zero_add, h1.cell (by omega), this]
  rfl
theorem TailAt.at_ {w : World} {g cap : Nat} {R : List UInt8} (h : TailAt w g cap R) (i : Nat) (hi : i < cap) : w.frozen? ⟨g, i, none⟩ = false ∧ ∃ u, w.cell? ⟨g, i, none⟩ = some u := by
  obtain ⟨F, h1, _, _⟩ := h
  exact ⟨h1.frozen i, F i, h1.cell hi⟩
theorem tail_made {w : World} {g n : Nat} (h : w.heap[g]? = some (.cells (List.replicate n (Value.int .u8 0)).toArray 5 (0, 0))) : TailAt w g n [] :=
  ⟨fun _ => .int .u8 0, ⟨_, h, by simp, fun i hi => by simp [hi]⟩, Nat.zero_le _, fun j hj => by simp at hj⟩

/-- What a magnitude comes back as: a slice of a fresh row. -/
def MagEnd (N : Nat) (w : World) (e : Ending) (w' : World) : Prop :=
  ∃ o' c', e = .returned (.slice (some ⟨w.heap.size, o', none⟩) (mag N).length c') ∧ Hid (CellsL w' w.heap.size o' (mag N)) ∧ (mag N).length ≤ c' ∧ c' ≤ 16777216 ∧ w.heap.size < w'.heap.size ∧ Below w.heap.size w w'

set_option maxRecDepth 100000 in
set_option maxHeartbeats 4000000 in
theorem add_call (p q : Option Addr) (c d : Nat) (l m : List UInt8) (hl : l.length ≤ 4194304) (hm : m.length ≤ 4194304) (w : World) (h1 : At w p l) (h2 : At w q m) (hdl : AllDig l) (hdm : AllDig m) :
    Calls Tryd.prog 26 #[.slice p l.length c, .slice q m.length d] w (MagEnd (valN l + valN m) w) := by
  obtain ⟨i0, hi0, hz0, hz1, hz2⟩ := info_parts Tryd.info5
  have H1 := hide h1
  have H2 := hide h2
  have HDl := hide hdl
  have HDm := hide hdm
  clear h1 h2 hdl hdm
  obtain ⟨n, hn⟩ : ∃ n, Hid (n = max l.length m.length) := ⟨_, rfl⟩
  have hn1 : l.length ≤ n := by rw [hn.out]; omega
  have hn2 : m.length ≤ n := by rw [hn.out]; omega
  have hn3 : n ≤ 4194304 := by rw [hn.out]; omega
  go_enter Tryd.func26, Tryd.ntmps26
  go_upto_if 15 with fail
  go_cut [5] (fun nv wx => nv = .int .i64 (n : Nat) ∧ w = wx)
  case first =>
    by_cases h : l.length < m.length
    · have e : m.length = n := by rw [hn.out]; omega
      have hz : (l.length : Int) < (m.length : Int) := by omega
      have E := hide e
      clear e
      go_wp2_with fail
      go_meet
      case rel => exact ⟨by rw [unhide E], rfl⟩
    · have e : l.length = n := by rw [hn.out]; omega
      have hz : ¬ ((l.length : Int) < (m.length : Int)) := by omega
      have E := hide e
      clear e
      go_wp2_with fail
      go_meet
      case rel => exact ⟨by rw [unhide E], rfl⟩
  case rest =>
    obtain ⟨rfl, rfl⟩ := hcut
    go_upto_region 5 with (first | (at_make; refine wpList_make_full _ rfl _ _ 22 rfl w.heap.size 5 i0 (.int .u8 0) 1 Tryd.underlying22 hi0 hz0 hz1 .i64 .i64 ((n : Int) + 1) ((n : Int) + 1) (n + 1) rfl rfl (by omega) (by omega) (by rw [hz2]; omega) (by unfold maxLen; omega) (Nat.le_refl _) ?_; intro w1 hown hgr) | fail)
    rw [show (madeCells (Value.int IntKind.u8 0).cells ((n + 1) * 1)).toList = List.replicate (n + 1) (Value.int .u8 0) from by rw [Nat.mul_one]; exact toList_madeCells_one _ _] at hown
    have hb1 : Below w.heap.size w w1 := (Below.refl _ _).grown hgr (Nat.le_refl _) (fun _ h => by cases h)
    have HR1 := hide (tail_made (owns_block hown))
    clear hown hgr
    go_wp2_with fail
    go_loopg [8, 7] n (fun gg kv cv wr => ∃ (k cc : Nat) (R : List UInt8), gg = n - k ∧ k ≤ n ∧ kv = .int .i64 (k : Nat) ∧ cv = .int .i64 (cc : Nat) ∧ cc ≤ 1 ∧ Hid (R.length = k ∧ AllDig R ∧ valN R + cc * 10 ^ k = low l k + low m k) ∧ Hid (TailAt wr w.heap.size (n + 1) R) ∧ Below w.heap.size w wr)
    case atStart => exact ⟨0, 0, [], rfl, Nat.zero_le _, rfl, rfl, by omega, ⟨rfl, .nil, by rw [low_zero, low_zero]; rfl⟩, HR1, hb1⟩
    case round =>
      obtain ⟨k, cc, R, rfl, hk, rfl, rfl, hcc, HV, HR, hbr⟩ := hrel
      by_cases hlt : k < n
      · have hltz : (k : Int) < (n : Int) := by omega
        obtain ⟨A, hA⟩ : ∃ A, Hid (A = digAt l k) := ⟨_, rfl⟩
        obtain ⟨D, hD⟩ : ∃ D, Hid (D = digAt m k) := ⟨_, rfl⟩
        have hA9 : A ≤ 9 := by rw [hA.out]; exact digAt_lt l k (unhide HDl)
        have hD9 : D ≤ 9 := by rw [hD.out]; exact digAt_lt m k (unhide HDm)
        go_upto_if 30 with fail
        go_cut [9] (fun sv wx => sv = .int .i64 ((cc + A : Nat) : Int) ∧ wr = wx)
        case first =>
          as_aux_lemma =>
            by_cases hkl : k < l.length
            · obtain ⟨b, off, rfl, hcl⟩ := (unhide H1) (by omega)
              obtain ⟨i, hi⟩ : ∃ i, Hid (i = l.length - 1 - k) := ⟨_, rfl⟩
              have hil : i < l.length := by rw [hi.out]; omega
              have hiz : (l.length : Int) - 1 - (k : Int) = (i : Int) := by have := hi.out; omega
              obtain ⟨x, hx, _, HX⟩ := hcl.at_ hcl.lt hbr i hil
              have hdx := (digB_iff _).1 ((unhide HDl) l[i] (List.getElem_mem hil))
              rw [← HX.out] at hdx
              have hAx : A = x - 48 := by
                rw [hA.out, HX.out]
                unfold digAt
                rw [dif_pos hkl]
                have := hi.out
                simp only [← this]
              have hkz : (k : Int) < (l.length : Int) := by omega
              have HAx := hide hAx
              clear hAx hcl
              go_wp2_with fail
              go_meet
              case rel => exact ⟨by congr 1; rw [unhide HAx]; omega, rfl⟩
            · have hA0 : A = 0 := by rw [hA.out]; unfold digAt; rw [dif_neg hkl]
              have hkz : ¬ ((k : Int) < (l.length : Int)) := by omega
              subst hA0
              go_wp2_with fail
              go_meet
              case rel => exact ⟨by congr 1, rfl⟩
        case rest =>
          obtain ⟨rfl, rfl⟩ := hcut
          go_upto_if 46 with fail
          go_cut [9] (fun sv wx => sv = .int .i64 ((cc + A + D : Nat) : Int) ∧ wr = wx)
          case first =>
            as_aux_lemma =>
              by_cases hkl : k < m.length
              · obtain ⟨b, off, rfl, hcl⟩ := (unhide H2) (by omega)
                obtain ⟨i, hi⟩ : ∃ i, Hid (i = m.length - 1 - k) := ⟨_, rfl⟩
                have hil : i < m.length := by rw [hi.out]; omega
                have hiz : (m.length : Int) - 1 - (k : Int) = (i : Int) := by have := hi.out; omega
                obtain ⟨x, hx, _, HX⟩ := hcl.at_ hcl.lt hbr i hil
                have hdx := (digB_iff _).1 ((unhide HDm) m[i] (List.getElem_mem hil))
                rw [← HX.out] at hdx
                have hDx : D = x - 48 := by
                  rw [hD.out, HX.out]
                  unfold digAt
                  rw [dif_pos hkl]
                  have := hi.out
                  simp only [← this]
                have hkz : (k : Int) < (m.length : Int) := by omega
                have HDx := hide hDx
                clear hDx hcl
                go_wp2_with fail
                go_meet
                case rel => exact ⟨by congr 1; rw [unhide HDx]; omega, rfl⟩
              · have hD0 : D = 0 := by rw [hD.out]; unfold digAt; rw [dif_neg hkl]
                have hkz : ¬ ((k : Int) < (m.length : Int)) := by omega
                subst hD0
                go_wp2_with fail
                go_meet
                case rel => exact ⟨by congr 1, rfl⟩
          case rest =>
            obtain ⟨rfl, rfl⟩ := hcut
            obtain ⟨s, hs⟩ : ∃ s, Hid (s = cc + A + D) := ⟨_, rfl⟩
            rw [← hs.out]
            have hs19 : s ≤ 19 := by rw [hs.out]; omega
            obtain ⟨r, hr⟩ : ∃ r, Hid (r = s % 10) := ⟨_, rfl⟩
            obtain ⟨t, ht⟩ : ∃ t, Hid (t = s / 10) := ⟨_, rfl⟩
            have hmod : (s : Int).tmod 10 = (r : Int) := by rw [hr.out, Int.tmod_eq_emod_of_nonneg (by omega)]; omega
            have hdiv : (s : Int).tdiv 10 = (t : Int) := by rw [ht.out, Int.tdiv_eq_ediv_of_nonneg (by omega)]; omega
            have hr9 : r ≤ 9 := by rw [hr.out]; omega
            have ht1 : t ≤ 1 := by rw [ht.out]; omega
            obtain ⟨x, hx⟩ : ∃ x : UInt8, Hid (x = UInt8.ofNat (48 + r)) := ⟨_, rfl⟩
            have hxn : Hid (x.toNat = 48 + r) := by rw [Hid, hx.out]; exact digit_nat r (by omega)
            obtain ⟨i, hi⟩ : ∃ i, Hid (i = n - k) := ⟨_, rfl⟩
            have hiz : (n : Int) - (k : Int) = (i : Int) := by have := hi.out; omega
            have hin : i < n + 1 := by rw [hi.out]; omega
            obtain ⟨hfz, u, hcu⟩ := (unhide HR).at_ i hin
            have HRn : Hid (TailAt (wr.setCell ⟨w.heap.size, i, none⟩ (.int .u8 (48 + (r : Int)))) w.heap.size (n + 1) (x :: R)) :=
              (unhide HR).put x (by rw [(unhide HV).1]; omega) _ (by rw [unhide hxn]; omega) i (by rw [(unhide HV).1, hi.out]; omega)
            have HVn : Hid ((x :: R).length = k + 1 ∧ AllDig (x :: R) ∧ valN (x :: R) + t * 10 ^ (k + 1) = low l (k + 1) + low m (k + 1)) := by
              refine ⟨by rw [List.length_cons, (unhide HV).1], .cons ((digB_iff x).2 (by rw [unhide hxn]; omega)) (unhide HV).2.1, ?_⟩
              rw [ht.out]
              exact add_step l m R k cc (unhide HV).2.2 (unhide HV).1 s (by rw [hs.out, hA.out, hD.out]) x (by rw [unhide hxn, hr.out])
            have hbn : Below w.heap.size w (wr.setCell ⟨w.heap.size, i, none⟩ (.int .u8 (48 + (r : Int)))) := hbr.setCell (Nat.le_refl _) _
            clear HR HV
            go_wp2_with fail
            go_roundg (n - (k + 1))
            case measure => omega
            case rel => exact ⟨k + 1, t, x :: R, rfl, by omega, by go_num, rfl, ht1, HVn, HRn, hbn⟩
      · obtain rfl : k = n := by omega
        have hnz : ¬ ((k : Int) < (k : Int)) := by omega
        obtain ⟨x, hx⟩ : ∃ x : UInt8, Hid (x = UInt8.ofNat (48 + cc)) := ⟨_, rfl⟩
        have hxn : Hid (x.toNat = 48 + cc) := by rw [Hid, hx.out]; exact digit_nat cc (by omega)
        obtain ⟨hfz, u, hcu⟩ := (unhide HR).at_ 0 (by omega)
        have HRn : Hid (TailAt (wr.setCell ⟨w.heap.size, 0, none⟩ (.int .u8 (48 + (cc : Int)))) w.heap.size (k + 1) (x :: R)) :=
          (unhide HR).put x (by rw [(unhide HV).1]; omega) _ (by rw [unhide hxn]; omega) 0 (by rw [(unhide HV).1]; omega)
        have hbn : Below w.heap.size w (wr.setCell ⟨w.heap.size, 0, none⟩ (.int .u8 (48 + (cc : Int)))) := hbr.setCell (Nat.le_refl _) _
        have hlen : (x :: R).length = k + 1 := by rw [List.length_cons, (unhide HV).1]
        have hdg : AllDig (x :: R) := .cons ((digB_iff x).2 (by rw [unhide hxn]; omega)) (unhide HV).2.1
        have hval : valN (x :: R) = valN l + valN m := by
          have h3 := (unhide HV).2.2
          rw [low_all l k hn1, low_all m k hn2] at h3
          rw [valN_cons, (unhide HV).1, unhide hxn, show 48 + cc - 48 = cc by omega]
          omega
        have hlt' : w.heap.size < (wr.setCell ⟨w.heap.size, 0, none⟩ (.int .u8 (48 + (cc : Int)))).heap.size := by obtain ⟨_, h1, _⟩ := unhide HRn; exact h1.lt
        have HTz := hide (trimz_row w.heap.size 0 (k + 1) (x :: R) (by rw [hlen]; omega) (by rw [hlen]; omega) (by omega) _ ((unhide HRn).full hlen))
        rw [hlen, mag_tL _ hdg, hval] at HTz
        clear HR HV hlen hdg hval
        go_wp2_with fail
        refine (unhide HTz).mono ?_
        rintro e w9 ⟨o', c', rfl, HC9, hc9, hc9', rfl⟩
        go_wp2_with fail
        go_ret
        exact ⟨o', c', rfl, HC9, hc9, by omega, hlt', hbn⟩
end Go.Proofs.Qxb6606399aDoor
