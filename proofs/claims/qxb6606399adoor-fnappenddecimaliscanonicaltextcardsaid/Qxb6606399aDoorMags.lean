import Derived.Test.Qxb6606399aDoorSmall
import Derived.Test.Qxb6606399aDoorPlainE
namespace Go.Proofs.Qxb6606399aDoor
open Go.RowKit

theorem trimz_nil (w : World) : Calls Tryd.prog 16 #[.slice none 0 0] w fun e w' => e = .returned (.slice none 0 0) ∧ w = w' := by
  go_enter Tryd.func16, Tryd.ntmps16
  go_wp2
  refine wp_loop_rounds 1 ?_
  rw [rounds_succ]
  go_wp2
  go_ret
  exact ⟨rfl, rfl⟩
set_option maxHeartbeats 1000000 in
/-- trimLeadingZeros of a byte or more. -/
theorem trimz_row (b off c : Nat) (l : List UInt8) (h0 : 0 < l.length) (hl : l.length ≤ c) (hc : c ≤ 1073741824) (w : World) (hcl : CellsL w b off l) :
    Calls Tryd.prog 16 #[.slice (some ⟨b, off, none⟩) l.length c] w fun e w' => ∃ o' c', e = .returned (.slice (some ⟨b, o', none⟩) (tL l).length c') ∧ Hid (CellsL w b o' (tL l)) ∧ (tL l).length ≤ c' ∧ c' ≤ c ∧ w = w' := by
  have HC := hide hcl
  clear hcl
  go_enter Tryd.func16, Tryd.ntmps16
  go_wp2
  go_loopg [3] l.length (fun g kv wr => ∃ k : Nat, g = l.length - k ∧ k ≤ l.length ∧ kv = .int .i64 (k : Nat) ∧ Hid (tL l = tL (l.drop k)) ∧ w = wr)
  case atStart => exact ⟨0, rfl, Nat.zero_le _, rfl, rfl, rfl⟩
  case round =>
    obtain ⟨k, rfl, hk, rfl, HT, rfl⟩ := hrel
    by_cases hlt : k < l.length
    · obtain ⟨x, hx, HX⟩ : ∃ x : Nat, w.cell? ⟨b, off + k, none⟩ = some (.int .u8 (x : Int)) ∧ Hid (x = (l[k]).toNat) := ⟨(l[k]).toNat, (unhide HC) k hlt, rfl⟩
      have hltz : (k : Int) < (l.length : Int) := by omega
      by_cases h48 : l[k] = 48
      · obtain rfl : x = 48 := by rw [HX.out, h48]; rfl
        have HN : Hid (tL l = tL (l.drop (k + 1))) := by rw [Hid, HT.out, List.drop_eq_getElem_cons hlt, h48, tL_zero]
        clear h48
        go_wp2
        go_roundg (l.length - (k + 1))
        case measure => omega
        case rel => exact ⟨k + 1, rfl, by omega, by go_num, HN, rfl⟩
      · have hne : ((x : Int) == 48) = false := beq_eq_false_iff_ne.2 (fun e => h48 (UInt8.toNat_inj.1 (by rw [← HX.out]; show x = 48; omega)))
        have HN : Hid (tL l = l.drop k) := by rw [Hid, HT.out, List.drop_eq_getElem_cons hlt, tL_keep _ _ h48]
        have hck : ¬ (c = k) := by omega
        have hlen : (tL l).length = l.length - k := by rw [HN.out, List.length_drop]
        have HL := hide hlen
        clear hlen h48
        go_wp2
        go_ret
        exact ⟨off + k, c - k, by rw [unhide HL]; rfl, by rw [HN.out]; exact (unhide HC).drop k, by rw [unhide HL]; omega, by omega, rfl⟩
    · obtain rfl : k = l.length := by omega
      have HN : Hid (tL l = []) := by rw [Hid, HT.out, List.drop_length]; rfl
      by_cases hck : c = l.length
      · subst hck
        go_wp2
        go_ret
        exact ⟨off, 0, by rw [HN.out]; simp, by rw [HN.out]; exact fun i hi => by simp at hi, by rw [HN.out]; simp, by omega, rfl⟩
      · go_wp2
        go_ret
        exact ⟨off + l.length, c - l.length, by rw [HN.out]; simp, by rw [HN.out]; exact fun i hi => by simp at hi, by rw [HN.out]; simp, by omega, rfl⟩

/-- What compareMagnitudes answers. -/
def cmpZ (a b : List UInt8) : Int := if valN a < valN b then -1 else if valN b < valN a then 1 else 0
theorem cmp_empty (p q : Option Addr) (c d : Nat) (w : World) : Calls Tryd.prog 27 #[.slice p 0 c, .slice q 0 d] w fun e w' => e = .returned (.int .i64 0) ∧ w = w' := by
  go_enter Tryd.func27, Tryd.ntmps27
  go_wp2
  refine wp_loop_rounds 1 ?_
  rw [rounds_succ]
  go_wp2
  go_ret
  exact ⟨rfl, rfl⟩
theorem cmp_len (p q : Option Addr) (n m c d : Nat) (h : n ≠ m) (w : World) : Calls Tryd.prog 27 #[.slice p n c, .slice q m d] w fun e w' => e = .returned (.int .i64 (if n < m then -1 else 1)) ∧ w = w' := by
  have e : ((n : Int) != (m : Int)) = true := by rw [bne_iff_ne]; omega
  by_cases hlt : n < m
  · rw [if_pos hlt]
    go_enter Tryd.func27, Tryd.ntmps27
    go_wp2
    go_ret
    exact ⟨rfl, rfl⟩
  · rw [if_neg hlt]
    go_enter Tryd.func27, Tryd.ntmps27
    go_wp2
    go_ret
    exact ⟨rfl, rfl⟩
set_option maxHeartbeats 1000000 in
theorem cmp_cells (b off b2 off2 c d : Nat) (l m : List UInt8) (hlm : m.length = l.length) (hn : l.length ≤ 4611686018427387904) (w : World) (h1 : CellsL w b off l) (h2 : CellsL w b2 off2 m) (hdl : AllDig l) (hdm : AllDig m) :
    Calls Tryd.prog 27 #[.slice (some ⟨b, off, none⟩) l.length c, .slice (some ⟨b2, off2, none⟩) m.length d] w fun e w' => e = .returned (.int .i64 (cmpZ l m)) ∧ ∃ q, w' = w.drewN q := by
  have H1 := hide h1
  have H2 := hide h2
  have HDl := hide hdl
  have HDm := hide hdm
  clear h1 h2 hdl hdm
  rw [hlm]
  have e : ((l.length : Int) != (l.length : Int)) = false := by simp
  go_enter Tryd.func27, Tryd.ntmps27
  go_wp2
  go_loopg [5] (l.length) (fun g i wr => ∃ k : Nat, g = l.length - k ∧ k ≤ l.length ∧ i = .int .i64 (k : Nat) ∧ Hid (l.take k = m.take k) ∧ ∃ q, wr = w.drewN q)
  case atStart => exact ⟨0, rfl, Nat.zero_le _, rfl, rfl, 0, rfl⟩
  case round =>
    obtain ⟨k, rfl, hk, rfl, HT, q, rfl⟩ := hrel
    by_cases hlt : k < l.length
    · obtain ⟨x, hcx, hx⟩ : ∃ x : Nat, w.cell? ⟨b, off + k, none⟩ = some (.int .u8 (x : Int)) ∧ Hid (x = l[k].toNat) := ⟨_, (unhide H1) k hlt, rfl⟩
      obtain ⟨y, hcy, hy⟩ : ∃ y : Nat, w.cell? ⟨b2, off2 + k, none⟩ = some (.int .u8 (y : Int)) ∧ Hid (y = (m[k]'(by omega)).toNat) := ⟨_, (unhide H2) k (by omega), rfl⟩
      have hltz : (k : Int) < (l.length : Int) := by omega
      by_cases hxy : x = y
      · have HN : Hid (l.take (k + 1) = m.take (k + 1)) := by
          rw [Hid, List.take_add_one, List.take_add_one, HT.out, List.getElem?_eq_getElem hlt, List.getElem?_eq_getElem (by omega : k < m.length)]
          have : l[k] = m[k]'(by omega) := UInt8.toNat_inj.1 (by rw [← hx.out, ← hy.out, hxy])
          rw [this]
        subst hxy
        have e2 : ((x : Int) != (x : Int)) = false := by simp
        go_wp2
        go_quiet (fail)
        go_wp2
        go_roundg (l.length - (k + 1))
        case measure => omega
        case rel => exact ⟨k + 1, rfl, by omega, by go_num, HN, _, rfl⟩
      · have e2 : ((x : Int) != (y : Int)) = true := by rw [bne_iff_ne]; omega
        by_cases hlt2 : x < y
        · have HN : Hid (cmpZ l m = -1) := by
            have := val_lex l m (unhide HDl) hlm.symm k hlt HT.out (by rw [← hx.out, ← hy.out]; exact hlt2)
            rw [Hid]; unfold cmpZ; rw [if_pos this]
          have hz : (x : Int) < (y : Int) := by omega
          go_wp2
          go_quiet (fail)
          go_wp2
          go_quiet (fail)
          go_wp2
          go_ret
          exact ⟨by rw [HN.out]; rfl, by first | exact ⟨_, rfl⟩ | exact ⟨_, World.drewN_drewN _ _ _⟩ | exact ⟨_, by rw [World.drewN_drewN, World.drewN_drewN]⟩⟩
        · have HN : Hid (cmpZ l m = 1) := by
            have := val_lex m l (unhide HDm) hlm k (by omega) HT.out.symm (by rw [← hx.out, ← hy.out]; omega)
            rw [Hid]; unfold cmpZ; rw [if_neg (by omega), if_pos this]
          have hz : ¬ ((x : Int) < (y : Int)) := by omega
          go_wp2
          go_quiet (fail)
          go_wp2
          go_quiet (fail)
          go_wp2
          go_ret
          exact ⟨by rw [HN.out]; rfl, by first | exact ⟨_, rfl⟩ | exact ⟨_, World.drewN_drewN _ _ _⟩ | exact ⟨_, by rw [World.drewN_drewN, World.drewN_drewN]⟩⟩
    · have HN : Hid (cmpZ l m = 0) := by
        have := HT.out
        rw [List.take_of_length_le (by omega), List.take_of_length_le (by omega)] at this
        rw [Hid, this]; unfold cmpZ; rw [if_neg (by omega), if_neg (by omega)]
      go_wp2
      go_ret
      exact ⟨by rw [HN.out]; rfl, by first | exact ⟨_, rfl⟩ | exact ⟨_, World.drewN_drewN _ _ _⟩ | exact ⟨_, by rw [World.drewN_drewN, World.drewN_drewN]⟩⟩
theorem cmp_call (p q : Option Addr) (c d : Nat) (l m : List UInt8) (hn : l.length ≤ 4611686018427387904) (w : World) (h1 : At w p l) (h2 : At w q m) (hdl : AllDig l) (hdm : AllDig m) (hzl : NoZero l) (hzm : NoZero m) :
    Calls Tryd.prog 27 #[.slice p l.length c, .slice q m.length d] w fun e w' => e = .returned (.int .i64 (cmpZ l m)) ∧ ∃ k, w' = w.drewN k := by
  by_cases hlm : m.length = l.length
  · by_cases h0 : l.length = 0
    · obtain rfl : l = [] := List.eq_nil_of_length_eq_zero h0
      obtain rfl : m = [] := List.eq_nil_of_length_eq_zero (by omega)
      exact (cmp_empty p q c d w).mono fun e w' ⟨he, hw⟩ => ⟨he, 0, hw.symm⟩
    · obtain ⟨b, off, rfl, hc1⟩ := h1 (by omega)
      obtain ⟨b2, off2, rfl, hc2⟩ := h2 (by omega)
      exact cmp_cells b off b2 off2 c d l m hlm hn w hc1 hc2 hdl hdm
  · refine (cmp_len p q l.length m.length c d (fun e => hlm e.symm) w).mono fun e w' ⟨he, hw⟩ => ⟨?_, 0, hw.symm⟩
    rw [he]
    unfold cmpZ
    by_cases hlt : l.length < m.length
    · rw [if_pos hlt, if_pos (val_len l m hdl hdm hzm hlt)]
    · have := val_len m l hdm hdl hzl (by omega)
      rw [if_neg hlt, if_neg (by omega), if_pos this]
end Go.Proofs.Qxb6606399aDoor
