import Derived.Test.Qxb6606399aDoorBase
namespace Go.Proofs.Qxb6606399aDoor
open Go.RowKit

theorem same_len (p q : Option Addr) (n m c d : Nat) (h : n ≠ m) (w : World) :
    Calls Tryd.prog 12 #[.slice p n c, .slice q m d] w fun e w' => e = .returned (.bool false) ∧ w = w' := by
  have e : ((n : Int) != (m : Int)) = true := by rw [bne_iff_ne]; omega
  go_enter Tryd.func12, Tryd.ntmps12
  go_wp2
  go_ret
  exact ⟨rfl, rfl⟩
theorem same_empty (p q : Option Addr) (c d : Nat) (w : World) :
    Calls Tryd.prog 12 #[.slice p 0 c, .slice q 0 d] w fun e w' => e = .returned (.bool true) ∧ w = w' := by
  go_enter Tryd.func12, Tryd.ntmps12
  go_wp2
  refine wp_loop_rounds 1 ?_
  rw [rounds_succ]
  go_wp2
  go_ret
  exact ⟨rfl, rfl⟩
set_option maxHeartbeats 1000000 in
theorem same_cells (b off b2 off2 c d : Nat) (l m : List UInt8) (hlm : m.length = l.length) (hn : l.length ≤ 4611686018427387904) (w : World) (h1 : CellsL w b off l) (h2 : CellsL w b2 off2 m) :
    Calls Tryd.prog 12 #[.slice (some ⟨b, off, none⟩) l.length c, .slice (some ⟨b2, off2, none⟩) m.length d] w fun e w' => e = .returned (.bool (l == m)) ∧ ∃ q, w' = w.drewN q := by
  have H1 := hide h1
  have H2 := hide h2
  clear h1 h2
  rw [hlm]
  have e : ((l.length : Int) != (l.length : Int)) = false := by simp
  go_enter Tryd.func12, Tryd.ntmps12
  go_wp2
  go_loopg [5] (l.length) (fun g i wr => ∃ k : Nat, g = l.length - k ∧ k ≤ l.length ∧ i = .int .i64 (k : Nat) ∧ Hid (l.take k = m.take k) ∧ ∃ q, wr = w.drewN q)
  case atStart => exact ⟨0, rfl, Nat.zero_le _, rfl, rfl, 0, rfl⟩
  case round =>
    obtain ⟨k, rfl, hk, rfl, HT, q, rfl⟩ := hrel
    by_cases hlt : k < l.length
    · obtain ⟨x, hcx, hx⟩ : ∃ x : Nat, w.cell? ⟨b, off + k, none⟩ = some (.int .u8 (x : Int)) ∧ Hid (x = l[k].toNat) := ⟨_, (unhide H1) k hlt, rfl⟩
      obtain ⟨y, hcy, hy⟩ : ∃ y : Nat, w.cell? ⟨b2, off2 + k, none⟩ = some (.int .u8 (y : Int)) ∧ Hid (y = (m[k]'(by omega)).toNat) := ⟨_, (unhide H2) k (by omega), rfl⟩
      have hltz : (k : Int) < (l.length : Int) := by omega
      by_cases hxy : x = y
      · have HN : Hid (l.take (k + 1) = m.take (k + 1)) := by
          rw [Hid, List.take_add_one, List.take_add_one, HT.out, List.getElem?_eq_getElem hlt, List.getElem?_eq_getElem (by omega : k < m.length)]
          have : l[k] = m[k]'(by omega) := UInt8.toNat_inj.1 (by rw [← hx.out, ← hy.out, hxy])
          rw [this]
        subst hxy
        have e2 : ((x : Int) != (x : Int)) = false := by simp
        go_wp2
        go_quiet (fail)
        go_wp2
        go_roundg (l.length - (k + 1))
        case measure => omega
        case rel => exact ⟨k + 1, rfl, by omega, by go_num, HN, _, rfl⟩
      · have e2 : ((x : Int) != (y : Int)) = true := by rw [bne_iff_ne]; omega
        have HN : Hid ((l == m) = false) := by
          rw [Hid, beq_eq_false_iff_ne]
          rintro rfl
          exact hxy (hx.out.trans hy.out.symm)
        go_wp2
        go_quiet (fail)
        go_wp2
        go_ret
        exact ⟨by rw [HN.out]; rfl, by first | exact ⟨_, rfl⟩ | exact ⟨_, World.drewN_drewN _ _ _⟩⟩
    · have HN : Hid ((l == m) = true) := by
        rw [Hid, beq_iff_eq]
        have := HT.out
        rw [List.take_of_length_le (by omega), List.take_of_length_le (by omega)] at this
        exact this
      go_wp2
      go_ret
      exact ⟨by rw [HN.out]; rfl, by first | exact ⟨_, rfl⟩ | exact ⟨_, World.drewN_drewN _ _ _⟩⟩
/-- zzSame at two slices of bytes, wherever they lie. -/
theorem same_any (p q : Option Addr) (c d : Nat) (l m : List UInt8) (hn : l.length ≤ 4611686018427387904) (w : World) (h1 : At w p l) (h2 : At w q m) :
    Calls Tryd.prog 12 #[.slice p l.length c, .slice q m.length d] w fun e w' => e = .returned (.bool (l == m)) ∧ ∃ k, w' = w.drewN k := by
  by_cases hlm : m.length = l.length
  · by_cases h0 : l.length = 0
    · have hl : l = [] := List.eq_nil_of_length_eq_zero h0
      have hm : m = [] := List.eq_nil_of_length_eq_zero (by omega)
      subst hl hm
      exact (same_empty p q c d w).mono fun e w' ⟨he, hw⟩ => ⟨he, 0, hw.symm⟩
    · obtain ⟨b, off, rfl, hc1⟩ := h1 (by omega)
      obtain ⟨b2, off2, rfl, hc2⟩ := h2 (by omega)
      exact same_cells b off b2 off2 c d l m hlm hn w hc1 hc2
  · refine (same_len p q l.length m.length c d (fun e => hlm e.symm) w).mono fun e w' ⟨he, hw⟩ => ⟨?_, 0, hw.symm⟩
    rw [he]
    have : (l == m) = false := by
      rw [beq_eq_false_iff_ne]; rintro rfl; exact hlm rfl
    rw [this]
end Go.Proofs.Qxb6606399aDoor
