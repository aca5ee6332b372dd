import Derived.Test.Qxb6608622aDoorBase
namespace Go.Proofs.Qxb6608622aDoor
open Go.RowKit

/-! ### The plain functions -/
/-- A byte that ends a line. -/
def brkB (c : UInt8) : Bool := c == 13 || c == 10
/-- Where the line that starts at i ends. -/
def endOf (l : List UInt8) (i : Nat) : Nat := i + (l.drop i).findIdx brkB
/-- How long the break at e is. -/
def brkLen (l : List UInt8) (e : Nat) : Nat :=
  match l.drop e with
  | [] => 0
  | c :: r => if c = 10 then 1 else if c = 13 then (match r with | [] => 1 | d :: _ => if d = 10 then 2 else 1) else 0
theorem endOf_le (l : List UInt8) (i : Nat) (h : i ≤ l.length) : i ≤ endOf l i ∧ endOf l i ≤ l.length := by
  unfold endOf
  have := List.findIdx_le_length (p := brkB) (xs := l.drop i)
  rw [List.length_drop] at this
  omega
theorem brkLen_le (l : List UInt8) (e : Nat) (h : e ≤ l.length) : e + brkLen l e ≤ l.length := by
  unfold brkLen
  have hl : (l.drop e).length = l.length - e := List.length_drop
  cases hd : l.drop e with
  | nil => simp; omega
  | cons c r =>
    rw [hd, List.length_cons] at hl
    simp only
    split
    · omega
    · split
      · cases r with
        | nil => simp at hl ⊢; omega
        | cons d t => simp only [List.length_cons] at hl; simp only; split <;> omega
      · omega
theorem brkLen_bd (l : List UInt8) (e : Nat) : brkLen l e ≤ 2 := by
  unfold brkLen
  cases l.drop e with
  | nil => simp
  | cons c r =>
    simp only
    split
    · omega
    · split
      · cases r with
        | nil => simp
        | cons d t => simp only; split <;> omega
      · omega
theorem drop_at (l : List UInt8) (e : Nat) (h : e < l.length) : l.drop e = l[e] :: l.drop (e + 1) := List.drop_eq_getElem_cons h
theorem brk_end (l : List UInt8) (e : Nat) (h : l.length ≤ e) : brkLen l e = 0 := by
  unfold brkLen; rw [List.drop_of_length_le h]
theorem brk_lf (l : List UInt8) (e : Nat) (h : e < l.length) (h1 : l[e] = 10) : brkLen l e = 1 := by
  unfold brkLen; rw [drop_at l e h, h1]; rfl
theorem brk_none (l : List UInt8) (e : Nat) (h : e < l.length) (h1 : l[e] ≠ 10) (h2 : l[e] ≠ 13) : brkLen l e = 0 := by
  unfold brkLen; rw [drop_at l e h]; simp only; rw [if_neg h1, if_neg h2]
theorem brk_cr_end (l : List UInt8) (e : Nat) (h : e < l.length) (h1 : l[e] = 13) (h2 : l.length ≤ e + 1) : brkLen l e = 1 := by
  unfold brkLen; rw [drop_at l e h, h1, List.drop_of_length_le h2]; rfl
theorem brk_crlf (l : List UInt8) (e : Nat) (h : e + 1 < l.length) (h1 : l[e] = 13) (h2 : l[e + 1] = 10) : brkLen l e = 2 := by
  unfold brkLen; rw [drop_at l e (by omega), h1, drop_at l (e + 1) h, h2]; rfl
theorem brk_cr (l : List UInt8) (e : Nat) (h : e + 1 < l.length) (h1 : l[e] = 13) (h2 : l[e + 1] ≠ 10) : brkLen l e = 1 := by
  unfold brkLen; rw [drop_at l e (by omega), h1, drop_at l (e + 1) h]; simp only
  rw [if_neg (by decide), if_pos trivial, if_neg h2]

/-! ### lineBreakAt -/
theorem ret_int {k : IntKind} {a b : Int} (h : a = b) : Ending.returned (.int k a) = .returned (.int k b) := by rw [h]
theorem lb_past (p : Option Addr) (n c : Nat) (e : Nat) (h : n ≤ e) (w : World) :
    Calls Tryd.prog 12 #[.slice p n c, .int .i64 (e : Nat)] w fun x w' => x = .returned (.int .i64 0) ∧ w = w' := by
  go_enter Tryd.func12, Tryd.ntmps12
  go_wp2
  go_ret
  exact ⟨rfl, rfl⟩
set_option maxHeartbeats 1000000 in
theorem lb_in (b off c : Nat) (l : List UInt8) (e : Nat) (h : e < l.length) (hl : l.length ≤ 4611686018427387904) (w : World) (hc : CellsL w b off l) :
    Calls Tryd.prog 12 #[.slice (some ⟨b, off, none⟩) l.length c, .int .i64 (e : Nat)] w fun x w' => x = .returned (.int .i64 (brkLen l e : Nat)) ∧ w = w' := by
  obtain ⟨x, hx, HX⟩ : ∃ x : Nat, w.cell? ⟨b, off + e, none⟩ = some (.int .u8 (x : Int)) ∧ Hid (x = l[e].toNat) := ⟨_, hc e h, rfl⟩
  by_cases h10 : x = 10
  · have HR : Hid (brkLen l e = 1) := brk_lf l e h (UInt8.toNat_inj.1 (by rw [← HX.out]; exact h10))
    subst h10
    clear hc
    go_enter Tryd.func12, Tryd.ntmps12
    go_wp2
    go_ret
    exact ⟨by rw [HR.out]; rfl, rfl⟩
  · have e10 : ((x : Int) == 10) = false := beq_eq_false_iff_ne.2 (by omega)
    have n10 : l[e] ≠ 10 := fun hh => h10 (by rw [HX.out, hh]; rfl)
    by_cases h13 : x = 13
    · have c13 : l[e] = 13 := UInt8.toNat_inj.1 (by rw [← HX.out]; exact h13)
      subst h13
      by_cases hlt : e + 1 < l.length
      · obtain ⟨y, hy, HY⟩ : ∃ y : Nat, w.cell? ⟨b, off + (e + 1), none⟩ = some (.int .u8 (y : Int)) ∧ Hid (y = l[e + 1].toNat) := ⟨_, hc (e + 1) hlt, rfl⟩
        by_cases hy10 : y = 10
        · have HR : Hid (brkLen l e = 2) := brk_crlf l e hlt c13 (UInt8.toNat_inj.1 (by rw [← HY.out]; exact hy10))
          subst hy10
          clear hc c13 n10
          go_enter Tryd.func12, Tryd.ntmps12
          go_wp2
          go_ret
          exact ⟨by rw [HR.out]; rfl, rfl⟩
        · have HR : Hid (brkLen l e = 1) := brk_cr l e hlt c13 (fun hh => hy10 (by rw [HY.out, hh]; rfl))
          have ey : ((y : Int) == 10) = false := beq_eq_false_iff_ne.2 (by omega)
          clear hc c13 n10
          go_enter Tryd.func12, Tryd.ntmps12
          go_wp2
          go_ret
          exact ⟨by rw [HR.out]; rfl, rfl⟩
      · have HR : Hid (brkLen l e = 1) := brk_cr_end l e h c13 (by omega)
        clear hc c13 n10
        go_enter Tryd.func12, Tryd.ntmps12
        go_wp2
        go_ret
        exact ⟨by rw [HR.out]; rfl, rfl⟩
    · have HR : Hid (brkLen l e = 0) := brk_none l e h n10 (fun hh => h13 (by rw [HX.out, hh]; rfl))
      have e13 : ((x : Int) != 13) = true := by rw [bne_iff_ne]; omega
      clear hc n10
      go_enter Tryd.func12, Tryd.ntmps12
      go_wp2
      go_ret
      exact ⟨by rw [HR.out]; rfl, rfl⟩
theorem lb_any (p : Option Addr) (c : Nat) (l : List UInt8) (e : Nat) (he : e ≤ l.length) (hl : l.length ≤ 4611686018427387904) (w : World) (hc : At w p l) :
    Calls Tryd.prog 12 #[.slice p l.length c, .int .i64 (e : Nat)] w fun x w' => x = .returned (.int .i64 (brkLen l e : Nat)) ∧ w = w' := by
  by_cases h : e < l.length
  · obtain ⟨b, off, rfl, hcl⟩ := hc (by omega)
    exact lb_in b off c l e h hl w hcl
  · refine (lb_past p l.length c e (by omega) w).mono fun x w' ⟨hx, hw⟩ => ⟨?_, hw⟩
    rw [hx, brk_end l e (by omega)]; rfl
end Go.Proofs.Qxb6608622aDoor
