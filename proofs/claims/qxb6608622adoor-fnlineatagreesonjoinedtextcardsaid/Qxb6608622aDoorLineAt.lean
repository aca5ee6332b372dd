import Derived.Test.Qxb6608622aDoorShort
import Derived.Test.Qxb6608622aDoorLine
namespace Go.Proofs.Qxb6608622aDoor
open Go.RowKit

theorem anyB_brk : anyB = brkB := rfl
/-- What lineAt hands back: the line, and where the next begins. -/
def LineEnd (l : List UInt8) (i : Nat) (w : World) (e : Ending) (w' : World) : Prop :=
  ∃ a c', e = .returned (.tuple #[.slice a (endOf l i - i) c', .int .i64 ((endOf l i + brkLen l (endOf l i) : Nat) : Int)]) ∧ At w' a ((l.drop i).take (endOf l i - i)) ∧ Below w.heap.size w w' ∧
    (∀ b off, a = some ⟨b, off, none⟩ → b < w.heap.size)

theorem end_none (l : List UInt8) (i : Nat) (hi : i ≤ l.length) (h : anyIdx (l.drop i) < 0) : endOf l i = l.length := by
  unfold anyIdx at h
  rw [anyB_brk] at h
  unfold endOf
  by_cases hx : (l.drop i).findIdx brkB < (l.drop i).length
  · rw [if_pos hx] at h; omega
  · have := List.findIdx_le_length (p := brkB) (xs := l.drop i)
    rw [List.length_drop] at this hx
    omega
theorem end_hit (l : List UInt8) (i : Nat) (h : 0 ≤ anyIdx (l.drop i)) : (endOf l i : Int) = i + anyIdx (l.drop i) := by
  unfold anyIdx at h ⊢
  rw [anyB_brk] at h ⊢
  unfold endOf
  by_cases hx : (l.drop i).findIdx brkB < (l.drop i).length
  · rw [if_pos hx]; omega
  · rw [if_neg hx] at h; omega

theorem lb_same (p : Option Addr) (c : Nat) (l : List UInt8) (e : Nat) (he : e ≤ l.length) (hl : l.length ≤ 4611686018427387904) (w : World) (hc : At w p l) :
    Calls Tryd.prog 12 #[.slice p l.length c, .int .i64 (e : Nat)] w fun x w' => x = .returned (.int .i64 (brkLen l e : Nat)) ∧ w' = w :=
  (lb_any p c l e he hl w hc).mono fun _ _ ⟨h1, h2⟩ => ⟨h1, h2.symm⟩
theorem lb_nil (w : World) : Calls Tryd.prog 12 #[.slice none 0 0, .int .i64 0] w fun x w' => x = .returned (.int .i64 0) ∧ w' = w :=
  (lb_past none 0 0 0 (by omega) w).mono fun _ _ ⟨h1, h2⟩ => ⟨h1, h2.symm⟩
theorem lineAt_nil (w : World) (hT : Lib.Utf8Tabs 1 2 w) (mx : Int) (hmx : w.cell? ⟨0, 0, none⟩ = some (.int .i64 mx)) :
    Calls Tryd.prog 10 #[.slice none 0 0, .int .i64 0] w (LineEnd [] 0 w) := by
  have H := any_any none 0 [] w (by simp) (by simp) (fun h => by simp at h) hT mx hmx
  clear hT hmx
  go_enter Tryd.func10, Tryd.ntmps10
  go_wp2_with fail
  refine H.mono ?_
  rintro e w1 ⟨rfl, hb⟩
  have e1 : anyIdx [] = -1 := rfl
  go_wp2_with fail
  go_quiet ((go_at_call 12; exact Calls.quiet_of_same (lb_nil _)))
  go_wp2_with fail
  go_ret2
  exact ⟨none, 0, rfl, fun h => by simp at h, below_drewN hb _, fun b off h => by cases h⟩
set_option maxHeartbeats 1000000 in
theorem lineAt_row (g : Nat) (l : List UInt8) (i : Nat) (hi : i ≤ l.length) (hl : l.length ≤ 1073741824) (w : World) (hc : CellsL w g 0 l) (hg : g < w.heap.size) (hT : Lib.Utf8Tabs 1 2 w) (mx : Int) (hmx : w.cell? ⟨0, 0, none⟩ = some (.int .i64 mx)) :
    Calls Tryd.prog 10 #[.slice (some ⟨g, 0, none⟩) l.length l.length, .int .i64 (i : Nat)] w (LineEnd l i w) := by
  obtain ⟨he1, he2⟩ := endOf_le l i hi
  have hbk := brkLen_le l (endOf l i) he2
  have HC := hide hc
  have hld : (l.drop i).length = l.length - i := List.length_drop
  by_cases hlt : i < l.length
  · have H := any_any (some ⟨g, i, none⟩) (l.length - i) (l.drop i) w (by omega) (by omega) (fun _ => ⟨g, i, rfl, by have := hc.drop i; rwa [Nat.zero_add] at this⟩) hT mx hmx
    rw [hld] at H
    have HH := hide H
    clear H hc hT hmx hld
    go_enter Tryd.func10, Tryd.ntmps10
    go_wp2_with fail
    refine (unhide HH).mono ?_
    rintro e w1 ⟨rfl, hb⟩
    have hc1 : CellsL w1 g 0 l := (unhide HC).later (fun _ => hg) hb
    have HA1 : Hid (At w1 (some ⟨g, 0, none⟩) l) := fun _ => ⟨g, 0, rfl, hc1⟩
    have HAE : Hid (At w1 (some ⟨g, i, none⟩) ((l.drop i).take (endOf l i - i))) := fun _ => ⟨g, i, rfl, by have := (hc1.drop i).take (endOf l i - i); rwa [Nat.zero_add] at this⟩
    clear hc1 HH
    obtain ⟨E, hE⟩ : ∃ E, Hid (E = endOf l i) := ⟨_, rfl⟩
    rw [← hE.out] at he1 he2 hbk HAE
    obtain ⟨R, hR⟩ : ∃ R, Hid (R = anyIdx (l.drop i)) := ⟨_, rfl⟩
    rw [← hR.out]
    obtain ⟨K, hK⟩ : ∃ K, Hid (K = brkLen l E) := ⟨_, rfl⟩
    have hK2 : K ≤ 2 := by rw [hK.out]; exact brkLen_bd l E
    have HB' : Hid (∀ q, Calls Tryd.prog 12 #[.slice (some ⟨g, 0, none⟩) l.length l.length, .int .i64 (E : Nat)] (w1.drewN q) fun x w' => x = .returned (.int .i64 (K : Nat)) ∧ w' = w1.drewN q) := fun q => by
      have HB := lb_same (some ⟨g, 0, none⟩) l.length l E he2 (by omega) (w1.drewN q) HA1.out
      rw [← hK.out] at HB
      exact HB
    rw [← hK.out] at hbk
    by_cases hneg : R < 0
    · obtain rfl : E = l.length := by rw [hE.out]; exact end_none l i hi (by rw [← hR.out]; exact hneg)
      go_wp2_with fail
      have z1 : (i : Int) ≤ (l.length : Int) := by omega
      have z2 : (l.length : Int) ≤ (l.length : Int) := by omega
      go_quiet ((go_at_call 12; exact Calls.quiet_of_same (unhide HB' _)))
      go_wp2_with fail
      go_ret2
      exact ⟨some ⟨g, i, none⟩, _, by rw [← hE.out, ← hK.out]; rfl, by rw [← hE.out]; exact HAE.out, below_drewN hb _, fun b off h => by cases h; exact hg⟩
    · have hRE : (i : Int) + R = (E : Int) := by
        have := end_hit l i (by rw [← hR.out]; omega)
        rw [← hE.out, ← hR.out] at this
        exact this.symm
      have hRz : 0 ≤ R := by omega
      go_wp2_with fail
      have z1 : (i : Int) ≤ (E : Int) := by omega
      have z2 : (E : Int) ≤ (l.length : Int) := by omega
      go_quiet ((go_at_call 12; exact Calls.quiet_of_same (unhide HB' _)))
      go_wp2_with fail
      go_ret2
      exact ⟨some ⟨g, i, none⟩, _, by rw [← hE.out, ← hK.out]; rfl, by rw [← hE.out]; exact HAE.out, below_drewN hb _, fun b off h => by cases h; exact hg⟩
  · obtain rfl : i = l.length := by omega
    have HH := hide (any_empty (some ⟨g, 0, none⟩) 0 w)
    have e0 : endOf l l.length = l.length := by omega
    have hbk0 : brkLen l l.length = 0 := brk_end l l.length (Nat.le_refl _)
    have HE0 := hide (And.intro e0 hbk0)
    have HB' : Hid (∀ q, Calls Tryd.prog 12 #[.slice (some ⟨g, 0, none⟩) l.length l.length, .int .i64 (l.length : Nat)] (w.drewN q) fun x w' => x = .returned (.int .i64 0) ∧ w' = w.drewN q) := fun q =>
      (lb_past _ _ _ _ (Nat.le_refl _) (w.drewN q)).mono fun _ _ ⟨h1, h2⟩ => ⟨h1, h2.symm⟩
    clear hc hT hmx hld he1 he2 hbk e0 hbk0 hi hlt
    go_enter Tryd.func10, Tryd.ntmps10
    go_wp2_with fail
    refine (unhide HH).mono ?_
    rintro e w1 ⟨rfl, rfl⟩
    go_wp2_with fail
    go_quiet ((go_at_call 12; exact Calls.quiet_of_same (unhide HB' _)))
    go_wp2_with fail
    go_ret2
    exact ⟨some ⟨g, 0, none⟩, _, by rw [HE0.out.1, HE0.out.2, Nat.sub_self]; rfl, by rw [HE0.out.1, Nat.sub_self]; exact fun h => by simp at h, below_drewN (Below.refl _ _) _, fun b off h => by cases h; exact hg⟩

/-- ZZlineAt hands it on. -/
theorem zzlineAt_nil (w : World) (hT : Lib.Utf8Tabs 1 2 w) (mx : Int) (hmx : w.cell? ⟨0, 0, none⟩ = some (.int .i64 mx)) :
    Calls Tryd.prog 6 #[.slice none 0 0, .int .i64 0] w (LineEnd [] 0 w) := by
  have H := hide (lineAt_nil w hT mx hmx)
  clear hT hmx
  go_enter Tryd.func6, Tryd.ntmps6
  go_wp2_with fail
  refine (unhide H).mono ?_
  rintro e w1 ⟨a, c', rfl, h1, h2, h3⟩
  have H1 := hide h1
  have H3 := hide h3
  clear h1 h3
  go_wp2_with fail
  go_ret2
  exact ⟨a, c', rfl, unhide H1, h2, unhide H3⟩
theorem zzlineAt_row (g : Nat) (l : List UInt8) (i : Nat) (hi : i ≤ l.length) (hl : l.length ≤ 1073741824) (w : World) (hc : CellsL w g 0 l) (hg : g < w.heap.size) (hT : Lib.Utf8Tabs 1 2 w) (mx : Int) (hmx : w.cell? ⟨0, 0, none⟩ = some (.int .i64 mx)) :
    Calls Tryd.prog 6 #[.slice (some ⟨g, 0, none⟩) l.length l.length, .int .i64 (i : Nat)] w (LineEnd l i w) := by
  have H := hide (lineAt_row g l i hi hl w hc hg hT mx hmx)
  clear hT hmx hc
  go_enter Tryd.func6, Tryd.ntmps6
  go_wp2_with fail
  refine (unhide H).mono ?_
  rintro e w1 ⟨a, c', rfl, h1, h2, h3⟩
  have H1 := hide h1
  have H3 := hide h3
  clear h1 h3
  go_wp2_with fail
  go_ret2
  exact ⟨a, c', rfl, unhide H1, h2, unhide H3⟩
end Go.Proofs.Qxb6608622aDoor
