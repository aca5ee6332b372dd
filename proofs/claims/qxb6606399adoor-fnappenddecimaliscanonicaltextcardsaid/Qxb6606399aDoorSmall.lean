import Derived.Test.Qxb6606399aDoorSame
import Derived.Test.Qxb6606399aDoorPlainC
namespace Go.Proofs.Qxb6606399aDoor
open Go.RowKit

theorem same_n (p q : Option Addr) (n c d : Nat) (l : List UInt8) (hn : l.length = n) (hb : n ≤ 4611686018427387904) (w : World) (h1 : At w p l) (h2 : At w q l) :
    Calls Tryd.prog 12 #[.slice p n c, .slice q n d] w fun e w' => e = .returned (.bool true) ∧ ∃ k, w' = w.drewN k := by
  have := same_any p q c d l l (by omega) w h1 h2
  rw [hn] at this
  refine this.mono fun e w' ⟨he, hw⟩ => ⟨?_, hw⟩
  rw [he]; simp

theorem cells_add {w : World} {b off : Nat} {l : List UInt8} (hc : CellsL w b off l) (j : Nat) (v : Value) (hj : (bvs l)[j]? = some v) : w.cell? ((⟨b, off, none⟩ : Addr).add j) = some v := by
  have hlt : j < l.length := by
    rcases Nat.lt_or_ge j l.length with h | h
    · exact h
    · rw [List.getElem?_eq_none (by rw [bvs_len]; exact h)] at hj; cases hj
  rw [bvs_get l j hlt] at hj
  cases hj
  have : (⟨b, off, none⟩ : Addr).add j = ⟨b, off + j, none⟩ := by unfold Addr.add; split <;> simp_all
  rw [this]; exact hc j hlt
/-- A text that the call owns: nil, or a full row of its own block. -/
def Own (w : World) (p : Option Addr) (c : Nat) (l : List UInt8) : Prop :=
  (p = none ∧ c = 0 ∧ l = []) ∨ (∃ g, p = some ⟨g, 0, none⟩ ∧ c = l.length ∧ CellsL w g 0 l ∧ g < w.heap.size)
theorem Own.at_ {w : World} {p : Option Addr} {c : Nat} {l : List UInt8} (h : Own w p c l) : At w p l := fun h0 => by
  rcases h with ⟨_, _, rfl⟩ | ⟨g, rfl, _, hc, _⟩
  · simp at h0
  · exact ⟨g, 0, rfl, hc⟩
theorem Own.later {w w' : World} {p : Option Addr} {c : Nat} {l : List UInt8} (h : Own w p c l) (hb : Below w.heap.size w w') : Own w' p c l := by
  rcases h with h | ⟨g, rfl, hc, hl, hg⟩
  · exact .inl h
  · exact .inr ⟨g, rfl, hc, hl.later (fun _ => hg) hb, by have := hb.size; omega⟩

theorem clone_nil (w : World) : Calls Tryd.prog 8 #[.slice none 0 0] w fun e w' => e = .returned (.slice none 0 0) ∧ w = w' := by
  have q22 := fun (w : World) (a : Option Addr) (n c n' c' : Nat) => Lib.run_eql_slice_nil (P := Tryd.prog) w 22 5 a n c n' c' Tryd.underlying22
  go_enter Tryd.func8, Tryd.ntmps8
  go_wp2
  go_ret
  exact ⟨rfl, rfl⟩
set_option maxRecDepth 100000 in
set_option maxHeartbeats 1000000 in
theorem clone_row (a : Addr) (c : Nat) (l : List UInt8) (hn : l.length ≤ 1073741824) (w : World) (hA : At w (some a) l) :
    Calls Tryd.prog 8 #[.slice (some a) l.length c] w fun e w' => e = .returned (.slice (some ⟨w.heap.size, 0, none⟩) l.length l.length) ∧ CellsL w' w.heap.size 0 l ∧ w.heap.size < w'.heap.size ∧ Below w.heap.size w w' := by
  obtain ⟨i0, hi0, hz0, hz1, hz2⟩ := info_parts Tryd.info5
  have HA := hide hA
  clear hA
  have q22 := fun (w : World) (a : Option Addr) (n c n' c' : Nat) => Lib.run_eql_slice_nil (P := Tryd.prog) w 22 5 a n c n' c' Tryd.underlying22
  go_enter Tryd.func8, Tryd.ntmps8
  go_upto_region 4 with (first | (at_make; refine wpList_make_full _ rfl _ _ 22 rfl w.heap.size 5 i0 (.int .u8 0) 1 Tryd.underlying22 hi0 hz0 hz1 .i64 .i64 l.length l.length l.length rfl rfl rfl rfl (by rw [hz2]; omega) (by unfold maxLen; omega) (Nat.le_refl _) ?_; intro w1 hown hgr) | fail)
  rw [show (madeCells (Value.int IntKind.u8 0).cells (l.length * 1)).toList = List.replicate l.length (Value.int .u8 0) from by rw [Nat.mul_one]; exact toList_madeCells_one _ _] at hown
  have hb1 : Below w.heap.size w w1 := (Below.refl _ _).grown hgr (Nat.le_refl _) (fun _ h => by cases h)
  have hblk := owns_block hown
  have hA1 : At w1 (some a) l := fun h0 => by
    obtain ⟨b, off, e, hc⟩ := (unhide HA) h0
    exact ⟨b, off, e, hc.later hc.lt hb1⟩
  have HBK := hide hblk
  obtain ⟨Z, hZ⟩ : ∃ Z, Hid (Z = List.replicate l.length (Value.int .u8 0)) := ⟨_, rfl⟩
  have hZl : Z.length = l.length := by rw [hZ.out, List.length_replicate]
  rw [← hZ.out] at HBK
  obtain ⟨X, hX⟩ : ∃ X, Hid (X = bvs l) := ⟨_, rfl⟩
  have hXl : X.length = l.length := by rw [hX.out, bvs_len]
  have hXc : 0 < X.length → ∀ j v, X[j]? = some v → w1.cell? (a.add j) = some v := fun h0 j v hj => by
    obtain ⟨b, off, e, hc⟩ := hA1 (by omega)
    cases e
    exact cells_add hc j v (by rw [← hX.out]; exact hj)
  clear hown hgr hblk hA1
  go_upto_region 5 with (first | (refine wpList_copy_splice rfl (.tmp 9) (.tmp 10) 22 22 rfl 5 Tryd.underlying22 Tryd.size5 _ _ _ _ _ _ rfl rfl w.heap.size 0 Z 5 (unhide HBK) X (by rw [hXl]; simp) (fun h => ⟨rfl, a, rfl, hXc h⟩) (by omega) (by rw [hX.out]; exact bvs_one l) w.heap.size w hb1 (Nat.le_refl _) ?_; intro w2 HB2 hb2) | fail)
  have hcl2 : CellsL w2 w.heap.size 0 l := by
    have := HB2.out
    rw [splice_all Z X (by omega), hX.out] at this
    exact CellsL.of_block this
  have hg2 : w.heap.size < w2.heap.size := by
    have := HB2.out
    exact (Array.getElem?_eq_some_iff.1 this).1
  have HC2 := hide hcl2
  clear hcl2 HB2 HBK hXc hXl hZl hX hZ hb1
  go_wp2_with fail
  go_ret
  exact ⟨rfl, unhide HC2, hg2, hb2⟩
theorem dig_is (x : UInt8) (w : World) : Calls Tryd.prog 15 #[.int .u8 (x.toNat : Int)] w fun e w' => e = .returned (.bool (digB x)) ∧ w = w' := by
  obtain ⟨k, hk⟩ : ∃ k, Hid (k = x.toNat) := ⟨_, rfl⟩
  unfold digB
  rw [← hk.out]
  have hk256 : k < 256 := by rw [hk.out]; exact x.toNat_lt
  by_cases h1 : 48 ≤ k
  · by_cases h2 : k ≤ 57
    · rw [decide_eq_true h1, decide_eq_true h2]
      have h4 : decide ((k : Int) ≤ 57) = true := decide_eq_true (by omega)
      go_enter Tryd.func15, Tryd.ntmps15
      go_wp2
      go_ret
      exact ⟨rfl, rfl⟩
    · rw [decide_eq_false h2, Bool.and_false]
      have h3 : ¬ ((k : Int) ≤ 57) := by omega
      go_enter Tryd.func15, Tryd.ntmps15
      go_wp2
      go_ret
      exact ⟨rfl, rfl⟩
  · rw [decide_eq_false h1, Bool.false_and]
    have h3 : ¬ (48 ≤ (k : Int)) := by omega
    go_enter Tryd.func15, Tryd.ntmps15
    go_wp2
    go_ret
    exact ⟨rfl, rfl⟩
theorem zz13_ok (a : Option Addr) (n c : Nat) (hn : n ≤ 1048576) (w : World) : Calls Tryd.prog 13 #[.slice a n c] w fun e w' => e = .returned (.bool true) ∧ w = w' := by
  go_enter Tryd.func13, Tryd.ntmps13
  go_wp2
  go_ret
  exact ⟨rfl, rfl⟩
theorem zz13_no (a : Option Addr) (n c : Nat) (hn : 1048576 < n) (hm : n ≤ 9223372036854775807) (w : World) : Calls Tryd.prog 13 #[.slice a n c] w fun e w' => e = .returned (.bool false) ∧ w = w' := by
  go_enter Tryd.func13, Tryd.ntmps13
  go_wp2
  go_ret
  exact ⟨rfl, rfl⟩
theorem zz14_ok (a : Option Addr) (n c : Nat) (hn : n ≤ 1048576) (w : World) : Calls Tryd.prog 14 #[.slice a n c] w fun e w' => e = .returned (.bool true) ∧ w = w' := by
  go_enter Tryd.func14, Tryd.ntmps14
  go_wp2
  go_ret
  exact ⟨rfl, rfl⟩
theorem zz14_no (a : Option Addr) (n c : Nat) (hn : 1048576 < n) (hm : n ≤ 9223372036854775807) (w : World) : Calls Tryd.prog 14 #[.slice a n c] w fun e w' => e = .returned (.bool false) ∧ w = w' := by
  go_enter Tryd.func14, Tryd.ntmps14
  go_wp2
  go_ret
  exact ⟨rfl, rfl⟩
/-- decimalValue of at most 18 digits. -/
theorem dec_val (p : Option Addr) (c : Nat) (l : List UInt8) (hd : AllDig l) (hl : l.length ≤ 18) (w : World) (hA : At w p l) :
    Calls Tryd.prog 43 #[.slice p l.length c] w fun e w' => e = .returned (.int .i64 (valN l : Nat)) ∧ w = w' := by
  have HA := hide hA
  have HD := hide hd
  clear hA hd
  go_enter Tryd.func43, Tryd.ntmps43
  go_wp2
  go_loopg [8, 3] l.length (fun g kv vv wr => ∃ k : Nat, g = l.length - k ∧ k ≤ l.length ∧ kv = .int .i64 (k : Nat) ∧ vv = .int .i64 ((valN (l.take k) : Nat) : Int) ∧ w = wr)
  case atStart => exact ⟨0, rfl, Nat.zero_le _, rfl, rfl, rfl⟩
  case round =>
    obtain ⟨k, rfl, hk, rfl, rfl, rfl⟩ := hrel
    by_cases hlt : k < l.length
    · obtain ⟨b, off, rfl, hc⟩ := (unhide HA) (by omega)
      have hx := hc k hlt
      have hdg := (digB_iff _).1 ((unhide HD) l[k] (List.getElem_mem hlt))
      have hv : valN (l.take (k + 1)) = valN (l.take k) * 10 + (l[k].toNat - 48) := by
        rw [List.take_add_one, List.getElem?_eq_getElem hlt]
        exact valN_snoc _ _
      have hv2 : valN (l.take (k + 1)) < 10 ^ 18 := by
        have h1 := valN_lt (l.take (k + 1)) (fun x hx => (unhide HD) x (List.mem_of_mem_take hx))
        have h2 : 10 ^ (l.take (k + 1)).length ≤ 10 ^ 18 := Nat.pow_le_pow_right (by omega) (by rw [List.length_take]; omega)
        omega
      obtain ⟨V, hV⟩ : ∃ V, Hid (V = valN (l.take k)) := ⟨_, rfl⟩
      obtain ⟨V2, hV2⟩ : ∃ V2, Hid (V2 = valN (l.take (k + 1))) := ⟨_, rfl⟩
      obtain ⟨x, hX⟩ : ∃ x : Nat, Hid (x = l[k].toNat) := ⟨l[k].toNat, rfl⟩
      rw [← hX.out] at hx hdg hv
      rw [← hV.out] at hv ⊢
      rw [← hV2.out] at hv hv2
      have hv3 : V2 < 1000000000000000000 := hv2
      clear hv2 hc
      have hz : ((V2 : Nat) : Int) = (V : Int) * 10 + ((x : Int) - 48) := by omega
      have hb1 : (V : Int) * 10 ≤ 1000000000000000000 := by omega
      go_wp2
      go_roundg (l.length - (k + 1))
      case measure => omega
      case rel => exact ⟨k + 1, rfl, by omega, by go_num, by rw [← hV2.out, hz], rfl⟩
    · obtain rfl : k = l.length := by omega
      rw [List.take_length]
      go_wp2
      go_ret
      exact ⟨rfl, rfl⟩
end Go.Proofs.Qxb6606399aDoor
