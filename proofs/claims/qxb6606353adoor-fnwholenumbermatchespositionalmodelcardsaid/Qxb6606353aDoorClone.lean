import Derived.Test.Qxb6606353aDoorRows
import Derived.WalkKit
import Derived.WalkSpells
import Derived.WalkLawsBesides
namespace Go.Proofs.Qxb6606353aDoor
open Go.RowKit

theorem Tryd.info5 : (Tryd.prog.info? 5).map (fun i => (i.zero, i.size, i.bytes)) = some (some (.int .u8 0), 1, 1) := by kernel_rfl

theorem set_next (zs : List Int) (n k : Nat) (hz : zs.length = n) (hk : k < n) :
    ((zs.take k).map (Value.int .u8) ++ List.replicate (n - k) (Value.int .u8 0)).set k (.int .u8 (zs.getD k 0)) = (zs.take (k + 1)).map (Value.int .u8) ++ List.replicate (n - (k + 1)) (Value.int .u8 0) := by
  have h1 : n - k = (n - (k + 1)) + 1 := by omega
  rw [h1, List.replicate_succ, List.set_append]
  have h2 : ((zs.take k).map (Value.int .u8)).length = k := by simp; omega
  rw [h2, if_neg (by omega), Nat.sub_self, List.set_cons_zero, List.take_add_one, List.map_append]
  have h3 : zs[k]? = some (zs.getD k 0) := by simp [List.getD, List.getElem?_eq_getElem (show k < zs.length by omega)]
  rw [h3]; simp

/-- b1Clone of nil. -/
theorem clone_nil (w : World) : Calls Tryd.prog 7 #[.slice none 0 0] w fun e w' => e = .returned (.slice none 0 0) ∧ w' = w := by
  have q22 := fun (w : World) (a : Option Addr) (n c n' c' : Nat) => Lib.run_eql_slice_nil (P := Tryd.prog) w 22 5 a n c n' c' Tryd.underlying22
  go_enter Tryd.func7, Tryd.ntmps7
  go_wp2
  go_ret
  exact ⟨rfl, rfl⟩

set_option maxHeartbeats 400000 in
/-- b1Clone of a slice that is not nil. -/
theorem clone_any (b off n c : Nat) (zs : List Int) (w : World) (hz : zs.length = n) (hn : n ≤ 1048576) (hc : ∀ i, i < n → w.cell? ⟨b, off + i, none⟩ = some (.int .u8 (zs.getD i 0))) (hb : 0 < n → b < w.heap.size) :
    Calls Tryd.prog 7 #[.slice (some ⟨b, off, none⟩) n c] w fun e w' => e = .returned (.slice (some ⟨w.heap.size, 0, none⟩) n n) ∧ w'.ownsRow w.heap.size 5 1 (.slice (some ⟨w.heap.size, 0, none⟩) n n) n (zs.map (Value.int .u8)) ∧ Below w.heap.size w w' := by
  have q22 := fun (w : World) (a : Option Addr) (n c n' c' : Nat) => Lib.run_eql_slice_nil (P := Tryd.prog) w 22 5 a n c n' c' Tryd.underlying22
  obtain ⟨i0, hi, hz0, hz1, hz2⟩ := info_parts Tryd.info5
  go_enter Tryd.func7, Tryd.ntmps7
  go_wp2_with (first | (at_make; refine wpList_make_full _ rfl _ _ 22 rfl w.heap.size 5 i0 (.int .u8 0) 1 Tryd.underlying22 hi hz0 hz1 .i64 .i64 n n n rfl rfl rfl rfl (by rw [hz2]; omega) (by unfold maxLen; omega) (Nat.le_refl _) ?_; intro w1 hown hgr) | fail)
  rw [show (madeCells (Value.int IntKind.u8 0).cells (n * 1)).toList = List.replicate n (Value.int .u8 0) from by rw [Nat.mul_one]; exact toList_madeCells_one _ _] at hown
  have hb1 : Below w.heap.size w w1 := (Below.refl _ _).grown hgr (Nat.le_refl _) (fun _ h => by cases h)
  clear hgr
  go_loopw [4] (fun i wr => ∃ k : Nat, k ≤ n ∧ i = .int .i64 k ∧ wr.ownsRow w.heap.size 5 1 (.slice (some ⟨w.heap.size, 0, none⟩) n n) n ((zs.take k).map (Value.int .u8) ++ List.replicate (n - k) (Value.int .u8 0)) ∧ Below w.heap.size w wr) (fun i _ => n - (intOf i).toNat)
  case atStart => exact ⟨0, Nat.zero_le _, rfl, hown, hb1⟩
  case round =>
    obtain ⟨k, hk, rfl, ho, hbl⟩ := hrel
    clear hown hb1
    by_cases hlt : k < n
    · have hcx : wr.cell? ⟨b, off + k, none⟩ = some (.int .u8 (zs.getD k 0)) := (hbl.cell (hb (by omega))).trans (hc k hlt)
      have hfr := ho.frozenAt k
      have hold := ho.cellAt k (by omega)
      have hst := ho.stored k (.int .u8 (zs.getD k 0))
      rw [set_next zs n k hz hlt] at hst
      generalize zs.getD k 0 = x at hcx hst
      have HS : Hid _ := hst
      obtain ⟨vo, hvo⟩ : ∃ v, wr.cell? ⟨w.heap.size, k, none⟩ = some v := by
        rw [hold]; exact ⟨_, List.getElem?_eq_getElem (by simp; omega)⟩
      clear hst hold ho
      go_wp2
      go_roundw
      case rel => exact ⟨k + 1, by omega, by go_num, HS.out.1, hbl.setCell (Nat.le_refl _) _⟩
      case measure => simp [intOf]; omega
    · go_wp2
      go_ret
      obtain rfl : k = n := by omega
      refine ⟨rfl, ?_, hbl⟩
      have := ho
      rw [List.take_of_length_le (by omega), Nat.sub_self] at this
      simpa using this
end Go.Proofs.Qxb6606353aDoor
