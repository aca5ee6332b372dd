import Derived.Test.Qxb6606353aDoorLaw
namespace Go.Proofs.Qxb6606353aDoor
open Go.RowKit
open Pl

set_option maxRecDepth 100000 in
set_option maxHeartbeats 1000000 in
theorem parse_nil (w : World) : Calls Tryd.prog 8 #[.slice none 0 0] w fun e w' => e = .returned (.tuple #[.bool false, .slice none 0 0, .int .i64 0, .int .i64 0, .bool false]) ∧ Below w.heap.size w w' := by
  obtain ⟨i0, hi, hz0, hz1, hz2⟩ := info_parts Tryd.info5
  go_enter Tryd.func8, Tryd.ntmps8
  go_wp2_with (first | (at_make; refine wpList_make_own _ rfl _ _ 22 rfl w.heap.size 5 i0 (.int .u8 0) 1 Tryd.underlying22 hi hz0 hz1 .i64 .i64 0 0 rfl rfl rfl (by rw [hz2]; omega) (by unfold maxLen; omega) (Nat.le_refl _) ?_; intro w1 hown hgr) | fail)
  have hb1 : Below w.heap.size w w1 := (Below.refl _ _).grown hgr (Nat.le_refl _) (fun _ h => by cases h)
  clear hgr
  refine wp_loop_rounds 1 ?_
  rw [rounds_succ]
  go_wp2
  exact bodyPost_ret (v := .tuple #[.bool false, .slice none 0 0, .int .i64 0, .int .i64 0, .bool false]) (by simp [results, Tryd.results8, go_sem]) rfl ⟨rfl, hb1⟩
set_option maxRecDepth 100000 in
theorem law_nil (w : World) : Calls Tryd.prog 3 #[.slice none 0 0] w fun e w' => e = .returned (.bool true) ∧ Below w.heap.size w w' := by
  go_enter Tryd.func3, Tryd.ntmps3
  go_wp2_with fail
  refine (zz_ok none 0 0 (by omega) _).mono ?_
  rintro e w1 ⟨rfl, rfl⟩
  go_wp2_with fail
  refine (clone_nil _).mono ?_
  rintro e w1 ⟨rfl, hw1⟩
  subst hw1
  go_wp2_with fail
  refine (parse_nil _).mono ?_
  rintro e w2 ⟨rfl, hb2⟩
  go_wp2_with fail
  go_ret
  exact ⟨rfl, hb2⟩
end Go.Proofs.Qxb6606353aDoor
