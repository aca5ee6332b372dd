import Derived.Test.Qxb6608622aDoorSplits
import Derived.Test.Qxb6608622aDoorRowA
namespace Go.Proofs.Qxb6608622aDoor
open Go.ChangeShapes Go.WideShapes Go.ChangeAt Go.RowKit

theorem splits_tabs {W : World} (hL : laidMetH Tryd.prog Rows.fnLineAtSplitsTheRestIntoLinesRow.laid W) : Lib.Utf8Tabs 1 2 W := by
  rw [MakeChecks.laidMetH_plain _ _ _ (by kernel_rfl)] at hL
  exact tabs_of_list hL (by kernel_rfl) (by kernel_rfl) (.tail _ (.head _)) (.head _)

theorem splits_all {W : World} (a : Option Addr) (len cap : Nat) (zs : List Int) (hrow : IsRow W a len cap zs) (i : Int) (hT : Lib.Utf8Tabs 1 2 W) (hm : ∃ mx, W.cell? ⟨0, 0, none⟩ = some (.int .i64 mx)) :
    Calls Tryd.prog 3 #[.slice a len cap, .int .i64 i] W fun e w' => e = .returned (.bool true) ∧ Below W.heap.size W w' := by
  obtain ⟨mx, hmx⟩ := hm
  by_cases hbig : 1048576 < len
  · exact splits_big a len cap i hbig hrow.2 W
  by_cases hout : i < 0 ∨ (len : Int) < i
  · exact splits_out a len cap i (by omega) hout W
  obtain ⟨k, rfl⟩ : ∃ k : Nat, i = k := ⟨i.toNat, by omega⟩
  cases a with
  | none =>
    rcases hrow.1 with ⟨_, rfl, rfl⟩ | ⟨x, e, _⟩
    · obtain rfl : k = 0 := by omega
      exact splits_nil W hT mx hmx
    · cases e
  | some x =>
    have hl := hrow.len
    have key := splits_row x cap (toBytes (zs.take len)) k (by rw [hl]; omega) (by rw [hl]; omega) W hrow.at_ hT mx hmx
    rw [hl] at key
    exact key

set_option maxRecDepth 100000 in
theorem splits_lifted (os : Os) (started : os.Started) (H : Type) (enc : TypeId × Value → H) :
    ReturnsInHanded {} Tryd.checked os 3 .any (fun w args => (Rows.fnLineAtSplitsTheRestIntoLinesSpec.pre enc Tryd.prog Tryd.f3 Rows.fnLineAtSplitsTheRestIntoLinesRow.domain false w args ∧ laidMetH Tryd.prog Rows.fnLineAtSplitsTheRestIntoLinesRow.laid w) ∧ sizedMet enc Tryd.prog Tryd.f3 (OpenSpec.ofChange Rows.fnLineAtSplitsTheRestIntoLinesSpec) false w args)
      (Rows.fnLineAtSplitsTheRestIntoLinesSpec.post enc Tryd.prog Tryd.f3 false true false false) := by
  refine wrap_and_shaped (C := Tryd.checked) (X := fun w _ => laidMetH Tryd.prog Rows.fnLineAtSplitsTheRestIntoLinesRow.laid w) (fun _ _ _ hh h => h.of_heap hh) own started (by kernel_rfl) Tryd.func3
    (ChangeSpec.witness_shaped (enc := enc) (C := Tryd.checked) (os := os) (X := fun w _ => laidMetH Tryd.prog Rows.fnLineAtSplitsTheRestIntoLinesRow.laid w) false (World.laidAll Tryd.prog os Rows.fnLineAtSplitsTheRestIntoLinesRow.laid) #[.slice none 0 0, .int .i64 0] 8 (World.laidAll_os _ _ _)
      (World.shaped_of_ZipB (by kernel_rfl) (by kernel_rfl)) (by kernel_rfl) (by kernel_rfl) (by kernel_rfl)
      (by rw [MakeChecks.laidMetH_plain _ _ _ (by kernel_rfl)]; exact laidMet_laidAll _ (by kernel_rfl) (by kernel_rfl))) ?_
  intro W base args ds gs before hval0 hW hL hsh
  have hval : ∀ (j : Nat) t v, Tryd.f3.params[j]? = some t → args[j]? = some v → Value.okWide Tryd.prog W .any base t v := hval0
  have hW' := hW
  obtain ⟨p, q, hA0, hV, rfl, hfz, hnd⟩ := hW
  have hA : DataW.TrodAll enc Tryd.prog W 0 (fun _ => true) true Tryd.f3.params.toList args.toList ds p := hA0
  rw [Tryd.params3] at hA hval
  obtain ⟨v0, vs0, d0, ds0, p0, q0, hargs, rfl, rfl, h0, r0⟩ := trodAll_cons hA
  obtain ⟨v1, vs1, d1, ds1, p1, q1, rfl, rfl, rfl, h1, r1⟩ := trodAll_cons r0
  obtain ⟨rfl, rfl, rfl⟩ := trodAll_nil r1
  obtain rfl : args = #[v0, v1] := by cases args; simp_all
  obtain ⟨rfl, rfl⟩ := trodVars_none hV
  obtain ⟨a0, len0, cap0, rfl⟩ := okWide_slice Tryd.underlying22 (hval 0 22 v0 rfl rfl)
  have k0 := h0
  have lt0 : ∀ x ∈ p0, x.block < W.heap.size := by obtain ⟨m, hm⟩ := k0; exact DataW.trod_lt m _ _ _ hm
  obtain ⟨z0, w0⟩ := open_row h0
  obtain ⟨a1, rfl, rfl, rfl, w1⟩ := open_int Tryd.underlying3 (hval 1 3 v1 rfl rfl) h1
  clear hA0 hval0
  refine (splits_all a0 len0 cap0 z0 w0 a1 (splits_tabs hL) (maxlen_of hsh)).mono fun e W' ⟨he, bel⟩ => ?_
  subst he
  exact ⟨_, rfl, _, _, _, [], _, [], hW', trodAll_mk1 (shut_bool Tryd.underlying4 _), (trodAll_cons_mk (Below.trod laidOut (by kernel_rfl) (of_decide_eq_true (by kernel_rfl)) k0 bel lt0) (trodAll_cons_mk (shut_int Tryd.underlying3 w1) trodAll_mk0)), rfl, bel.frame _, fun h => by cases h⟩

theorem splits_said : Rows.FnLineAtSplitsTheRestIntoLinesSaid :=
  OpenClaim.holds_of_wide 3 Tryd.f3 rfl rfl rfl rfl rfl rfl rfl ⟨rfl, rfl, rfl, rfl, rfl⟩ rfl rfl rfl rfl rfl (by kernel_rfl) Tryd.func3 (by kernel_rfl)
    (of_decide_eq_true (by kernel_rfl)) (by unfold Func.isWrapper; first | (rw [if_pos (by decide +kernel)]; kernel_rfl) | (rw [if_neg (by decide +kernel)]; exact ⟨rfl, rfl⟩))
    (fun os started H enc _ => splits_lifted os started H enc)

theorem splits_card : Rows.FnLineAtSplitsTheRestIntoLinesCardSaid :=
  Claim7.holds_tied_plain_at .later [] [.data, .pinned] true Rows.fnLineAtSplitsTheRestIntoLinesCard.stood.harness false splits_said (fun _ h => by cases h) (by kernel_rfl) (fun _ h => by cases h) fnLineAtSplitsTheRestIntoLines_row_tie rfl ⟨rfl, rfl⟩ (by kernel_rfl) rfl
    (fun f fn hf hfn => by
      obtain rfl : f = 3 := Option.some.inj ((show Tryd.prog.funcNamed Rows.fnLineAtSplitsTheRestIntoLinesRow.func = some 3 by kernel_rfl).symm.trans hf) |>.symm
      obtain rfl : fn = Tryd.f3 := (Option.some.inj (Tryd.func3.symm.trans hfn)).symm
      exact ⟨by kernel_rfl, fun j t ht => by
        rw [Tryd.params3] at ht
        have hm : t ∈ [22, 3] := by simpa using Array.mem_of_getElem? ht
        have hall : ([22, 3].all fun u => !Tryd.prog.wantsStandIn u) = true := by kernel_rfl
        exact (show Tryd.prog.wantsStandIn t = false by simpa using List.all_eq_true.1 hall t hm)⟩)
    (by kernel_rfl)
end Go.Proofs.Qxb6608622aDoor
