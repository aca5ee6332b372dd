import Derived.Test.Qxb6606399aDoorLaw3
import Derived.Test.Qxb6606399aDoorGood
import Derived.Test.Qxb6606399aDoorRowA
namespace Go.Proofs.Qxb6606399aDoor
open Go.ChangeShapes Go.WideShapes Go.ChangeAt Go.RowKit

theorem can_good {W : World} (hL : laidMetH Tryd.prog Rows.fnAppendDecimalIsCanonicalTextRow.laid W) (hm : ∃ mx, W.cell? ⟨0, 0, none⟩ = some (.int .i64 mx)) : Good W := by
  rw [MakeChecks.laidMetH_plain _ _ _ (by kernel_rfl)] at hL
  exact good_of hL hm

theorem can_all {W : World} (a a' : Option Addr) (len cap len' cap' : Nat) (zs zs' : List Int) (hrow : IsRow W a len cap zs) (hrow' : IsRow W a' len' cap' zs') (hG : Good W) :
    Calls Tryd.prog 3 #[.slice a len cap, .slice a' len' cap'] W fun e w' => e = .returned (.bool true) ∧ Below W.heap.size W w' := by
  by_cases hbig : 524288 < len ∨ 524288 < len'
  · exact law3_big a a' len len' cap cap' hbig hrow.2 hrow'.2 W
  obtain ⟨h1, h2, h3⟩ := row_len hrow
  obtain ⟨h1', h2', h3'⟩ := row_len hrow'
  have key := law3_any a a' cap cap' (toBytes (zs.take len)) (toBytes (zs'.take len')) (by rw [h1]; omega) (by rw [h1']; omega) W h2 h2' h3 hG
  rw [h1, h1'] at key
  exact key

set_option maxRecDepth 100000 in
theorem can_lifted (os : Os) (started : os.Started) (H : Type) (enc : TypeId × Value → H) :
    ReturnsInHanded {} Tryd.checked os 3 .any (fun w args => (Rows.fnAppendDecimalIsCanonicalTextSpec.pre enc Tryd.prog Tryd.f3 Rows.fnAppendDecimalIsCanonicalTextRow.domain false w args ∧ laidMetH Tryd.prog Rows.fnAppendDecimalIsCanonicalTextRow.laid w) ∧ sizedMet enc Tryd.prog Tryd.f3 (OpenSpec.ofChange Rows.fnAppendDecimalIsCanonicalTextSpec) false w args)
      (Rows.fnAppendDecimalIsCanonicalTextSpec.post enc Tryd.prog Tryd.f3 false true false false) := by
  refine wrap_and_shaped (C := Tryd.checked) (X := fun w _ => laidMetH Tryd.prog Rows.fnAppendDecimalIsCanonicalTextRow.laid w) (fun _ _ _ hh h => h.of_heap hh) own started (by kernel_rfl) Tryd.func3
    (ChangeSpec.witness_shaped (enc := enc) (C := Tryd.checked) (os := os) (X := fun w _ => laidMetH Tryd.prog Rows.fnAppendDecimalIsCanonicalTextRow.laid w) false (World.laidAll Tryd.prog os Rows.fnAppendDecimalIsCanonicalTextRow.laid) #[.slice none 0 0, .slice none 0 0] 8 (World.laidAll_os _ _ _)
      (World.shaped_of_ZipB (by kernel_rfl) (by kernel_rfl)) (by kernel_rfl) (by kernel_rfl) (by kernel_rfl)
      (by rw [MakeChecks.laidMetH_plain _ _ _ (by kernel_rfl)]; exact laidMet_laidAll _ (by kernel_rfl) (by kernel_rfl))) ?_
  intro W base args ds gs before hval0 hW hL hsh
  have hval : ∀ (j : Nat) t v, Tryd.f3.params[j]? = some t → args[j]? = some v → Value.okWide Tryd.prog W .any base t v := hval0
  have hW' := hW
  obtain ⟨p, q, hA0, hV, rfl, hfz, hnd⟩ := hW
  have hA : DataW.TrodAll enc Tryd.prog W 0 (fun _ => true) true Tryd.f3.params.toList args.toList ds p := hA0
  rw [Tryd.params3] at hA hval
  obtain ⟨v0, vs0, d0, ds0, p0, q0, hargs, rfl, rfl, h0, r0⟩ := trodAll_cons hA
  obtain ⟨v1, vs1, d1, ds1, p1, q1, rfl, rfl, rfl, h1, r1⟩ := trodAll_cons r0
  obtain ⟨rfl, rfl, rfl⟩ := trodAll_nil r1
  obtain rfl : args = #[v0, v1] := by cases args; simp_all
  obtain ⟨rfl, rfl⟩ := trodVars_none hV
  obtain ⟨a0, len0, cap0, rfl⟩ := okWide_slice Tryd.underlying22 (hval 0 22 v0 rfl rfl)
  have k0 := h0
  have lt0 : ∀ x ∈ p0, x.block < W.heap.size := by obtain ⟨m, hm⟩ := k0; exact DataW.trod_lt m _ _ _ hm
  obtain ⟨z0, w0⟩ := open_row h0
  obtain ⟨a1, len1, cap1, rfl⟩ := okWide_slice Tryd.underlying22 (hval 1 22 v1 rfl rfl)
  have k1 := h1
  have lt1 : ∀ x ∈ p1, x.block < W.heap.size := by obtain ⟨m, hm⟩ := k1; exact DataW.trod_lt m _ _ _ hm
  obtain ⟨z1, w1⟩ := open_row h1
  clear hA0 hval0
  refine (can_all a0 a1 len0 cap0 len1 cap1 z0 z1 w0 w1 (can_good hL (maxlen_of hsh))).mono fun e W' ⟨he, bel⟩ => ?_
  subst he
  exact ⟨_, rfl, _, _, _, [], _, [], hW', trodAll_mk1 (shut_bool Tryd.underlying4 _), (trodAll_cons_mk (Below.trod laidOut (by kernel_rfl) (of_decide_eq_true (by kernel_rfl)) k0 bel lt0) (trodAll_cons_mk (Below.trod laidOut (by kernel_rfl) (of_decide_eq_true (by kernel_rfl)) k1 bel lt1) trodAll_mk0)), rfl, bel.frame _, fun h => by cases h⟩

theorem can_said : Rows.FnAppendDecimalIsCanonicalTextSaid :=
  OpenClaim.holds_of_wide 3 Tryd.f3 rfl rfl rfl rfl rfl rfl rfl ⟨rfl, rfl, rfl, rfl, rfl⟩ rfl rfl rfl rfl rfl (by kernel_rfl) Tryd.func3 (by kernel_rfl)
    (of_decide_eq_true (by kernel_rfl)) (by unfold Func.isWrapper; first | (rw [if_pos (by decide +kernel)]; kernel_rfl) | (rw [if_neg (by decide +kernel)]; exact ⟨rfl, rfl⟩))
    (fun os started H enc _ => can_lifted os started H enc)

theorem can_card : Rows.FnAppendDecimalIsCanonicalTextCardSaid :=
  Claim7.holds_tied_plain_at .later [] [.data, .data, .data, .data, .pinned] true Rows.fnAppendDecimalIsCanonicalTextCard.stood.harness false can_said (fun _ h => by cases h) (by kernel_rfl) (fun _ h => by cases h) fnAppendDecimalIsCanonicalText_row_tie rfl ⟨rfl, rfl⟩ (by kernel_rfl) rfl
    (fun f fn hf hfn => by
      obtain rfl : f = 3 := Option.some.inj ((show Tryd.prog.funcNamed Rows.fnAppendDecimalIsCanonicalTextRow.func = some 3 by kernel_rfl).symm.trans hf) |>.symm
      obtain rfl : fn = Tryd.f3 := (Option.some.inj (Tryd.func3.symm.trans hfn)).symm
      exact ⟨by kernel_rfl, fun j t ht => by
        rw [Tryd.params3] at ht
        have hm : t ∈ [22, 22] := by simpa using Array.mem_of_getElem? ht
        have hall : ([22, 22].all fun u => !Tryd.prog.wantsStandIn u) = true := by kernel_rfl
        exact (show Tryd.prog.wantsStandIn t = false by simpa using List.all_eq_true.1 hall t hm)⟩)
    (by kernel_rfl)
end Go.Proofs.Qxb6606399aDoor
