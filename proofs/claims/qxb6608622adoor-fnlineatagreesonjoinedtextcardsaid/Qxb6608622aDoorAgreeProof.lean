import Derived.Test.Qxb6608622aDoorAgree
import Derived.Test.Qxb6608622aDoorRowA
namespace Go.Proofs.Qxb6608622aDoor
open Go.ChangeShapes Go.WideShapes Go.ChangeAt Go.RowKit

theorem agree_tabs {W : World} (hL : laidMetH Tryd.prog Rows.fnLineAtAgreesOnJoinedTextRow.laid W) : Lib.Utf8Tabs 1 2 W := by
  rw [MakeChecks.laidMetH_plain _ _ _ (by kernel_rfl)] at hL
  exact tabs_of_list hL (by kernel_rfl) (by kernel_rfl) (.tail _ (.head _)) (.head _)

theorem row_len {W : World} {a : Option Addr} {len cap : Nat} {zs : List Int} (h : IsRow W a len cap zs) : (toBytes (zs.take len)).length = len ∧ At W a (toBytes (zs.take len)) ∧ (a = none → cap = 0 ∧ (toBytes (zs.take len)).length = 0) := by
  cases a with
  | none =>
    rcases h.1 with ⟨_, rfl, rfl⟩ | ⟨x, e, _⟩
    · exact ⟨by simp [toBytes], fun h0 => by simp [toBytes] at h0, fun _ => ⟨rfl, by simp [toBytes]⟩⟩
    · cases e
  | some x => exact ⟨h.len, h.at_, fun e => by cases e⟩
theorem agree_all {W : World} (a a' : Option Addr) (len cap len' cap' : Nat) (zs zs' : List Int) (hrow : IsRow W a len cap zs) (hrow' : IsRow W a' len' cap' zs') (i : Int) (hT : Lib.Utf8Tabs 1 2 W) (hm : ∃ mx, W.cell? ⟨0, 0, none⟩ = some (.int .i64 mx)) :
    Calls Tryd.prog 4 #[.slice a len cap, .slice a' len' cap', .int .i64 i] W fun e w' => e = .returned (.bool true) ∧ Below W.heap.size W w' := by
  obtain ⟨mx, hmx⟩ := hm
  by_cases hbig : 1048576 < len + len'
  · exact agree_big a a' len cap len' cap' i hbig hrow.2 hrow'.2 W
  by_cases hout : i < 0 ∨ (len : Int) < i
  · exact agree_out a a' len cap len' cap' i (by omega) hout W
  obtain ⟨k, rfl⟩ : ∃ k : Nat, i = k := ⟨i.toNat, by omega⟩
  obtain ⟨h1, h2, h3⟩ := row_len hrow
  obtain ⟨h1', h2', h3'⟩ := row_len hrow'
  have key := agree_row a a' cap cap' (toBytes (zs.take len)) (toBytes (zs'.take len')) k (by rw [h1]; omega) (by rw [h1, h1']; omega) W h2 h2' h3 h3' hT mx hmx
  rw [h1, h1'] at key
  exact key

set_option maxRecDepth 100000 in
theorem agree_lifted (os : Os) (started : os.Started) (H : Type) (enc : TypeId × Value → H) :
    ReturnsInHanded {} Tryd.checked os 4 .any (fun w args => (Rows.fnLineAtAgreesOnJoinedTextSpec.pre enc Tryd.prog Tryd.f4 Rows.fnLineAtAgreesOnJoinedTextRow.domain false w args ∧ laidMetH Tryd.prog Rows.fnLineAtAgreesOnJoinedTextRow.laid w) ∧ sizedMet enc Tryd.prog Tryd.f4 (OpenSpec.ofChange Rows.fnLineAtAgreesOnJoinedTextSpec) false w args)
      (Rows.fnLineAtAgreesOnJoinedTextSpec.post enc Tryd.prog Tryd.f4 false true false false) := by
  refine wrap_and_shaped (C := Tryd.checked) (X := fun w _ => laidMetH Tryd.prog Rows.fnLineAtAgreesOnJoinedTextRow.laid w) (fun _ _ _ hh h => h.of_heap hh) own started (by kernel_rfl) Tryd.func4
    (ChangeSpec.witness_shaped (enc := enc) (C := Tryd.checked) (os := os) (X := fun w _ => laidMetH Tryd.prog Rows.fnLineAtAgreesOnJoinedTextRow.laid w) false (World.laidAll Tryd.prog os Rows.fnLineAtAgreesOnJoinedTextRow.laid) #[.slice none 0 0, .slice none 0 0, .int .i64 0] 8 (World.laidAll_os _ _ _)
      (World.shaped_of_ZipB (by kernel_rfl) (by kernel_rfl)) (by kernel_rfl) (by kernel_rfl) (by kernel_rfl)
      (by rw [MakeChecks.laidMetH_plain _ _ _ (by kernel_rfl)]; exact laidMet_laidAll _ (by kernel_rfl) (by kernel_rfl))) ?_
  intro W base args ds gs before hval0 hW hL hsh
  have hval : ∀ (j : Nat) t v, Tryd.f4.params[j]? = some t → args[j]? = some v → Value.okWide Tryd.prog W .any base t v := hval0
  have hW' := hW
  obtain ⟨p, q, hA0, hV, rfl, hfz, hnd⟩ := hW
  have hA : DataW.TrodAll enc Tryd.prog W 0 (fun _ => true) true Tryd.f4.params.toList args.toList ds p := hA0
  rw [Tryd.params4] at hA hval
  obtain ⟨v0, vs0, d0, ds0, p0, q0, hargs, rfl, rfl, h0, r0⟩ := trodAll_cons hA
  obtain ⟨v1, vs1, d1, ds1, p1, q1, rfl, rfl, rfl, h1, r1⟩ := trodAll_cons r0
  obtain ⟨v2, vs2, d2, ds2, p2, q2, rfl, rfl, rfl, h2, r2⟩ := trodAll_cons r1
  obtain ⟨rfl, rfl, rfl⟩ := trodAll_nil r2
  obtain rfl : args = #[v0, v1, v2] := by cases args; simp_all
  obtain ⟨rfl, rfl⟩ := trodVars_none hV
  obtain ⟨a0, len0, cap0, rfl⟩ := okWide_slice Tryd.underlying22 (hval 0 22 v0 rfl rfl)
  have k0 := h0
  have lt0 : ∀ x ∈ p0, x.block < W.heap.size := by obtain ⟨m, hm⟩ := k0; exact DataW.trod_lt m _ _ _ hm
  obtain ⟨z0, w0⟩ := open_row h0
  obtain ⟨a1, len1, cap1, rfl⟩ := okWide_slice Tryd.underlying22 (hval 1 22 v1 rfl rfl)
  have k1 := h1
  have lt1 : ∀ x ∈ p1, x.block < W.heap.size := by obtain ⟨m, hm⟩ := k1; exact DataW.trod_lt m _ _ _ hm
  obtain ⟨z1, w1⟩ := open_row h1
  obtain ⟨a2, rfl, rfl, rfl, w2⟩ := open_int Tryd.underlying3 (hval 2 3 v2 rfl rfl) h2
  clear hA0 hval0
  refine (agree_all a0 a1 len0 cap0 len1 cap1 z0 z1 w0 w1 a2 (agree_tabs hL) (maxlen_of hsh)).mono fun e W' ⟨he, bel⟩ => ?_
  subst he
  exact ⟨_, rfl, _, _, _, [], _, [], hW', trodAll_mk1 (shut_bool Tryd.underlying4 _), (trodAll_cons_mk (Below.trod laidOut (by kernel_rfl) (of_decide_eq_true (by kernel_rfl)) k0 bel lt0) (trodAll_cons_mk (Below.trod laidOut (by kernel_rfl) (of_decide_eq_true (by kernel_rfl)) k1 bel lt1) (trodAll_cons_mk (shut_int Tryd.underlying3 w2) trodAll_mk0))), rfl, bel.frame _, fun h => by cases h⟩

theorem agree_said : Rows.FnLineAtAgreesOnJoinedTextSaid :=
  OpenClaim.holds_of_wide 4 Tryd.f4 rfl rfl rfl rfl rfl rfl rfl ⟨rfl, rfl, rfl, rfl, rfl⟩ rfl rfl rfl rfl rfl (by kernel_rfl) Tryd.func4 (by kernel_rfl)
    (of_decide_eq_true (by kernel_rfl)) (by unfold Func.isWrapper; first | (rw [if_pos (by decide +kernel)]; kernel_rfl) | (rw [if_neg (by decide +kernel)]; exact ⟨rfl, rfl⟩))
    (fun os started H enc _ => agree_lifted os started H enc)

theorem agree_card : Rows.FnLineAtAgreesOnJoinedTextCardSaid :=
  Claim7.holds_tied_plain_at .later [] [.data, .pinned] true Rows.fnLineAtAgreesOnJoinedTextCard.stood.harness false agree_said (fun _ h => by cases h) (by kernel_rfl) (fun _ h => by cases h) fnLineAtAgreesOnJoinedText_row_tie rfl ⟨rfl, rfl⟩ (by kernel_rfl) rfl
    (fun f fn hf hfn => by
      obtain rfl : f = 4 := Option.some.inj ((show Tryd.prog.funcNamed Rows.fnLineAtAgreesOnJoinedTextRow.func = some 4 by kernel_rfl).symm.trans hf) |>.symm
      obtain rfl : fn = Tryd.f4 := (Option.some.inj (Tryd.func4.symm.trans hfn)).symm
      exact ⟨by kernel_rfl, fun j t ht => by
        rw [Tryd.params4] at ht
        have hm : t ∈ [22, 22, 3] := by simpa using Array.mem_of_getElem? ht
        have hall : ([22, 22, 3].all fun u => !Tryd.prog.wantsStandIn u) = true := by kernel_rfl
        exact (show Tryd.prog.wantsStandIn t = false by simpa using List.all_eq_true.1 hall t hm)⟩)
    (by kernel_rfl)
end Go.Proofs.Qxb6608622aDoor
