import Derived.Test.Qxb6606353aDoorRowA
namespace Go.Proofs.Qxb6606353aDoor
open Go.ChangeShapes Go.WideShapes Go.ChangeAt Go.RowKit
open Pl

/-- A listed variable of an interface type holds an interface value that is not nil. -/
theorem laid_iface {P : Program} {n nm : String} {d : DataW Unit} {r : List (String × DataW Unit)} {W : World} {g : Nat} {ti : TypeId} {ms : Array (String × TypeId)}
    (h : laidMet P ((n, .iface nm d) :: r) W) (hg : P.globalNamed n = some g) (ht : (P.globals[g]?).map (·.type) = some ti) (hi : P.underlying ti = some (.interface ms)) :
    ∃ u v, W.cell? ⟨g, 0, none⟩ = some (.iface u v) := by
  obtain ⟨ps, ⟨g0, t0, cs0, f0, p0, q0, hg0, ht0, hv0, hd0, _, e0⟩, _, hrows⟩ := h
  obtain rfl := Option.some.inj (hg.symm.trans hg0)
  obtain rfl := Option.some.inj (ht.symm.trans ht0)
  obtain ⟨l0⟩ := cs0
  obtain ⟨f1, u, v, e, _, _⟩ := iface_of_trod hi hd0
  simp only at e
  subst e
  exact ⟨u, v, by simpa using World.var?_cell hg0 hv0 0⟩

/-- What the law's walk is told of the variables: what the library's own road reads. -/
theorem vars_of {W : World} (hL : laidMetH Tryd.prog Rows.fnWholeNumberMatchesPositionalModelRow.laid W) (hsh : W.ShapedOpen Tryd.prog) :
    (∃ mx, W.cell? ⟨0, 0, none⟩ = some (.int .i64 mx)) ∧ (∃ u v, W.cell? ⟨2, 0, none⟩ = some (.iface u v)) ∧ (∃ u v, W.cell? ⟨3, 0, none⟩ = some (.iface u v)) := by
  rw [MakeChecks.laidMetH_plain _ _ _ (by kernel_rfl)] at hL
  have h4 := hL.tail.tail.tail.tail
  have h5 := h4.tail
  exact ⟨Tryd.laysM145.s1_3 W hsh, laid_iface h5 (by kernel_rfl) (by kernel_rfl) Tryd.underlying44, laid_iface h4 (by kernel_rfl) (by kernel_rfl) Tryd.underlying44⟩

def toBytes (zs : List Int) : List UInt8 := zs.map fun n => UInt8.ofNat n.toNat

/-- THE LAW AT EVERY SLICE. -/
theorem law_all {W : World} (a : Option Addr) (len cap : Nat) (zs : List Int) (hlen : len ≤ 9223372036854775807)
    (hrow : (a = none ∧ len = 0 ∧ cap = 0) ∨ ∃ x, a = some x ∧ len ≤ cap ∧ zs.length = cap ∧ (∀ i, i < zs.length → W.cell? (x.add i) = some (.int .u8 (zs.getD i 0))) ∧ ∀ n ∈ zs, (Lit.int .u8 n).wf = true)
    (hV : (∃ mx, W.cell? ⟨0, 0, none⟩ = some (.int .i64 mx)) ∧ (∃ u v, W.cell? ⟨2, 0, none⟩ = some (.iface u v)) ∧ (∃ u v, W.cell? ⟨3, 0, none⟩ = some (.iface u v))) :
    Calls Tryd.prog 3 #[.slice a len cap] W fun e w' => e = .returned (.bool true) ∧ Below W.heap.size W w' := by
  rcases hrow with ⟨rfl, rfl, rfl⟩ | ⟨x, rfl, hlc, hz, hcell, hwf⟩
  · exact law_nil W
  · by_cases hbig : 1048576 < len
    · exact law_big (some x) len cap hbig hlen W
    · obtain ⟨⟨mx, hmx⟩, ⟨u2, v2, h2⟩, u3, v3, h3⟩ := hV
      have hl : (toBytes (zs.take len)).length = len := by simp [toBytes]; omega
      have key := law_some x cap (toBytes (zs.take len)) W (by rw [hl]; omega) (fun h0 => by
        rw [hl] at h0
        obtain ⟨b, off, rfl, hc⟩ := ints_at hcell (show 0 < zs.length by omega)
        refine ⟨b, off, rfl, fun i hi => ?_⟩
        rw [hl] at hi
        rw [hc i (by omega)]
        have hm : zs.getD i 0 ∈ zs := by
          rw [List.getD, List.getElem?_eq_getElem (by omega : i < zs.length)]; exact List.getElem_mem _
        have hw := hwf _ hm
        have hb := bounds_u8 hw
        have e : (toBytes (zs.take len))[i]'(by rw [hl]; exact hi) = UInt8.ofNat (zs.getD i 0).toNat := by
          simp [toBytes, List.getD, List.getElem?_eq_getElem (by omega : i < zs.length)]
        rw [e]
        have : ((UInt8.ofNat (zs.getD i 0).toNat).toNat : Int) = zs.getD i 0 := by
          rw [UInt8.toNat_ofNat']; omega
        rw [this]) mx hmx _ _ h2 (.inr ⟨_, _, rfl⟩) h3 (.inr ⟨_, _, rfl⟩)
      rw [hl] at key
      exact key

set_option maxRecDepth 100000 in
theorem whole_lifted (os : Os) (started : os.Started) (H : Type) (enc : TypeId × Value → H) :
    ReturnsInHanded {} Tryd.checked os 3 .any (fun w args => (Rows.fnWholeNumberMatchesPositionalModelSpec.pre enc Tryd.prog Tryd.f3 Rows.fnWholeNumberMatchesPositionalModelRow.domain false w args ∧ laidMetH Tryd.prog Rows.fnWholeNumberMatchesPositionalModelRow.laid w) ∧ sizedMet enc Tryd.prog Tryd.f3 (OpenSpec.ofChange Rows.fnWholeNumberMatchesPositionalModelSpec) false w args)
      (Rows.fnWholeNumberMatchesPositionalModelSpec.post enc Tryd.prog Tryd.f3 false true false false) := by
  refine wrap_and_shaped (C := Tryd.checked) (X := fun w _ => laidMetH Tryd.prog Rows.fnWholeNumberMatchesPositionalModelRow.laid w) (fun _ _ _ hh h => h.of_heap hh) own started (by kernel_rfl) Tryd.func3
    (ChangeSpec.witness_shaped (enc := enc) (C := Tryd.checked) (os := os) (X := fun w _ => laidMetH Tryd.prog Rows.fnWholeNumberMatchesPositionalModelRow.laid w) false (World.laidAll Tryd.prog os Rows.fnWholeNumberMatchesPositionalModelRow.laid) #[.slice none 0 0] 8 (World.laidAll_os _ _ _)
      (World.shaped_of_ZipB (by kernel_rfl) (by kernel_rfl)) (by kernel_rfl) (by kernel_rfl) (by kernel_rfl)
      (by rw [MakeChecks.laidMetH_plain _ _ _ (by kernel_rfl)]; exact laidMet_laidAll _ (by kernel_rfl) (by kernel_rfl))) ?_
  intro W base args ds gs before hval0 hW hL hsh
  have hval : ∀ (j : Nat) t v, Tryd.f3.params[j]? = some t → args[j]? = some v → Value.okWide Tryd.prog W .any base t v := hval0
  have hW' := hW
  obtain ⟨p, q, hA0, hV, rfl, hfz, hnd⟩ := hW
  have hA : DataW.TrodAll enc Tryd.prog W 0 (fun _ => true) true Tryd.f3.params.toList args.toList ds p := hA0
  rw [Tryd.params3] at hA hval
  obtain ⟨v0, vs0, d0, ds0, p0, q0, hargs, rfl, rfl, h0, r0⟩ := trodAll_cons hA
  obtain ⟨rfl, rfl, rfl⟩ := trodAll_nil r0
  obtain rfl : args = #[v0] := by cases args; simp_all
  obtain ⟨rfl, rfl⟩ := trodVars_none hV
  obtain ⟨a0, len0, cap0, rfl⟩ := okWide_slice Tryd.underlying22 (hval 0 22 v0 rfl rfl)
  have k0 := h0
  have lt0 : ∀ x ∈ p0, x.block < W.heap.size := by obtain ⟨m, hm⟩ := k0; exact DataW.trod_lt m _ _ _ hm
  obtain ⟨z0, w0, wl⟩ : ∃ zs : List Int, ((a0 = none ∧ len0 = 0 ∧ cap0 = 0) ∨ ∃ x, a0 = some x ∧ len0 ≤ cap0 ∧ zs.length = cap0 ∧ (∀ i, i < zs.length → W.cell? (x.add i) = some (.int .u8 (zs.getD i 0))) ∧ ∀ n ∈ zs, (Lit.int .u8 n).wf = true) ∧ len0 ≤ 9223372036854775807 := by
    obtain ⟨fuel, hf⟩ := h0
    rcases open_ints Tryd.underlying22 Tryd.underlying5 (by kernel_rfl) hf with ⟨hcs, _⟩ | ⟨x, l, c, zs, hcs, _, hl, hm, hz, _, hcell, hwz⟩
    · simp [Value.cells] at hcs
      obtain ⟨rfl, rfl, rfl⟩ := hcs
      exact ⟨[], .inl ⟨rfl, rfl, rfl⟩, by omega⟩
    · simp [Value.cells] at hcs
      obtain ⟨rfl, rfl, rfl⟩ := hcs
      refine ⟨zs, .inr ⟨_, rfl, hl, by simpa using hz, hcell, hwz⟩, ?_⟩
      unfold maxLen at hm
      omega
  clear hA0 hval0
  refine (law_all a0 len0 cap0 z0 wl w0 (vars_of hL hsh)).mono fun e W' ⟨he, bel⟩ => ?_
  subst he
  exact ⟨_, rfl, _, _, _, [], _, [], hW', trodAll_mk1 (shut_bool Tryd.underlying4 _), (trodAll_cons_mk (Below.trod laidOut (by kernel_rfl) (of_decide_eq_true (by kernel_rfl)) k0 bel lt0) trodAll_mk0), rfl, bel.frame _, fun h => by cases h⟩

theorem whole_row : Rows.FnWholeNumberMatchesPositionalModelSaid :=
  OpenClaim.holds_of_wide 3 Tryd.f3 rfl rfl rfl rfl rfl rfl rfl ⟨rfl, rfl, rfl, rfl, rfl⟩ rfl rfl rfl rfl rfl (by kernel_rfl) Tryd.func3 (by kernel_rfl)
    (of_decide_eq_true (by kernel_rfl)) (by unfold Func.isWrapper; first | (rw [if_pos (by decide +kernel)]; kernel_rfl) | (rw [if_neg (by decide +kernel)]; exact ⟨rfl, rfl⟩))
    (fun os started H enc _ => whole_lifted os started H enc)

theorem whole_card : Rows.FnWholeNumberMatchesPositionalModelCardSaid :=
  Claim7.holds_tied_plain_at .later [] [.data, .data, .data, .data, .called, .called, .pinned, .pinned] true Rows.fnWholeNumberMatchesPositionalModelCard.stood.harness true whole_row (fun _ h => by cases h) (by kernel_rfl) (fun _ h => by cases h) fnWholeNumberMatchesPositionalModel_row_tie rfl ⟨rfl, rfl⟩ (by kernel_rfl) rfl
    (fun f fn hf hfn => by
      obtain rfl : f = 3 := Option.some.inj ((show Tryd.prog.funcNamed Rows.fnWholeNumberMatchesPositionalModelRow.func = some 3 by kernel_rfl).symm.trans hf) |>.symm
      obtain rfl : fn = Tryd.f3 := (Option.some.inj (Tryd.func3.symm.trans hfn)).symm
      exact ⟨by kernel_rfl, fun j t ht => by
        rw [Tryd.params3] at ht
        have hm : t ∈ [22] := by simpa using Array.mem_of_getElem? ht
        have hall : ([22].all fun u => !Tryd.prog.wantsStandIn u) = true := by kernel_rfl
        exact (show Tryd.prog.wantsStandIn t = false by simpa using List.all_eq_true.1 hall t hm)⟩)
    (by kernel_rfl)
end Go.Proofs.Qxb6606353aDoor
