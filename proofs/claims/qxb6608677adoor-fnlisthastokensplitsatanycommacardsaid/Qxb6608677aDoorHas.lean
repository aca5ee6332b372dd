import Derived.Test.Qxb6608677aDoorRangeL
namespace Go.Proofs.Qxb6608677aDoor
open Go.RowKit Go.Lib Go.Shelf
attribute [local go_sem] Oper.semAt_some

/-- http1.listHasToken. -/
def hasTok (l m : List UInt8) : Bool := (splitC l).any (fun it => sameT (cutR (cutL it)) m)
theorem seq36 (s t : ByteArray) (w : World) : Calls Tryd.prog 36 #[.string s, .string t, .int .i64 0] w fun e w' => e = .returned (.func (.func 42) #[] #[.pointer (some ⟨w.heap.size + 1, 0, none⟩), .pointer (some ⟨w.heap.size, 0, none⟩), .pointer (some ⟨w.heap.size + 1 + 1, 0, none⟩)]) ∧ w' = ((w.alloc (.cells #[.string s] 9)).alloc (.cells #[.string t] 9)).alloc (.cells #[.int .i64 0] 3) := by
  go_enter Tryd.func36, Tryd.ntmps36
  go_wp2
  go_ret
  exact ⟨rfl, rfl⟩
theorem seq31 (s t : ByteArray) (w : World) : Calls Tryd.prog 31 #[.string s, .string t] w fun e w' => e = .returned (.func (.func 42) #[] #[.pointer (some ⟨w.heap.size + 1, 0, none⟩), .pointer (some ⟨w.heap.size, 0, none⟩), .pointer (some ⟨w.heap.size + 1 + 1, 0, none⟩)]) ∧ w' = ((w.alloc (.cells #[.string s] 9)).alloc (.cells #[.string t] 9)).alloc (.cells #[.int .i64 0] 3) := by
  go_enter Tryd.func31, Tryd.ntmps31
  go_wp2_with fail
  refine (seq36 s t w).mono ?_
  rintro e w1 ⟨rfl, rfl⟩
  go_wp2_with fail
  go_ret
  exact ⟨rfl, rfl⟩

/-- One item held against the token. -/
def tokEq (t : ByteArray) (y : ByteArray) : Bool := sameT (cutR (cutL y.data.toList)) t.data.toList
def InvI (w : World) (t : ByteArray) (pre : List ByteArray) (W : World) : Prop :=
  (∀ y ∈ pre, tokEq t y = false) ∧ W.cell? ⟨w.heap.size, 0, none⟩ = some (.string t) ∧ W.cell? ⟨w.heap.size + 1, 0, none⟩ = some (.bool false) ∧ W.frozen? ⟨w.heap.size + 1, 0, none⟩ = false ∧ Below w.heap.size w W
def InvX (w : World) (t : ByteArray) (pre : List ByteArray) (W : World) : Prop :=
  (∃ y ∈ pre, tokEq t y = true) ∧ W.cell? ⟨w.heap.size + 1, 0, none⟩ = some (.bool true) ∧ Below w.heap.size w W
theorem InvI.later {w : World} {t : ByteArray} {pre : List ByteArray} {W W' : World} (h : InvI w t pre W) {B : Nat} (hB : w.heap.size + 2 ≤ B) (hb : Below B W W') : InvI w t pre W' := by
  obtain ⟨h1, h2, h3, h4, h5⟩ := h
  exact ⟨h1, (hb.cell (show w.heap.size < B by omega)).trans h2, (hb.cell (show w.heap.size + 1 < B by omega)).trans h3, (hb.frozen (show w.heap.size + 1 < B by omega)).trans h4, h5.trans (hb.mono (by omega))⟩
theorem InvX.later {w : World} {t : ByteArray} {pre : List ByteArray} {W W' : World} (h : InvX w t pre W) {B : Nat} (hB : w.heap.size + 2 ≤ B) (hb : Below B W W') : InvX w t pre W' := by
  obtain ⟨h1, h3, h5⟩ := h
  exact ⟨h1, (hb.cell (show w.heap.size + 1 < B by omega)).trans h3, h5.trans (hb.mono (by omega))⟩
theorem any_lists (l : List (List UInt8)) (t : ByteArray) (ys : List ByteArray) (h : lists ys = l) : l.any (fun it => sameT (cutR (cutL it)) t.data.toList) = ys.any (tokEq t) := by
  subst h
  unfold lists
  rw [List.any_map]
  rfl

theorem newCell (W : World) (v : Value) (t : TypeId) : (W.alloc (.cells #[v] t)).cell? ⟨W.heap.size, 0, none⟩ = some v ∧ (W.alloc (.cells #[v] t)).frozen? ⟨W.heap.size, 0, none⟩ = false := by
  refine ⟨World.cell?_alloc_at (w := W) #[v] t W.heap.size 0 rfl, ?_⟩
  have : (W.alloc (.cells #[v] t)).heap[W.heap.size]? = some (.cells #[v] t) := World.alloc_heap_new W _
  unfold World.frozen?
  simp only [this]
  rfl
theorem oldCell {W : World} {a : Addr} {v : Value} (o : Obj) (h : W.cell? a = some v) : (W.alloc o).cell? a = some v :=
  (((Below.refl _ W).alloc (Nat.le_refl _) o).cell (World.block_lt_of_cell? _ _ h)).trans h
theorem oldFrozen {W : World} {a : Addr} {v : Value} (o : Obj) (h : W.cell? a = some v) (hf : W.frozen? a = false) : (W.alloc o).frozen? a = false :=
  (((Below.refl _ W).alloc (Nat.le_refl _) o).frozen (World.block_lt_of_cell? _ _ h)).trans hf
theorem BX.later {W W' : World} {b B : Nat} {s : ByteArray} (h : BX W b s) (hb : Below B W W') (hB : b + 2 < B) : BX W' b s :=
  ⟨(hb.cell (show b < B by omega)).trans h.1, (hb.frozen (show b < B by omega)).trans h.2.1, (hb.cell (show b + 1 < B by omega)).trans h.2.2.1, (hb.cell (show b + 2 < B by omega)).trans h.2.2.2⟩

set_option maxHeartbeats 4000000 in
set_option maxRecDepth 100000 in
theorem has_call (s t : ByteArray) (hs : s.size ≤ 1048576) (ht : t.size ≤ 1048576) (w : World) (hT : FoldTabs w) :
    Calls Tryd.prog 25 #[.string s, .string t] w fun e w' => e = .returned (.bool (hasTok s.data.toList t.data.toList)) ∧ Below w.heap.size w w' := by
  have HTAB := hide hT
  clear hT
  refine (callsIn_wide (n := 10)).1 ?_
  refine callsIn_of_wp_marks Tryd.func25 rfl trivial ?_ rfl
  simp only [Tryd.ntmps25, List.size_toArray, List.length_cons, List.length_nil, Nat.reduceAdd, Nat.reduceSub, Array.replicate_succ, Array.replicate_zero, List.push_toArray, List.append_toArray, List.nil_append, List.cons_append]
  gi_wp2_with (refine ⟨trivial, ?_⟩; gi_at_call 31; refine (callsIn_wide.2 (seq31 _ _ _)).mono ?_; rintro e w' ⟨rfl, rfl⟩)
  have c0 := newCell w (.string t) 9
  have c1 := newCell (w.alloc (.cells #[.string t] 9)) (.bool false) 4
  have c2 := newCell ((w.alloc (.cells #[.string t] 9)).alloc (.cells #[.bool false] 4)) (.string s) 9
  have c3 := newCell (((w.alloc (.cells #[.string t] 9)).alloc (.cells #[.bool false] 4)).alloc (.cells #[.string s] 9)) (.string ⟨#[44]⟩) 9
  have c4 := newCell ((((w.alloc (.cells #[.string t] 9)).alloc (.cells #[.bool false] 4)).alloc (.cells #[.string s] 9)).alloc (.cells #[.string ⟨#[44]⟩] 9)) (.int .i64 0) 3
  simp only [World.size_alloc] at c1 c2 c3 c4
  obtain ⟨W0, hW0⟩ : ∃ W0, Hid (W0 = ((((w.alloc (.cells #[.string t] 9)).alloc (.cells #[.bool false] 4)).alloc (.cells #[.string s] 9)).alloc (.cells #[.string ⟨#[44]⟩] 9)).alloc (.cells #[.int .i64 0] 3)) := ⟨_, rfl⟩
  have hsz : W0.heap.size = w.heap.size + 5 := by rw [hW0.out]; simp
  have hB0 : Below w.heap.size w W0 := by
    rw [hW0.out]
    exact (((((Below.refl _ w).alloc (Nat.le_refl _) _).alloc (by simp) _).alloc (by simp; omega) _).alloc (by simp; omega) _).alloc (by simp; omega) _
  have hI0 : InvI w t [] W0 := by
    refine ⟨by simp, ?_, ?_, ?_, hB0⟩
    · rw [hW0.out]; exact oldCell _ (oldCell _ (oldCell _ (oldCell _ c0.1)))
    · rw [hW0.out]; exact oldCell _ (oldCell _ (oldCell _ c1.1))
    · rw [hW0.out]; exact oldFrozen _ (oldCell _ (oldCell _ c1.1)) (oldFrozen _ (oldCell _ c1.1) (oldFrozen _ c1.1 c1.2))
  have hX0 : BX W0 (w.heap.size + 1 + 1) s := by
    refine ⟨?_, ?_, ?_, ?_⟩
    · rw [hW0.out]; exact oldCell _ (oldCell _ c2.1)
    · rw [hW0.out]; exact oldFrozen _ (oldCell _ c2.1) (oldFrozen _ c2.1 c2.2)
    · rw [hW0.out]; exact oldCell _ c3.1
    · rw [hW0.out]; exact c4.1
  rw [← hW0.out]
  clear c0 c1 c2 c3 c4 hW0
  refine range_box (P := Tryd.prog) (n := 10) (gf := 42) (lb := #[.pointer (some ⟨w.heap.size + 1 + 1 + 1, 0, none⟩), .pointer (some ⟨w.heap.size + 1 + 1, 0, none⟩), .pointer (some ⟨w.heap.size + 1 + 1 + 1 + 1, 0, none⟩)]) rfl (enters_of Tryd.func42 (by kernel_rfl) rfl) (w.heap.size + 1 + 1) (by omega)
    (fun ys => lists ys = splitC s.data.toList) (fun ys => ∃ zs, lists ys ++ zs = splitC s.data.toList) ?hseq (InvI w t) (InvX w t) (fun pre W W' h hb => h.later (by omega) hb) ?hIs (fun pre W W' h hb => h.later (by omega) hb) hI0
    (fun x => { tmps := #[.string s, .string t, undef, .pointer (some ⟨w.heap.size, 0, none⟩), .pointer (some ⟨w.heap.size + 1, 0, none⟩), .string x, .string s, .func (.func 42) #[] #[.pointer (some ⟨w.heap.size + 1 + 1 + 1, 0, none⟩), .pointer (some ⟨w.heap.size + 1 + 1, 0, none⟩), .pointer (some ⟨w.heap.size + 1 + 1 + 1 + 1, 0, none⟩)], .string x, undef, undef, undef, undef], defers := [] }) ?assign ?body ?done ?stop
  case hseq =>
    intro l J Jx W hJs hY hbW h0J
    refine (split1_in (10 - 1) (by omega) l (w.heap.size + 1 + 1) s hs J Jx hJs ?_ W (hX0.later hbW (by omega)) h0J).mono ?_
    · intro pre x W1 hJ hx
      obtain ⟨fn, tmps, assign, body, hy, hR⟩ := hY pre x W1 hJ hx
      refine ⟨fn, tmps, assign, body, hy, hR.mono ?_⟩
      rintro e W' (⟨h1, h2, h3⟩ | h)
      · exact .inl ⟨h1, h2, fun s' hbx => hbx.later h3 (by omega)⟩
      · exact .inr h
    · rintro e W' ⟨hv, (⟨ys, h1, h2⟩ | ⟨ys, zs, h1, h2⟩)⟩
      · exact ⟨hv, .inl ⟨ys, h1, h2⟩⟩
      · exact ⟨hv, .inr ⟨ys, ⟨zs, h1⟩, h2⟩⟩
  case hIs =>
    rintro pre W v ⟨h1, h2, h3, h4, h5⟩
    exact ⟨h1, (World.cell?_setCell_other _ _ _ _ (by simp)).trans h2, (World.cell?_setCell_other _ _ _ _ (by simp)).trans h3, by rw [World.frozen?_setCell]; exact h4, h5.setCell (p := ⟨w.heap.size + 1 + 1, 0, none⟩) (by show w.heap.size ≤ w.heap.size + 1 + 1; omega) _⟩
  case assign =>
    intro l x W K hK
    gi_wp2
    exact hK
  case body =>
    rintro l pre x W hI hx hlt
    have hI' := hI
    obtain ⟨h1, h2, h3, h4, h5⟩ := hI
    have HTB := hide ((unhide HTAB).later h5)
    have HTD : Hid (FoldTabs W.drew) := (unhide HTB).later ⟨rfl, rfl, rfl, Nat.le_refl _, fun _ _ => rfl⟩
    have hmix : Tryd.prog.follows Departure.mixedOrders = true := by kernel_rfl
    have HTR := hide (fun W' => trim_call x (by omega) W')
    obtain ⟨TQ, hTQ⟩ : ∃ TQ, Hid (TQ = tokEq t x) := ⟨_, rfl⟩
    have HSM : Hid (∀ (U : ByteArray) (W' : World), FoldTabs W' → Hid (U.data.toList = cutR (cutL x.data.toList)) → U.size ≤ x.size → Calls Tryd.prog 32 #[.string U, .string t] W' fun e w' => e = .returned (.bool TQ) ∧ Below W'.heap.size W' w') := fun U W' hT' hU hUs => by
      have := same_call U t (by omega) ht W' hT'
      rw [unhide hU] at this
      rw [hTQ.out]
      exact this
    gi_wp2
    gi_region_with_o (first
      | (refine ⟨trivial, ?_⟩; gi_at_call 33; refine (CallsIn.inRound l (callsIn_wide.2 ((unhide HTR) _))).mono ?_; rintro e w' ⟨U, rfl, HU, hUs, rfl⟩)
      | (refine ⟨trivial, ?_⟩; gi_at_call 32; refine (CallsIn.inRound l (callsIn_wide.2 ((unhide HSM) U W.drew (unhide HTD) HU hUs))).mono ?_; rintro e w' ⟨rfl, hbS⟩))
    all_goals
      have hbW : Below W.heap.size W w' := (show Below W.heap.size W W.drew from ⟨rfl, rfl, rfl, Nat.le_refl _, fun _ _ => rfl⟩).trans hbS
      have hbw : Below w.heap.size w w' := h5.trans (hbW.mono (by omega))
      have hc2 : w'.cell? ⟨w.heap.size, 0, none⟩ = some (.string t) := (hbW.cell (show w.heap.size < W.heap.size by omega)).trans h2
      have hc3 : w'.cell? ⟨w.heap.size + 1, 0, none⟩ = some (.bool false) := (hbW.cell (show w.heap.size + 1 < W.heap.size by omega)).trans h3
      have hf3 : w'.frozen? ⟨w.heap.size + 1, 0, none⟩ = false := (hbW.frozen (show w.heap.size + 1 < W.heap.size by omega)).trans h4
      cases TQ with
      | true =>
        gi_wp2
        refine ⟨fun j hj hjl => (set_other _ _ _ _ (show j ≠ w.heap.size + 1 by omega)).trans (hbW.block j hjl), ⟨x, by simp, hTQ.out.symm⟩, World.cell?_setCell_same' _ _ _ (by rw [hc3]; rfl), hbw.setCell (p := ⟨w.heap.size + 1, 0, none⟩) (by show w.heap.size ≤ w.heap.size + 1; omega) _⟩
      | false =>
        gi_wp2
        refine ⟨hbW, ⟨fun y hy => ?_, hc2, hc3, hf3, hbw⟩⟩
        rcases List.mem_append.1 hy with h | h
        · exact h1 y h
        · obtain rfl : y = x := by simpa using h
          exact hTQ.out.symm
  case done =>
    rintro ys W hS ⟨h1, _, hcr, hfr, hB⟩ hK
    have hH : hasTok s.data.toList t.data.toList = false := by
      unfold hasTok
      rw [any_lists _ t ys hS, List.any_eq_false]
      intro y hy
      rw [h1 y hy]
      decide
    gi_wp2
    have hK' : (W.setCell ⟨w.heap.size + 1, 0, none⟩ (.bool false)).heap[W0.heap.size]? = some (.deferred (some [])) := (set_other _ _ _ _ (show W0.heap.size ≠ w.heap.size + 1 by omega)).trans hK
    refine ⟨by simp, .inl ⟨_, _, rfl, run_takeDeferred hK', ?_⟩⟩
    have hbp := below_put (W.setCell ⟨w.heap.size + 1, 0, none⟩ (.bool false)) W0.heap.size W0.heap.size (.deferred none) (Nat.le_refl _)
    have hc5 := (hbp.cell (p := ⟨w.heap.size + 1, 0, none⟩) (show w.heap.size + 1 < W0.heap.size by omega)).trans (World.cell?_setCell_same' W ⟨w.heap.size + 1, 0, none⟩ (.bool false) (by rw [hcr]; rfl))
    refine ⟨.bool false, ?_, by rw [hH], (hB.setCell (p := ⟨w.heap.size + 1, 0, none⟩) (by show w.heap.size ≤ w.heap.size + 1; omega) _).trans (hbp.mono (by omega))⟩
    simp [results, Tryd.f25, go_sem, hc5]
  case stop =>
    rintro ys W ⟨zs, hS⟩ ⟨⟨y, hy, hyt⟩, hcr, hB⟩ hK
    have hH : hasTok s.data.toList t.data.toList = true := by
      unfold hasTok
      rw [← hS, List.any_append, any_lists _ t ys rfl, List.any_eq_true.2 ⟨y, hy, hyt⟩]
      rfl
    gi_wp2
    refine ⟨by simp, .inl ⟨_, _, rfl, run_takeDeferred hK, ?_⟩⟩
    have hbp := below_put W W0.heap.size W0.heap.size (.deferred none) (Nat.le_refl _)
    have hc5 := (hbp.cell (p := ⟨w.heap.size + 1, 0, none⟩) (show w.heap.size + 1 < W0.heap.size by omega)).trans hcr
    refine ⟨.bool true, ?_, by rw [hH], hB.trans (hbp.mono (by omega))⟩
    simp [results, Tryd.f25, go_sem, hc5]
end Go.Proofs.Qxb6608677aDoor
