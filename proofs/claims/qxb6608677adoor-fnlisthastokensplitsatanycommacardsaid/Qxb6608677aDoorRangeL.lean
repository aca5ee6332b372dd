import Derived.Test.Qxb6608677aDoorSplitW
namespace Go.Proofs.Qxb6608677aDoor
open Go.RowKit Go.Lib Go.Shelf

theorem below_put (W : World) (B l : Nat) (o : Obj) (h : B ≤ l) : Below B W (W.putObj l o) :=
  ⟨rfl, rfl, rfl, by simp, fun k hk => World.putObj_heap_other (by omega)⟩
theorem set_other (W : World) (p : Addr) (v : Value) (j : Nat) (h : j ≠ p.block) : (W.setCell p v).heap[j]? = W.heap[j]? := by
  simp [World.setCell, Array.getElem?_modify, Ne.symm h]

/-- How a round of this program's loop is left: it goes on, having turned nothing that lay; or it returns, having turned nothing from block B on. -/
def boxPost (B : Nat) (I Ix : List ByteArray → World → Prop) (xs : List ByteArray) (W : World) : Exit → Act → World → Prop
  | .normal, _, W' => Below W.heap.size W W' ∧ I xs W'
  | .ret, _, W' => (∀ j, B ≤ j → j < W.heap.size → W'.heap[j]? = W.heap[j]?) ∧ Ix xs W'
  | _, _, _ => False

/-- A range over an iterator that keeps its state in a box of its own (block b, below B: the heap's size where the loop begins). -/
theorem range_box {P : Program} {n : Nat} {g : Operand} {p : Tmp} {assign body : Code} {Q : Exit → Act → World → Prop} {a : Act} {w : World} {gf : Nat} {lb : Array Value}
    (hg : a.eval g = .func (.func gf) #[] lb) (eg : ∀ args w, (callFunc gf args).run P w = .ok (.enter gf args) w) (b : Nat) (hb : b < w.heap.size) (S Sp : List ByteArray → Prop)
    (hseq : ∀ (l : Nat) (J Jx : List ByteArray → World → Prop) (W : World), (∀ pre W v, J pre W → J pre (W.setCell ⟨b, 0, none⟩ v)) →
      (∀ pre x W, J pre W → x.size ≤ 1048576 → YieldAt Fence.wide (n - 1 - 1) P l #[.string x] W fun e W' => (e = .returned (.bool true) ∧ J (pre ++ [x]) W' ∧ Below w.heap.size W W') ∨ (e = .returned (.bool false) ∧ Jx (pre ++ [x]) W')) →
      Below w.heap.size w W → J [] W → CallsIn Fence.wide (n - 1) P gf (#[.func (.yield l) #[] #[]] ++ lb) W fun e W' => (∃ v, e = .returned v) ∧ ((∃ ys, S ys ∧ J ys W') ∨ (∃ ys, Sp ys ∧ Jx ys W')))
    (I Ix : List ByteArray → World → Prop) (hI : ∀ pre W W', I pre W → Below w.heap.size W W' → I pre W') (hIs : ∀ pre W v, I pre W → I pre (W.setCell ⟨b, 0, none⟩ v)) (hIx : ∀ pre W W', Ix pre W → Below w.heap.size W W' → Ix pre W') (h0 : I [] w) (a₁ : ByteArray → Act)
    (hassign : ∀ (l : Nat) (x : ByteArray) (W : World) (K : Act → World → Prop), K (a₁ x) W →
      assign.wpIn (Fence.wide.inRound l) (n - 1 - 1) P (Exit.then K (fun _ _ _ => False)) { tmps := (#[p].zip #[Value.string x]).foldl (fun t (p, v) => t.setIfInBounds p v) a.tmps, defers := [] } W)
    (hbody : ∀ (l : Nat) (pre : List ByteArray) (x : ByteArray) (W : World), I pre W → x.size ≤ 1048576 → w.heap.size + 1 < W.heap.size → body.wpIn (Fence.wide.inRound l) (n - 1 - 1) P (boxPost w.heap.size I Ix (pre ++ [x]) W) (a₁ x) W)
    (hdone : ∀ (xs : List ByteArray) (W : World), S xs → I xs W → W.heap[w.heap.size]? = some (.deferred (some [])) → Q .normal { a with defers := { target := .collected w.heap.size, args := #[] } :: a.defers } W)
    (hstop : ∀ (pre : List ByteArray) (W : World), Sp pre → Ix pre W → W.heap[w.heap.size]? = some (.deferred (some [])) → Code.ret.wpIn Fence.wide n P Q { a with defers := { target := .collected w.heap.size, args := #[] } :: a.defers } W) :
    (Code.rangeFunc g #[p] assign body).wpIn Fence.wide n P Q a w := by
  refine wpIn_rangeFunc ?_
  intro fn hfn
  obtain ⟨B, hB⟩ : ∃ B, B = w.heap.size := ⟨_, rfl⟩
  obtain ⟨rec, hrec⟩ : ∃ rec : LoopState → Option Code → Loop, rec = fun st pe => { state := st, pending := pe, fn, tmps := a.tmps, params := #[p], assign, body, defers := w.heap.size } := ⟨_, rfl⟩
  obtain ⟨W1, hW1⟩ : ∃ W1, W1 = (w.alloc (.deferred (some []))).alloc (.loop (rec .ready none)) := ⟨_, rfl⟩
  have hb1 : Below w.heap.size w W1 := by rw [hW1]; exact ((Below.refl _ w).alloc (Nat.le_refl _) _).alloc (by simp) _
  have hL1 : W1.heap[B + 1]? = some (.loop (rec .ready none)) := by
    have := World.alloc_heap_new (w.alloc (.deferred (some []))) (.loop (rec .ready none))
    rw [World.size_alloc] at this
    rw [hW1, hB]
    exact this
  have hD1 : W1.heap[B]? = some (.deferred (some [])) := by
    rw [hW1, hB]
    exact (Below.heap_alloc _ _ _ (by simp)).trans (World.alloc_heap_new w _)
  refine ⟨B + 1, [{ target := .collected B, args := #[] }], W1, { target := .fn (.func gf) lb, args := #[.func (.yield (B + 1)) #[] #[]] }, W1, gf, #[.func (.yield (B + 1)) #[] #[]] ++ lb, W1, ?_, ?_, ?_, ?_, ?_, ?_⟩
  · rw [hW1, hrec, hB]
    exact run_enterLoop_outer _ _ _ _ _
  · simp only [resolve, hg]
    simp [go_sem]
  · intro _ _
    trivial
  · simp [invoke, go_sem, eg]
  · intro h
    cases h
  · rw [← hB] at hdone hstop
    have hbB : b < B := by rw [hB]; exact hb
    refine (hseq (B + 1) (fun pre W => I pre W ∧ W.heap[B + 1]? = some (.loop (rec .ready none)) ∧ W.heap[B]? = some (.deferred (some [])))
      (fun pre W => Ix pre W ∧ W.heap[B + 1]? = some (.loop (rec .done (some .ret))) ∧ W.heap[B]? = some (.deferred (some []))) W1 ?_ ?_ hb1 ⟨hI _ _ _ h0 hb1, hL1, hD1⟩).mono ?_
    · rintro pre W v ⟨h1, h2, h3⟩
      exact ⟨hIs _ _ _ h1, (set_other _ _ _ _ (show B + 1 ≠ b by omega)).trans h2, (set_other _ _ _ _ (show B ≠ b by omega)).trans h3⟩
    · rintro pre x W ⟨hi, hl, hd⟩ hx
      have hlt : B + 1 < W.heap.size := (Array.getElem?_eq_some_iff.1 hl).1
      have hy := run_yield (P := P) (args := #[.string x]) hl (by rw [hrec]; rfl)
      rw [hrec] at hy
      refine ⟨fn, _, assign, body, hy, roundIn_of_wpIn hfn ?_⟩
      refine hassign (B + 1) x W _ ?_
      refine ⟨_, run_beginRound hl (by rw [hrec]), ?_⟩
      obtain ⟨Wb, hWb⟩ : ∃ Wb, Wb = W.putObj (B + 1) (.loop { rec .ready none with state := .busy }) := ⟨_, rfl⟩
      have hbb : Below w.heap.size W Wb := by rw [hWb]; exact below_put _ _ _ _ (by omega)
      have hl2 : Wb.heap[B + 1]? = some (.loop { rec .ready none with state := .busy }) := by rw [hWb]; exact World.putObj_heap_same hlt
      have hd2 : Wb.heap[B]? = some (.deferred (some [])) := by rw [hWb]; exact (World.putObj_heap_other (by omega)).trans hd
      have hlt2 : B + 1 < Wb.heap.size := (Array.getElem?_eq_some_iff.1 hl2).1
      rw [← hWb]
      refine wpIn_mono (hbody (B + 1) pre x Wb (hI _ _ _ hi hbb) hx (by omega)) ?_
      rintro e a3 W3 hp
      cases e with
      | normal =>
        obtain ⟨h3, hi3⟩ := hp
        have hl3 : W3.heap[B + 1]? = some (.loop { rec .ready none with state := .busy }) := (h3.block _ hlt2).trans hl2
        have hd3 : W3.heap[B]? = some (.deferred (some [])) := (h3.block _ (by omega)).trans hd2
        have hr := run_endRound (P := P) none hl3
        have hb3 : Below w.heap.size W3 (W3.putObj (B + 1) (.loop { { rec .ready none with state := .busy } with state := .ready, pending := none })) := below_put _ _ _ _ (by omega)
        refine ⟨_, _, hr, .inl ⟨rfl, ⟨hI _ _ _ hi3 hb3, ?_, ?_⟩, (hbb.trans (h3.mono (by omega))).trans hb3⟩⟩
        · rw [World.putObj_heap_same (Array.getElem?_eq_some_iff.1 hl3).1, hrec]
          rfl
        · exact (World.putObj_heap_other (by omega)).trans hd3
      | ret =>
        obtain ⟨h3, hi3⟩ := hp
        have hl3 : W3.heap[B + 1]? = some (.loop { rec .ready none with state := .busy }) := (h3 _ (by omega) hlt2).trans hl2
        have hd3 : W3.heap[B]? = some (.deferred (some [])) := (h3 _ (by omega) (by omega)).trans hd2
        have hr := run_endRound (P := P) (some .ret) hl3
        have hb3 : Below w.heap.size W3 (W3.putObj (B + 1) (.loop { { rec .ready none with state := .busy } with state := .done, pending := some .ret })) := below_put _ _ _ _ (by omega)
        refine ⟨_, _, hr, .inr ⟨rfl, hIx _ _ _ hi3 hb3, ?_, ?_⟩⟩
        · rw [World.putObj_heap_same (Array.getElem?_eq_some_iff.1 hl3).1, hrec]
          rfl
        · exact (World.putObj_heap_other (by omega)).trans hd3
      | exit id => exact hp.elim
      | goto t => exact hp.elim
      | panic ch => exact hp.elim
      | outgrown => exact hp.elim
    · rintro e W2 ⟨⟨v, rfl⟩, (⟨xs, hS, hi, hl, hd⟩ | ⟨pre, hSp, hi, hl, hd⟩)⟩
      · have hr := run_endLoop (P := P) hl (by rw [hrec]; simp)
        rw [show (rec .ready none).pending = none by rw [hrec]] at hr
        exact ⟨none, _, hr, hdone xs _ hS (hI _ _ _ hi (below_put _ _ _ _ (by omega))) ((World.putObj_heap_other (by omega)).trans hd)⟩
      · have hr := run_endLoop (P := P) hl (by rw [hrec]; simp)
        rw [show (rec .done (some .ret)).pending = some .ret by rw [hrec]] at hr
        exact ⟨some .ret, _, hr, hstop pre _ hSp (hIx _ _ _ hi (below_put _ _ _ _ (by omega))) ((World.putObj_heap_other (by omega)).trans hd)⟩
end Go.Proofs.Qxb6608677aDoor
