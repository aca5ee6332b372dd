import Derived.Test.Qxb6608677aDoorFoldW
import Derived.Test.Qxb6608677aDoorTie
import Derived.Test.Qxb6608677aDoorCards
import Derived.ProofKit
import Derived.OpenShut
import Derived.ShutString
import Derived.ChangeOld
import Derived.Below
import Derived.LaidMore
import Derived.Lay
import Derived.SevenTiedAt
import Derived.Stop.Joined
import Derived.Stop.LaidErr
import Derived.HandedShaped
import Derived.PinnedBridge
import Derived.Lib.LaidU8T
import Derived.Lib.LaidCase
namespace Go.Proofs.Qxb6608677aDoor
open Go.ChangeShapes Go.WideShapes Go.ChangeAt Go.RowKit

theorem own : ownKnob Tryd.prog.godebug = none := by kernel_rfl
theorem laidOut : laidOutB Tryd.prog = true := by kernel_rfl

/-- The wrap with a condition on memory and the world's shape both kept (after the guide's two wraps that keep one each). -/
theorem wrap_and_shaped {H : Type} {enc : TypeId × Value → H} {a : Assume} {C : Checked} {os : Os} {f : FuncId} {fn : Func} {s : ChangeSpec} {conds : List PathCond} {apart fresh handsOn again : Bool} {X : World → Array Value → Prop}
    (hX : ∀ (w w' : World) (args : Array Value), w.heap = w'.heap → X w args → X w' args)
    (own : ownKnob C.prog.godebug = none) (started : os.Started) (noInit : C.prog.inits.idxOf? f = none) (hfn : C.prog.funcs[f]? = some fn)
    (witness : ∃ (w : World) (tape : Tape) (i : Input), w.os = os ∧ (w.forCall tape i).Shaped C.prog ∧ i.vars = [] ∧ Input.okWide C.prog (w.forCall tape i) .any w.heap.size f i ∧
      ((s.pre enc C.prog fn conds apart (w.forCall tape i).memory i.args ∧ X (w.forCall tape i).memory i.args) ∧ sizedMet enc C.prog fn (OpenSpec.ofChange s) apart (w.forCall tape i).memory i.args) ∧ a.holds C.prog (lone (Frame.enter C.prog f i.args .normal) [] (w.forCall tape i)))
    (contract : ∀ (W : World) (base : Nat) (args : Array Value) (ds gs : List (DataW H)) (before : List MemPlace),
      (∀ (j : Nat) t v, fn.params[j]? = some t → args[j]? = some v → Value.okWide C.prog W .any base t v) →
      DataW.Whole enc C.prog fn.params.toList s.vars apart W args.toList ds gs before → X W args → W.ShapedOpen C.prog →
      Calls C.prog f args W fun e W' => ∃ v, e = .returned v ∧ s.post enc C.prog fn apart fresh handsOn again W args v W') :
    ReturnsInHanded a C os f .any (fun w args => (s.pre enc C.prog fn conds apart w args ∧ X w args) ∧ sizedMet enc C.prog fn (OpenSpec.ofChange s) apart w args) (s.post enc C.prog fn apart fresh handsOn again) := by
  refine returnsInHanded_of_calls own started noInit witness ?_
  intro w tape i _ hsh _ hok hpre hholds
  obtain ⟨_, _, _, fn', hfn', _, _, _, _, hval⟩ := hok
  have e : fn' = fn := Option.some.inj (hfn'.symm.trans hfn)
  subst e
  obtain ⟨⟨⟨ds, gs, before, hw, _⟩, hx⟩, _⟩ := hpre
  have hw' := DataW.Whole.of_heap (w' := w.forCall tape i) (by rfl) hw
  refine (contract (w.forCall tape i) w.heap.size i.args ds gs before hval hw' (hX _ _ _ (by rfl) hx) hsh).mono fun e W' ⟨v, he, hp⟩ => ?_
  subst he
  exact ChangeSpec.post_blind hp


/-! ### The tables that the row lists -/
def u8ren : Go.Shelf.Ren := ⟨fun n => n, fun | 119 => 89 | 138 => 91 | 139 => 92 | n => n, fun | 3 => 6 | 4 => 7 | n => n⟩
theorem u8types : U8Types Tryd.prog u8ren := { t5 := Tryd.underlying5, t119 := Tryd.underlying89, t138 := Tryd.underlying91, t139 := Tryd.underlying92 }
theorem u8extra : U8Extra Tryd.prog u8ren := { n3 := by kernel_rfl, n4 := by kernel_rfl, y3 := by kernel_rfl, y4 := by kernel_rfl, c5 := by kernel_rfl, c119 := by kernel_rfl, c138 := by kernel_rfl }
def caseRen : Go.Shelf.Ren := ⟨Tryd.lays274_ren.f, Tryd.lays274_ren.t, fun | 13 => 5 | n => n⟩
theorem caseLays : Go.Proofs.Lays.n274 Tryd.prog caseRen := { Tryd.lays274 with }
theorem caseExtra : CaseExtra Tryd.prog caseRen := { n13 := by kernel_rfl, y13 := by kernel_rfl, c21 := by kernel_rfl, c51 := by kernel_rfl, c206 := by kernel_rfl, c208 := by kernel_rfl }
theorem asc_of_reads {W : World} (h : Lib.VarReads Tryd.prog W "unicode.asciiFold" (Lib.tabData .u16 (ascL.map fun (n : Nat) => (n : Int)))) : ∀ i, i < 128 → W.cell? ⟨3, i, none⟩ = some (.int .u16 ((ascA.getD i 0 : Nat) : Int)) := fun i hi => by
  obtain ⟨g', t', cs, fuel, p, hg', ht', hvar, hd⟩ := h
  obtain rfl := Option.some.inj ((show Tryd.prog.globalNamed "unicode.asciiFold" = some 3 by kernel_rfl).symm.trans hg')
  obtain rfl := Option.some.inj ((show (Tryd.prog.globals[3]?).map (·.type) = some 81 by kernel_rfl).symm.trans ht')
  have hcs := Lib.cells_of_tab (show Tryd.prog.underlying 81 = some (.array 128 80) by kernel_rfl) (show Tryd.prog.underlying 80 = some (.int .u16) by kernel_rfl) (by kernel_rfl) (by kernel_rfl) hd
  rw [World.var?_cell hg' hvar i, ← Array.getElem?_toList, hcs, List.map_map, List.getElem?_map]
  have hi' : i < ascL.length := by rw [show ascL.length = 128 from by kernel_rfl]; exact hi
  have : ascA.getD i 0 = ascL[i] := by
    unfold ascA
    rw [Array.getD_eq_getD_getElem?, List.getElem?_toArray, List.getElem?_eq_getElem hi']
    rfl
  rw [this, List.getElem?_eq_getElem hi']
  rfl
/-- unicode.caseOrbit as a datum. -/
def orbData : DataW Unit := .slice (orbL.map fun p => .agg [.lit (.int .u16 (p.1 : Int)), .lit (.int .u16 (p.2 : Int))]) []
theorem orb_of_reads {W : World} (h : Lib.VarReads Tryd.prog W "unicode.caseOrbit" orbData) : ∃ R o cap, W.cell? ⟨4, 0, none⟩ = some (.slice (some ⟨R, o, none⟩) 94 cap) ∧ ∀ i, i < 94 → W.cell? ⟨R, o + i * 2, none⟩ = some (.int .u16 ((orbA.getD i (0, 0)).1 : Int)) ∧ W.cell? ⟨R, o + i * 2 + 1, none⟩ = some (.int .u16 ((orbA.getD i (0, 0)).2 : Int)) := by
  obtain ⟨g, t, cs, fuel, p, hg, hty, hvar, hd⟩ := h
  obtain rfl := Option.some.inj ((show Tryd.prog.globalNamed "unicode.caseOrbit" = some 4 by kernel_rfl).symm.trans hg)
  obtain rfl := Option.some.inj ((show (Tryd.prog.globals[4]?).map (·.type) = some 82 by kernel_rfl).symm.trans hty)
  rcases DataW.trod_slice Tryd.underlying82 hd with ⟨_, hx'⟩ | ⟨a', len, cap, el, rs, m, rfl, hc0, hx', _, hlc, _, hel, helem, hsp, _⟩
  · cases hx'
  have e0 := congrArg Prod.fst hx'
  simp only [orbData, DataW.slice.injEq] at e0
  obtain ⟨eE, eR⟩ := e0
  have h94 : orbL.length = 94 := by kernel_rfl
  have hlen : len = 94 := by
    have := congrArg List.length eE
    simp at this
    omega
  have hcell84 : Tryd.prog.cellsOf 84 = 2 := by kernel_rfl
  have hrow : ∀ i, i < len → ∀ j, j < 2 → W.cell? ((a'.add (i * 2)).add j) = ([.int .u16 ((orbA.getD i (0, 0)).1 : Int), .int .u16 ((orbA.getD i (0, 0)).2 : Int)] : List Value)[j]? := by
    intro i hi j hj
    have h1 := helem i hi
    rw [hcell84] at h1
    obtain ⟨b, hb⟩ : ∃ b, el[i]? = some b := ⟨el[i]'(by omega), List.getElem?_eq_getElem (by omega)⟩
    rw [hb] at h1
    obtain ⟨ce, hce, hte⟩ := Option.bind_eq_some_iff.1 h1
    have hb1 : b.1 = .agg ([((orbA.getD i (0, 0)).1 : Int), ((orbA.getD i (0, 0)).2 : Int)].map fun z => .lit (.int .u16 z)) := by
      have := congrArg (·[i]?) eE
      simp only [List.getElem?_map, hb, Option.map_some] at this
      have hi' : i < orbL.length := by omega
      rw [List.getElem?_eq_getElem hi'] at this
      simp only [Option.map_some, Option.some.injEq] at this
      rw [← this]
      simp [orbA, Array.getD, hi']
    have hcs := Lib.ints_of_struct (p := b.2) Tryd.underlying84 (fun j f hj => by
      match j, hj with
      | 0, hj => simp at hj; subst hj; exact ⟨by kernel_rfl, rfl, by kernel_rfl⟩
      | 1, hj => simp at hj; subst hj; exact ⟨by kernel_rfl, rfl, by kernel_rfl⟩
      | j + 2, hj => simp at hj) (by rw [hcell84]; rfl) (by rw [← hb1]; exact hte)
    obtain ⟨_, _, hcc⟩ := World.cells?_some hce
    rw [hcc j hj, hcs]
    rfl
  obtain ⟨R, oR, sR⟩ := a'
  obtain rfl : sR = none := by
    have h00 := hrow 0 (by omega) 0 (by omega)
    have : (Addr.add (Addr.add ⟨R, oR, sR⟩ (0 * 2)) 0) = ⟨R, oR, sR⟩ := by simp [Addr.add]
    rw [this] at h00
    exact cell_spot h00
  refine ⟨R, oR, cap, ?_, fun i hi => ?_⟩
  · rw [World.var?_cell hg hvar 0, ← Array.getElem?_toList, hc0, hlen]
    rfl
  · have k0 := hrow i (by omega) 0 (by omega)
    have k1 := hrow i (by omega) 1 (by omega)
    rw [Addr.add_lit, Addr.add_lit] at k0 k1
    exact ⟨by simpa using k0, by simpa using k1⟩
/-- All that the walk asks of the variables. -/
theorem tabs_of {W : World} (hL : laidMet Tryd.prog Rows.fnListHasTokenSplitsAtAnyCommaRow.laid W) : FoldTabs W := by
  have r1 := Lib.laidMet.reads hL (show (_, Rows.laid_unicode_utf8_acceptRanges) ∈ Rows.fnListHasTokenSplitsAtAnyCommaRow.laid from .head _)
  have r2 := Lib.laidMet.reads hL (show ("unicode.asciiFold", Rows.laid_unicode_asciiFold) ∈ Rows.fnListHasTokenSplitsAtAnyCommaRow.laid from .tail _ (.head _))
  have r3 := Lib.laidMet.reads hL (show ("unicode.caseOrbit", Rows.laid_unicode_caseOrbit) ∈ Rows.fnListHasTokenSplitsAtAnyCommaRow.laid from .tail _ (.tail _ (.head _)))
  have r4 := Lib.laidMet.reads hL (show ("unicode.CaseRanges", Rows.laid_unicode_CaseRanges) ∈ Rows.fnListHasTokenSplitsAtAnyCommaRow.laid from .tail _ (.tail _ (.tail _ (.head _))))
  have r5 := Lib.laidMet.reads hL (show (_, Rows.laid_unicode_utf8_first) ∈ Rows.fnListHasTokenSplitsAtAnyCommaRow.laid from .tail _ (.tail _ (.tail _ (.tail _ (.head _)))))
  rw [show (Rows.laid_unicode_utf8_acceptRanges : DataW Unit) = Lib.acceptData from by kernel_rfl] at r1
  rw [show (Rows.laid_unicode_asciiFold : DataW Unit) = Lib.tabData .u16 (ascL.map fun (n : Nat) => (n : Int)) from by kernel_rfl] at r2
  rw [show (Rows.laid_unicode_caseOrbit : DataW Unit) = orbData from by kernel_rfl] at r3
  rw [show Rows.laid_unicode_CaseRanges = Lib.caseData from Pinned.caseRanges_eq] at r4
  rw [show Rows.laid_unicode_utf8_first = Lib.firstData from Pinned.utf8First_eq] at r5
  exact ⟨asc_of_reads r2, orb_of_reads r3, caseVar_of_reads caseLays (by kernel_rfl) caseExtra r4, utf8Tabs_of_readsT u8types u8extra r5 r1⟩
end Go.Proofs.Qxb6608677aDoor
