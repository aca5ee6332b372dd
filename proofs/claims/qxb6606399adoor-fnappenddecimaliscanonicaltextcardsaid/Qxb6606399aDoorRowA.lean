import Derived.Test.Qxb6606399aDoorBase
import Derived.Test.Qxb6606399aDoorTie
import Derived.Test.Qxb6606399aDoorCards
import Derived.ProofKit
import Derived.OpenShut
import Derived.ShutString
import Derived.ChangeOld
import Derived.Below
import Derived.LaidMore
import Derived.Lay
import Derived.SevenTiedAt
import Derived.Stop.Joined
import Derived.Stop.LaidErr
import Derived.HandedShaped
import Derived.PinnedBridge
import Derived.Lib.LaidU8T
import Derived.Shelf.Vars
namespace Go.Proofs.Qxb6606399aDoor
open Go.ChangeShapes Go.WideShapes Go.ChangeAt Go.RowKit

theorem own : ownKnob Tryd.prog.godebug = none := by kernel_rfl
theorem laidOut : laidOutB Tryd.prog = true := by kernel_rfl

/-- The wrap with a condition on memory and the world's shape both kept (after the guide's two wraps that keep one each). -/
theorem wrap_and_shaped {H : Type} {enc : TypeId × Value → H} {a : Assume} {C : Checked} {os : Os} {f : FuncId} {fn : Func} {s : ChangeSpec} {conds : List PathCond} {apart fresh handsOn again : Bool} {X : World → Array Value → Prop}
    (hX : ∀ (w w' : World) (args : Array Value), w.heap = w'.heap → X w args → X w' args)
    (own : ownKnob C.prog.godebug = none) (started : os.Started) (noInit : C.prog.inits.idxOf? f = none) (hfn : C.prog.funcs[f]? = some fn)
    (witness : ∃ (w : World) (tape : Tape) (i : Input), w.os = os ∧ (w.forCall tape i).Shaped C.prog ∧ i.vars = [] ∧ Input.okWide C.prog (w.forCall tape i) .any w.heap.size f i ∧
      ((s.pre enc C.prog fn conds apart (w.forCall tape i).memory i.args ∧ X (w.forCall tape i).memory i.args) ∧ sizedMet enc C.prog fn (OpenSpec.ofChange s) apart (w.forCall tape i).memory i.args) ∧ a.holds C.prog (lone (Frame.enter C.prog f i.args .normal) [] (w.forCall tape i)))
    (contract : ∀ (W : World) (base : Nat) (args : Array Value) (ds gs : List (DataW H)) (before : List MemPlace),
      (∀ (j : Nat) t v, fn.params[j]? = some t → args[j]? = some v → Value.okWide C.prog W .any base t v) →
      DataW.Whole enc C.prog fn.params.toList s.vars apart W args.toList ds gs before → X W args → W.ShapedOpen C.prog →
      Calls C.prog f args W fun e W' => ∃ v, e = .returned v ∧ s.post enc C.prog fn apart fresh handsOn again W args v W') :
    ReturnsInHanded a C os f .any (fun w args => (s.pre enc C.prog fn conds apart w args ∧ X w args) ∧ sizedMet enc C.prog fn (OpenSpec.ofChange s) apart w args) (s.post enc C.prog fn apart fresh handsOn again) := by
  refine returnsInHanded_of_calls own started noInit witness ?_
  intro w tape i _ hsh _ hok hpre hholds
  obtain ⟨_, _, _, fn', hfn', _, _, _, _, hval⟩ := hok
  have e : fn' = fn := Option.some.inj (hfn'.symm.trans hfn)
  subst e
  obtain ⟨⟨⟨ds, gs, before, hw, _⟩, hx⟩, _⟩ := hpre
  have hw' := DataW.Whole.of_heap (w' := w.forCall tape i) (by rfl) hw
  refine (contract (w.forCall tape i) w.heap.size i.args ds gs before hval hw' (hX _ _ _ (by rfl) hx) hsh).mono fun e W' ⟨v, he, hp⟩ => ?_
  subst he
  exact ChangeSpec.post_blind hp

/-- internal/bytealg.MaxLen holds some number, whatever. -/
theorem maxlen_of {W : World} (hsh : W.ShapedOpen Tryd.prog) : ∃ mx, W.cell? ⟨0, 0, none⟩ = some (.int .i64 mx) :=
  cell_of_shapedOpen_int (g := 0) (t := 3) (zero := #[.int .i64 0]) hsh (of_decide_eq_true (by kernel_rfl)) (by kernel_rfl) rfl (by kernel_rfl) (by kernel_rfl) Tryd.underlying3
def u8ren : Go.Shelf.Ren := ⟨fun n => n, fun | 119 => 65 | 138 => 67 | 139 => 68 | n => n, fun | 3 => 1 | 4 => 2 | n => n⟩
theorem u8types : U8Types Tryd.prog u8ren := { t5 := Tryd.underlying5, t119 := Tryd.underlying65, t138 := Tryd.underlying67, t139 := Tryd.underlying68 }
theorem u8extra : U8Extra Tryd.prog u8ren := { n3 := by kernel_rfl, n4 := by kernel_rfl, y3 := by kernel_rfl, y4 := by kernel_rfl, c5 := by kernel_rfl, c119 := by kernel_rfl, c138 := by kernel_rfl }
theorem tabs_of_list {W : World} {L : List (String × DataW Unit)} (h : laidMet Tryd.prog L W) {n3 n4 : String} (e3 : n3 = Tryd.prog.globals[1]!.name) (e4 : n4 = Tryd.prog.globals[2]!.name) (h3 : (n3, Rows.laid_unicode_utf8_first) ∈ L) (h4 : (n4, Rows.laid_unicode_utf8_acceptRanges) ∈ L) : Lib.Utf8Tabs 1 2 W := by
  have r3 := Lib.laidMet.reads h h3
  have r4 := Lib.laidMet.reads h h4
  have d3 : Rows.laid_unicode_utf8_first = Lib.firstData := Pinned.utf8First_eq
  have d4 : Rows.laid_unicode_utf8_acceptRanges = Lib.acceptData := by kernel_rfl
  rw [d3] at r3
  rw [d4] at r4
  subst e3 e4
  exact utf8Tabs_of_readsT u8types u8extra r3 r4

def toBytes (zs : List Int) : List UInt8 := zs.map fun n => UInt8.ofNat n.toNat
/-- What a slice of bytes that came in is. -/
def IsRow (w : World) (a : Option Addr) (len cap : Nat) (zs : List Int) : Prop :=
  ((a = none ∧ len = 0 ∧ cap = 0) ∨ ∃ x, a = some x ∧ len ≤ cap ∧ zs.length = cap ∧ (∀ i, i < zs.length → w.cell? (x.add i) = some (.int .u8 (zs.getD i 0))) ∧ ∀ n ∈ zs, (Lit.int .u8 n).wf = true) ∧ len ≤ 9223372036854775807
theorem IsRow.len {w : World} {x : Addr} {len cap : Nat} {zs : List Int} (h : IsRow w (some x) len cap zs) : (toBytes (zs.take len)).length = len := by
  rcases h.1 with ⟨h, _⟩ | ⟨_, _, h2, h3, _⟩
  · cases h
  · simp [toBytes]; omega
theorem IsRow.at_ {w : World} {x : Addr} {len cap : Nat} {zs : List Int} (h : IsRow w (some x) len cap zs) : At w (some x) (toBytes (zs.take len)) := fun h0 => by
  rw [h.len] at h0
  have hl := h.len
  rcases h.1 with ⟨h, _⟩ | ⟨y, e, hlc, hz, hcell, hwf⟩
  · cases h
  · cases e
    obtain ⟨b, off, rfl, hc⟩ := ints_at hcell (show 0 < zs.length by omega)
    refine ⟨b, off, rfl, fun i hi => ?_⟩
    rw [hl] at hi
    rw [hc i (by omega)]
    have hm : zs.getD i 0 ∈ zs := by
      rw [List.getD, List.getElem?_eq_getElem (by omega : i < zs.length)]; exact List.getElem_mem _
    have hb := bounds_u8 (hwf _ hm)
    have e : (toBytes (zs.take len))[i]'(by rw [hl]; exact hi) = UInt8.ofNat (zs.getD i 0).toNat := by
      simp [toBytes, List.getD, List.getElem?_eq_getElem (by omega : i < zs.length)]
    rw [e]
    have : ((UInt8.ofNat (zs.getD i 0).toNat).toNat : Int) = zs.getD i 0 := by
      rw [UInt8.toNat_ofNat']; omega
    rw [this]
/-- A slice argument opened. -/
theorem open_row {H : Type} {enc : TypeId × Value → H} {W : World} {a : Option Addr} {len cap : Nat} {d : DataW H} {p : List MemPlace} {b : Nat} {hl : Bool} (h0 : DataW.Trod enc Tryd.prog W b (fun _ => true) hl 22 (.slice a len cap) d p) : ∃ zs : List Int, IsRow W a len cap zs := by
  obtain ⟨fuel, hf⟩ := h0
  rcases open_ints Tryd.underlying22 Tryd.underlying5 (by kernel_rfl) hf with ⟨hcs, _⟩ | ⟨x, l, c, zs, hcs, _, hl, hm, hz, _, hcell, hwz⟩
  · simp [Value.cells] at hcs
    obtain ⟨rfl, rfl, rfl⟩ := hcs
    exact ⟨[], .inl ⟨rfl, rfl, rfl⟩, by omega⟩
  · simp [Value.cells] at hcs
    obtain ⟨rfl, rfl, rfl⟩ := hcs
    refine ⟨zs, .inr ⟨_, rfl, hl, by simpa using hz, hcell, hwz⟩, ?_⟩
    unfold maxLen at hm
    omega
end Go.Proofs.Qxb6606399aDoor
