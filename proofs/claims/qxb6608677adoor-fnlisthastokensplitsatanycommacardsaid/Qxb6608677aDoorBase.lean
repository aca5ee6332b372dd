import Derived.Test.Qxb6608677aDoorRows
import Derived.WalkKit
import Derived.WalkSpells
import Derived.WalkLawsBesides
import Derived.Deep.DeepCutAuto
import Derived.Deep.CutBlock
import Derived.Deep.LoopGhost
import Derived.Deep.QuietTactic
import Derived.BigQuiet
import Derived.Laws.CopyOwn
namespace Go.Proofs.Qxb6608677aDoor
open Go.RowKit

theorem Tryd.info5 : (Tryd.prog.info? 5).map (fun i => (i.zero, i.size, i.bytes)) = some (some (.int .u8 0), 1, 1) := by kernel_rfl
theorem Tryd.size5 : (Tryd.prog.info? 5).map (·.size) = some 1 := by kernel_rfl
theorem hide {p : Prop} (h : p) : Hid p := h
theorem unhide {p : Prop} (h : Hid p) : p := h

/-- The cells of a text. -/
def CellsL (w : World) (b off : Nat) (l : List UInt8) : Prop := ∀ i (h : i < l.length), w.cell? ⟨b, off + i, none⟩ = some (.int .u8 (l[i].toNat : Int))
def bv (c : UInt8) : Value := .int .u8 (c.toNat : Int)
def bvs (m : List UInt8) : List Value := m.map bv
theorem bvs_len (m : List UInt8) : (bvs m).length = m.length := by simp [bvs]
theorem bvs_get (m : List UInt8) (i : Nat) (h : i < m.length) : (bvs m)[i]? = some (.int .u8 (m[i].toNat : Int)) := by
  rw [bvs, List.getElem?_map, List.getElem?_eq_getElem h]; rfl
theorem bvs_one (m : List UInt8) : ∀ v ∈ bvs m, v.oneCell' = true := fun v hv => by
  obtain ⟨c, _, rfl⟩ := List.mem_map.1 hv
  rfl
theorem bvs_append (a b : List UInt8) : bvs (a ++ b) = bvs a ++ bvs b := by simp [bvs]
/-- A byte of the text, in a later world, under a name of its own. -/
theorem CellsL.at_ {w wr : World} {B b off : Nat} {l : List UInt8} (h : CellsL w b off l) (hb : 0 < l.length → b < B) (hbl : Below B w wr) (k : Nat) (hk : k < l.length) :
    ∃ x : Nat, wr.cell? ⟨b, off + k, none⟩ = some (.int .u8 (x : Int)) ∧ x < 256 ∧ Hid (x = (l[k]).toNat) :=
  ⟨_, (hbl.cell (p := ⟨b, off + k, none⟩) (hb (by omega))).trans (h k hk), l[k].toNat_lt, rfl⟩
theorem CellsL.later {w wr : World} {B b off : Nat} {l : List UInt8} (h : CellsL w b off l) (hb : 0 < l.length → b < B) (hbl : Below B w wr) : CellsL wr b off l :=
  fun i hi => (hbl.cell (p := ⟨b, off + i, none⟩) (hb (by omega))).trans (h i hi)
theorem CellsL.of_block {w : World} {g : Nat} {l : List UInt8} {t : TypeId} {f : Nat × Nat} (h : w.heap[g]? = some (.cells (bvs l).toArray t f)) : CellsL w g 0 l := fun i hi => by
  have e := bvs_get l i hi
  rw [Nat.zero_add]
  simp [World.cell?, h, e]
theorem CellsL.drop {w : World} {b off : Nat} {l : List UInt8} (h : CellsL w b off l) (k : Nat) : CellsL w b (off + k) (l.drop k) := fun i hi => by
  rw [List.length_drop] at hi
  have := h (k + i) (by omega)
  rw [Nat.add_assoc, this, List.getElem_drop]
theorem CellsL.take {w : World} {b off : Nat} {l : List UInt8} (h : CellsL w b off l) (k : Nat) : CellsL w b off (l.take k) := fun i hi => by
  rw [List.length_take] at hi
  have := h i (by omega)
  rw [this, List.getElem_take]
theorem CellsL.lt {w : World} {b off : Nat} {l : List UInt8} (h : CellsL w b off l) : 0 < l.length → b < w.heap.size := fun h0 => World.block_lt_of_cell? _ _ (h 0 h0)
/-- A slice of bytes, wherever it lies: where there is a byte, at an address with its cells. -/
def At (w : World) (p : Option Addr) (l : List UInt8) : Prop := 0 < l.length → ∃ b off, p = some ⟨b, off, none⟩ ∧ CellsL w b off l
theorem At.later {w wr : World} {B : Nat} {p : Option Addr} {l : List UInt8} (h : At w p l) (hB : ∀ b off, p = some ⟨b, off, none⟩ → b < B) (hbl : Below B w wr) : At wr p l := fun h0 => by
  obtain ⟨b, off, rfl, hc⟩ := h h0
  exact ⟨b, off, rfl, hc.later (fun _ => hB b off rfl) hbl⟩
/-- What a full row that the call owns holds. -/
theorem owns_block {w : World} {B g n : Nat} {xs : List Value} (h : w.ownsRow B 5 1 (.slice (some ⟨g, 0, none⟩) n n) n xs) : w.heap[g]? = some (.cells xs.toArray 5 (0, 0)) := by
  rcases h.2 with ⟨h', _⟩ | ⟨g', cap', cur, h', _, hg, _, _, hcs, htake⟩
  · simp at h'
  · simp only [Value.slice.injEq, Option.some.injEq, Addr.mk.injEq, and_true, true_and] at h'
    obtain ⟨rfl, rfl⟩ := h'
    have : cur = xs.toArray := by
      rw [← htake, List.take_of_length_le (by simp; omega)]
    rw [this] at hg
    exact hg
theorem splice_all {α : Type} (L cs : List α) (h : cs.length = L.length) : splice L 0 cs = cs := by
  unfold splice
  simp [h]
end Go.Proofs.Qxb6608677aDoor
