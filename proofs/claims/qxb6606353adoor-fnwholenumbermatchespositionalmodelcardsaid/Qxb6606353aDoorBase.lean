import Derived.Test.Qxb6606353aDoorClone
import Derived.Test.Qxb6606353aDoorPlainC
import Derived.Laws.BytesArg
namespace Go.Proofs.Qxb6606353aDoor
open Go.RowKit
open Pl

/-- The cells of a text. -/
def CellsL (w : World) (b off : Nat) (l : List UInt8) : Prop := ∀ i (h : i < l.length), w.cell? ⟨b, off + i, none⟩ = some (.int .u8 (l[i].toNat : Int))
def bv (c : UInt8) : Value := .int .u8 (c.toNat : Int)
def bvs (m : List UInt8) : List Value := m.map bv
theorem bvs_snoc (m : List UInt8) (c : UInt8) : bvs (m ++ [c]) = bvs m ++ [.int .u8 (c.toNat : Int)] := by simp [bvs, bv]
theorem bvs_len (m : List UInt8) : (bvs m).length = m.length := by simp [bvs]
/-- A byte of the text, in a later world, under a name of its own. -/
theorem CellsL.at_ {w wr : World} {b off : Nat} {l : List UInt8} (h : CellsL w b off l) (hb : 0 < l.length → b < w.heap.size) (hbl : Below w.heap.size w wr) (k : Nat) (hk : k < l.length) :
    ∃ x : Nat, wr.cell? ⟨b, off + k, none⟩ = some (.int .u8 (x : Int)) ∧ x < 256 ∧ Hid (x = (l[k]).toNat) :=
  ⟨_, (hbl.cell (p := ⟨b, off + k, none⟩) (hb (by omega))).trans (h k hk), l[k].toNat_lt, rfl⟩
theorem CellsL.later {w wr : World} {b off : Nat} {l : List UInt8} (h : CellsL w b off l) (hb : 0 < l.length → b < w.heap.size) (hbl : Below w.heap.size w wr) : CellsL wr b off l :=
  fun i hi => (hbl.cell (p := ⟨b, off + i, none⟩) (hb (by omega))).trans (h i hi)
theorem CellsL.of_owns {w : World} {B g n cap : Nat} {l : List UInt8} (hn : n = l.length) (h : w.ownsRow B 5 1 (.slice (some ⟨g, 0, none⟩) n cap) n (bvs l)) : CellsL w g 0 l := fun i hi => by
  have := h.cellAt i (by omega)
  rw [Nat.zero_add, this, bvs, List.getElem?_map, List.getElem?_eq_getElem hi]; rfl
theorem run_conv (w : World) (b off cap : Nat) (l : List UInt8) (h : CellsL w b off l) :
    (convert 22 9 (.slice (some ⟨b, off, none⟩) l.length cap)).run Tryd.prog w = .ok (.string ⟨l.toArray⟩) w := by
  have := run_convert_bytes_arg (P := Tryd.prog) w 22 5 Tryd.underlying22 Tryd.underlying5 b off l.length cap (l.map fun c => (c.toNat : Int)) (by simp) (fun i hi => by
    rw [h i hi]; simp [List.getD, List.getElem?_eq_getElem hi]) 9 Tryd.underlying9
  rw [this]
  have e : strOfNums (l.map fun c => (c.toNat : Int)) = ⟨l.toArray⟩ := by
    unfold strOfNums
    rw [List.map_map]
    have : ((fun n : Int => UInt8.ofNat n.toNat) ∘ fun c : UInt8 => (c.toNat : Int)) = id := by funext c; simp
    rw [this, List.map_id]
  rw [e]
end Go.Proofs.Qxb6606353aDoor
