import Derived.Test.Qxb6608622aDoorSplits
import Derived.Deep.OwnRows
namespace Go.Proofs.Qxb6608622aDoor
open Go.RowKit

/-- What the row holds when k bytes of J are laid. -/
def laidF (J : List UInt8) (k : Nat) (j : Nat) : Value := if j < k then .int .u8 ((J.getD j 0).toNat : Int) else .int .u8 0
theorem laidF_step (J : List UInt8) (k : Nat) (x : Nat) (hx : x = (J.getD k 0).toNat) (j : Nat) : (if j = k then Value.int .u8 (x : Int) else laidF J k j) = laidF J (k + 1) j := by
  unfold laidF
  by_cases h : j = k
  · subst h; rw [if_pos rfl, if_pos (by omega), hx]
  · rw [if_neg h]
    by_cases h2 : j < k
    · rw [if_pos h2, if_pos (by omega)]
    · rw [if_neg h2, if_neg (by omega)]
theorem laidF_cells {w : World} {g : Nat} {J : List UInt8} (h : w.rowIs g 5 J.length (laidF J J.length)) : CellsL w g 0 J := fun i hi => by
  rw [Nat.zero_add, h.cell hi]
  unfold laidF
  rw [if_pos hi, List.getD_eq_getElem?_getD, List.getElem?_eq_getElem hi]
  rfl
theorem made_row {w : World} {g n : Nat} (J : List UInt8) (h : w.heap[g]? = some (.cells (List.replicate n (Value.int .u8 0)).toArray 5 (0, 0))) : w.rowIs g 5 n (laidF J 0) :=
  ⟨_, h, by simp, fun i hi => by simp [laidF, hi]⟩

set_option maxRecDepth 100000 in
set_option maxHeartbeats 1000000 in
theorem join_any (p q : Option Addr) (c d : Nat) (l m : List UInt8) (hn : l.length + m.length ≤ 1073741824) (w : World) (h1 : At w p l) (h2 : At w q m) :
    Calls Tryd.prog 9 #[.slice p l.length c, .slice q m.length d] w fun e w' => e = .returned (.slice (some ⟨w.heap.size, 0, none⟩) (l.length + m.length) (l.length + m.length)) ∧ CellsL w' w.heap.size 0 (l ++ m) ∧ w.heap.size < w'.heap.size ∧ Below w.heap.size w w' := by
  obtain ⟨i0, hi0, hz0, hz1, hz2⟩ := info_parts Tryd.info5
  have H1 := hide h1
  have H2 := hide h2
  have HJ1 : Hid (∀ k (h : k < l.length), (l ++ m).getD k 0 = l[k]) := fun k h => by
    rw [List.getD_eq_getElem?_getD, List.getElem?_append_left h, List.getElem?_eq_getElem h]; rfl
  have HJ2 : Hid (∀ k (h : k < m.length), (l ++ m).getD (l.length + k) 0 = m[k]) := fun k h => by
    rw [List.getD_eq_getElem?_getD, List.getElem?_append_right (by omega), Nat.add_sub_cancel_left, List.getElem?_eq_getElem h]; rfl
  clear h1 h2
  go_enter Tryd.func9, Tryd.ntmps9
  go_upto_region 2 with (first | (at_make; refine wpList_make_full _ rfl _ _ 22 rfl w.heap.size 5 i0 (.int .u8 0) 1 Tryd.underlying22 hi0 hz0 hz1 .i64 .i64 (l.length + m.length) (l.length + m.length) (l.length + m.length) rfl rfl rfl rfl (by rw [hz2]; omega) (by unfold maxLen; omega) (Nat.le_refl _) ?_; intro w1 hown hgr) | fail)
  rw [show (madeCells (Value.int IntKind.u8 0).cells ((l.length + m.length) * 1)).toList = List.replicate (l.length + m.length) (Value.int .u8 0) from by rw [Nat.mul_one]; exact toList_madeCells_one _ _] at hown
  have hb1 : Below w.heap.size w w1 := (Below.refl _ _).grown hgr (Nat.le_refl _) (fun _ h => by cases h)
  have hR1 := hide (made_row (l ++ m) (owns_block hown))
  clear hown hgr
  go_upto_block 0 with fail
  go_cut [6] (fun kv wx => Hid (wx.rowIs w.heap.size 5 (l.length + m.length) (laidF (l ++ m) l.length)) ∧ Below w.heap.size w wx)
  case first =>
    go_wp2_with fail
    go_loopg [6] l.length (fun g kv wr => ∃ k : Nat, g = l.length - k ∧ k ≤ l.length ∧ kv = .int .i64 (k : Nat) ∧ Hid (wr.rowIs w.heap.size 5 (l.length + m.length) (laidF (l ++ m) k)) ∧ Below w.heap.size w wr)
    case atStart => exact ⟨0, rfl, Nat.zero_le _, rfl, hR1, hb1⟩
    case round =>
      obtain ⟨k, rfl, hk, rfl, HR, hbr⟩ := hrel
      by_cases hlt : k < l.length
      · obtain ⟨b, off, rfl, hc⟩ := (unhide H1) (by omega)
        obtain ⟨x, hx, _, HX⟩ := hc.at_ hc.lt hbr k hlt
        have hf := (unhide HR).frozen k
        have hcl := (unhide HR).cell (i := k) (by omega)
        have hltz : (k : Int) < (l.length : Int) := by omega
        have HN : Hid ((wr.setCell ⟨w.heap.size, k, none⟩ (.int .u8 (x : Int))).rowIs w.heap.size 5 (l.length + m.length) (laidF (l ++ m) (k + 1))) :=
          ((unhide HR).set k _).congr fun j _ => laidF_step _ k x (by rw [HX.out, HJ1.out k hlt]) j
        have hbN : Below w.heap.size w (wr.setCell ⟨w.heap.size, k, none⟩ (.int .u8 (x : Int))) := hbr.setCell (Nat.le_refl _) _
        clear hc HR
        go_wp2_with fail
        go_roundg (l.length - (k + 1))
        case measure => omega
        case rel => exact ⟨k + 1, rfl, by omega, by go_num, HN, hbN⟩
      · obtain rfl : k = l.length := by omega
        go_wp2_with fail
        go_meet
        case rel => exact ⟨HR, hbr⟩
  case rest =>
    obtain ⟨HR2, hb2⟩ := hcut
    go_wp2_with fail
    go_loopg [7] m.length (fun g kv wr => ∃ k : Nat, g = m.length - k ∧ k ≤ m.length ∧ kv = .int .i64 (k : Nat) ∧ Hid (wr.rowIs w.heap.size 5 (l.length + m.length) (laidF (l ++ m) (l.length + k))) ∧ Below w.heap.size w wr)
    case atStart => exact ⟨0, rfl, Nat.zero_le _, rfl, HR2, hb2⟩
    case round =>
      obtain ⟨k, rfl, hk, rfl, HR, hbr⟩ := hrel
      by_cases hlt : k < m.length
      · obtain ⟨b, off, rfl, hc⟩ := (unhide H2) (by omega)
        obtain ⟨x, hx, _, HX⟩ := hc.at_ hc.lt hbr k hlt
        have hf := (unhide HR).frozen (l.length + k)
        have hcl := (unhide HR).cell (i := l.length + k) (by omega)
        have hltz : (k : Int) < (m.length : Int) := by omega
        have HN : Hid ((wr.setCell ⟨w.heap.size, l.length + k, none⟩ (.int .u8 (x : Int))).rowIs w.heap.size 5 (l.length + m.length) (laidF (l ++ m) (l.length + (k + 1)))) :=
          ((unhide HR).set (l.length + k) _).congr fun j _ => laidF_step _ (l.length + k) x (by rw [HX.out, HJ2.out k hlt]) j
        have hbN : Below w.heap.size w (wr.setCell ⟨w.heap.size, l.length + k, none⟩ (.int .u8 (x : Int))) := hbr.setCell (Nat.le_refl _) _
        clear hc HR
        go_wp2_with fail
        go_roundg (m.length - (k + 1))
        case measure => omega
        case rel => exact ⟨k + 1, rfl, by omega, by go_num, HN, hbN⟩
      · obtain rfl : k = m.length := by omega
        have hlt' : wr.heap.size > w.heap.size := (unhide HR).lt
        have HC : Hid (CellsL wr w.heap.size 0 (l ++ m)) := laidF_cells (by rw [List.length_append]; exact (unhide HR))
        go_wp2_with fail
        go_ret
        exact ⟨rfl, HC.out, hlt', hbr⟩
end Go.Proofs.Qxb6608622aDoor
