import Derived.Test.Qxb6608677aDoorSmall
import Derived.Test.Qxb6608677aDoorSplitP
import Derived.RangeFuncNested
import Derived.RangeFuncBound
import Derived.RangeFuncCalls
import Derived.RangeFuncLeaves
import Derived.Shelf.Abstract
import Derived.Shelf.RegionOpen
import Derived.OwnWalkIn
import Derived.TacticsInMore
import Derived.LoopNIn
import Derived.LoopIn
namespace Go.Proofs.Qxb6608677aDoor
open Go.RowKit Go.Lib Go.Shelf
attribute [local go_sem] Oper.semAt_some

/-- What the iterator's three boxes hold: the rest, the comma, nought. -/
def BX (W : World) (b : Nat) (s : ByteArray) : Prop :=
  W.cell? ⟨b, 0, none⟩ = some (.string s) ∧ W.frozen? ⟨b, 0, none⟩ = false ∧ W.cell? ⟨b + 1, 0, none⟩ = some (.string ⟨#[44]⟩) ∧ W.cell? ⟨b + 2, 0, none⟩ = some (.int .i64 0)
def restAt (W : World) (b : Nat) : Nat := match W.cell? ⟨b, 0, none⟩ with
  | some (.string s) => s.size
  | _ => 0
theorem restAt_eq {W : World} {b : Nat} {s : ByteArray} (h : BX W b s) : restAt W b = s.size := by unfold restAt; rw [h.1]
def lists (ys : List ByteArray) : List (List UInt8) := ys.map (fun y => y.data.toList)
theorem lists_snoc (ys : List ByteArray) (y : ByteArray) : lists (ys ++ [y]) = lists ys ++ [y.data.toList] := by simp [lists]

set_option maxHeartbeats 4000000 in
set_option maxRecDepth 100000 in
theorem split1_in (n : Nat) (hn : 1 ≤ n) (l b : Nat) (s : ByteArray) (hs : s.size ≤ 1048576) (J Jx : List ByteArray → World → Prop)
    (hJs : ∀ pre W v, J pre W → J pre (W.setCell ⟨b, 0, none⟩ v))
    (hY : ∀ pre x W, J pre W → x.size ≤ 1048576 → YieldAt Fence.wide (n - 1) Tryd.prog l #[.string x] W fun e W' =>
      (e = .returned (.bool true) ∧ J (pre ++ [x]) W' ∧ ∀ s', BX W b s' → BX W' b s') ∨ (e = .returned (.bool false) ∧ Jx (pre ++ [x]) W'))
    (W : World) (hB : BX W b s) (h0 : J [] W) :
    CallsIn Fence.wide n Tryd.prog 42 #[.func (.yield l) #[] #[], .pointer (some ⟨b + 1, 0, none⟩), .pointer (some ⟨b, 0, none⟩), .pointer (some ⟨b + 2, 0, none⟩)] W fun e W' =>
      (∃ v, e = .returned v) ∧ ((∃ ys, lists ys = splitC s.data.toList ∧ J ys W') ∨ (∃ ys zs, lists ys ++ zs = splitC s.data.toList ∧ Jx ys W')) := by
  refine callsIn_of_wp Tryd.func42 rfl trivial ?_ rfl
  simp only [Tryd.ntmps42, List.size_toArray, List.length_cons, List.length_nil, Nat.reduceAdd, Nat.reduceSub, Array.replicate_succ, Array.replicate_zero, List.push_toArray, List.append_toArray, List.nil_append, List.cons_append]
  have hB' := hide hB
  obtain ⟨c0, f0, c1, c2⟩ := hB
  gi_wp2
  clear c0 f0 c1 c2
  gi_loopw [7, 8] (fun _i _fr wr => ∃ (pre : List ByteArray) (rest : ByteArray), BX wr b rest ∧ lists pre ++ splitC rest.data.toList = splitC s.data.toList ∧ rest.size ≤ 1048576 ∧ J pre wr)
    (fun _ _ wr => restAt wr b)
  case atStart =>
    exact ⟨[], s, unhide hB', rfl, hs, h0⟩
  case round =>
    obtain ⟨pre, rest, hbx, hsp, hrs, hJ⟩ := hrel
    have HBX := hide hbx
    have HSP := hide hsp
    obtain ⟨c0, f0, c1, c2⟩ := hbx
    clear hsp
    rcases idx_cases rest.data.toList with ⟨hi, he⟩ | ⟨i, hi, hil, he⟩
    · obtain ⟨fn, tmps, assign, body, hy, hR⟩ := hY pre rest wr hJ hrs
      have HIX := hide (callsIn_wide (n := n - 1).2 (Tryd.strings_Index_one rest 44 wr))
      rw [hi] at HIX
      gi_wp2_with (refine ⟨trivial, ?_⟩; gi_at_call 44; refine (unhide HIX).mono ?_; rintro e w' ⟨rfl, rfl⟩)
      refine hR.mono ?_
      rintro e W3 (⟨rfl, hJ3, _⟩ | ⟨rfl, hJx3⟩)
      · gi_wp2
        go_end0
        refine ⟨⟨_, rfl⟩, .inl ⟨pre ++ [rest], ?_, hJ3⟩⟩
        rw [lists_snoc, ← he]
        exact unhide HSP
      · gi_wp2
        go_end0
        refine ⟨⟨_, rfl⟩, .inr ⟨pre ++ [rest], [], ?_, hJx3⟩⟩
        rw [lists_snoc, ← he, List.append_nil]
        exact unhide HSP
    · have hisz : i < rest.size := by rw [Lib.size_eq]; exact hil
      obtain ⟨x, hx⟩ : ∃ x, Hid (x = rest.extract 0 i) := ⟨_, rfl⟩
      have hxs : x.size ≤ 1048576 := by rw [Lib.size_eq, hx.out, head_list, List.length_take, ← Lib.size_eq]; omega
      have HXL : Hid (x.data.toList = rest.data.toList.take i) := by rw [Hid, hx.out, head_list]
      obtain ⟨fn, tmps, assign, body, hy, hR⟩ := hY pre x wr hJ hxs
      rw [hx.out] at hy
      have HIX := hide (callsIn_wide (n := n - 1).2 (Tryd.strings_Index_one rest 44 wr))
      rw [hi] at HIX
      have hi0 : ¬ ((i : Int) < 0) := by omega
      have hi1 : (i : Int) ≤ (rest.size : Int) := by omega
      have hi2 : (i : Int) + 1 ≤ (rest.size : Int) := by omega
      gi_wp2_with (refine ⟨trivial, ?_⟩; gi_at_call 44; refine (unhide HIX).mono ?_; rintro e w' ⟨rfl, rfl⟩)
      refine hR.mono ?_
      rintro e W3 (⟨rfl, hJ3, hk3⟩ | ⟨rfl, hJx3⟩)
      · obtain ⟨d0, g0, d1, d2⟩ := hk3 rest (unhide HBX)
        gi_wp2
        have hbn : BX (W3.setCell ⟨b, 0, none⟩ (.string (rest.extract (i + 1) rest.size))) b (rest.extract (i + 1) rest.size) :=
          ⟨World.cell?_setCell_same' _ _ _ (by rw [d0]; rfl), by rw [World.frozen?_setCell]; exact g0, (World.cell?_setCell_other _ _ _ _ (by simp)).trans d1, (World.cell?_setCell_other _ _ _ _ (by simp)).trans d2⟩
        have hsz : (rest.extract (i + 1) rest.size).size = rest.size - (i + 1) := by rw [Lib.size_eq, tail_list, List.length_drop, ← Lib.size_eq]
        refine ⟨⟨pre ++ [x], _, hbn, ?_, by omega, hJs _ _ _ hJ3⟩, ?_⟩
        · rw [lists_snoc, unhide HXL, tail_list, ← unhide HSP, he]
          simp
        · rw [restAt_eq hbn, restAt_eq (unhide HBX)]
          omega
      · gi_wp2
        refine bodyPost_ret (results_none rfl _ _ _) rfl ?_
        refine ⟨⟨_, rfl⟩, .inr ⟨pre ++ [x], splitC (rest.data.toList.drop (i + 1)), ?_, hJx3⟩⟩
        rw [lists_snoc, unhide HXL, ← unhide HSP, he]
        simp
end Go.Proofs.Qxb6608677aDoor
