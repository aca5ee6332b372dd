import Derived.Test.Qxb6608677aDoorFoldQ
import Derived.Lib.TrimUEq
import Derived.Lib.MapLaws
import Derived.Lib.TrimAscii
namespace Go.Proofs.Qxb6608677aDoor
open Go.Lib Go.RowKit

/-- Two runes as EqualFold's general loop holds them against each other. -/
def runesEq (a b : Int) : Bool :=
  if b = a then true
  else if (if b < a then a else b) < 128 then decide (65 ≤ (if b < a then b else a) ∧ (if b < a then b else a) ≤ 90 ∧ (if b < a then a else b) = (if b < a then b else a) + 32)
  else decide (chase (if b < a then b else a) (if b < a then a else b) 4 (sfW (if b < a then b else a)) = (if b < a then a else b))
/-- EqualFold's general loop. -/
def efU : Nat → List UInt8 → List UInt8 → Bool
  | 0, _, _ => false
  | f + 1, l, m => if l = [] then decide (m = []) else if m = [] then false
    else if runesEq ((decodeL l).1 : Int) ((decodeL m).1 : Int) then efU f (l.drop (decodeL l).2) (m.drop (decodeL m).2) else false
/-- Two ASCII bytes as its first loop holds them. -/
def byteEq (c d : Nat) : Bool :=
  if d = c then true else decide (65 ≤ (if d < c then d else c) ∧ (if d < c then d else c) ≤ 90 ∧ (if d < c then c else d) = (if d < c then d else c) + 32)
/-- strings.EqualFold. -/
def efA : List UInt8 → List UInt8 → Bool
  | [], m => decide (m = [])
  | _ :: _, [] => false
  | c :: l, d :: m => if 128 ≤ c.toNat ∨ 128 ≤ d.toNat then efU (l.length + 2) (c :: l) (d :: m) else if byteEq c.toNat d.toNat then efA l m else false
theorem efA_end (l m : List UInt8) (h : l = [] ∨ m = []) : efA l m = decide (l.length = m.length) := by
  rcases h with rfl | rfl
  · rw [efA]
    cases m <;> simp
  · cases l <;> simp [efA]
theorem efA_u (c d : UInt8) (l m : List UInt8) (h : 128 ≤ c.toNat ∨ 128 ≤ d.toNat) : efA (c :: l) (d :: m) = efU (l.length + 2) (c :: l) (d :: m) := by rw [efA, if_pos h]
theorem efA_yes (c d : UInt8) (l m : List UInt8) (h : ¬ (128 ≤ c.toNat ∨ 128 ≤ d.toNat)) (hb : byteEq c.toNat d.toNat = true) : efA (c :: l) (d :: m) = efA l m := by rw [efA, if_neg h, if_pos hb]
theorem efA_no (c d : UInt8) (l m : List UInt8) (h : ¬ (128 ≤ c.toNat ∨ 128 ≤ d.toNat)) (hb : byteEq c.toNat d.toNat = false) : efA (c :: l) (d :: m) = false := by rw [efA, if_neg h, hb]; rfl
theorem efU_step (f : Nat) (l m : List UInt8) (hl : l ≠ []) (hm : m ≠ []) (a b : Nat × Nat) (ha : decodeL l = a) (hb : decodeL m = b) :
    efU (f + 1) l m = if runesEq (a.1 : Int) (b.1 : Int) then efU f (l.drop a.2) (m.drop b.2) else false := by
  rw [efU, if_neg hl, if_neg hm, ha, hb]
end Go.Proofs.Qxb6608677aDoor
