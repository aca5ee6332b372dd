import Derived.Shelf.Unicode.CaseTo
import Derived.KernelRfl
namespace Go.Proofs.Qxb6608677aDoor
open Go.Lib Go.RowKit

/-- unicode.caseOrbit, as the row lays it. -/
def orbL : List (Nat × Nat) := [(75, 107), (83, 115), (107, 8490), (115, 383), (181, 924), (197, 229), (223, 7838), (229, 8491), (304, 304), (305, 305), (383, 83), (452, 453), (453, 454), (454, 452), (455, 456), (456, 457), (457, 455), (458, 459), (459, 460), (460, 458), (497, 498), (498, 499), (499, 497), (837, 921), (912, 8147), (914, 946), (917, 949), (920, 952), (921, 953), (922, 954), (924, 956), (928, 960), (929, 961), (931, 962), (934, 966), (937, 969), (944, 8163), (946, 976), (949, 1013), (952, 977), (953, 8126), (954, 1008), (956, 181), (960, 982), (961, 1009), (962, 963), (963, 931), (966, 981), (969, 8486), (976, 914), (977, 1012), (981, 934), (982, 928), (1008, 922), (1009, 929), (1012, 920), (1013, 917), (1042, 1074), (1044, 1076), (1054, 1086), (1057, 1089), (1058, 1090), (1066, 1098), (1074, 7296), (1076, 7297), (1086, 7298), (1089, 7299), (1090, 7300), (1098, 7302), (1122, 1123), (1123, 7303), (7296, 1042), (7297, 1044), (7298, 1054), (7299, 1057), (7300, 7301), (7301, 1058), (7302, 1066), (7303, 1122), (7304, 42570), (7776, 7777), (7777, 7835), (7835, 7776), (7838, 223), (8126, 837), (8147, 912), (8163, 944), (8486, 937), (8490, 75), (8491, 197), (42570, 42571), (42571, 7304), (64261, 64262), (64262, 64261)]
/-- unicode.asciiFold, as the row lays it. -/
def ascL : List Nat := [0, 1, 2, 3, 4, 5, 6, 7, 8, 9, 10, 11, 12, 13, 14, 15, 16, 17, 18, 19, 20, 21, 22, 23, 24, 25, 26, 27, 28, 29, 30, 31, 32, 33, 34, 35, 36, 37, 38, 39, 40, 41, 42, 43, 44, 45, 46, 47, 48, 49, 50, 51, 52, 53, 54, 55, 56, 57, 58, 59, 60, 61, 62, 63, 64, 97, 98, 99, 100, 101, 102, 103, 104, 105, 106, 107, 108, 109, 110, 111, 112, 113, 114, 115, 116, 117, 118, 119, 120, 121, 122, 91, 92, 93, 94, 95, 96, 65, 66, 67, 68, 69, 70, 71, 72, 73, 74, 8490, 76, 77, 78, 79, 80, 81, 82, 383, 84, 85, 86, 87, 88, 89, 90, 123, 124, 125, 126, 127]
def orbA : Array (Nat × Nat) := orbL.toArray
def ascA : Array Nat := ascL.toArray

/-- SimpleFold's binary search over the orbits. -/
def orbSearch (r : Int) : Nat → Nat → Nat → Nat
  | 0, lo, _ => lo
  | f + 1, lo, hi => if lo < hi then (if ((orbA.getD ((lo + hi) / 2) (0, 0)).1 : Int) < r then orbSearch r f ((lo + hi) / 2 + 1) hi else orbSearch r f lo ((lo + hi) / 2)) else lo
/-- What a row of CaseRanges makes of a rune. -/
def rc (x : CaseRow) (r : Int) : Int := if wrap32 (convertR 1 r x) ≠ r then wrap32 (convertR 1 r x) else wrap32 (convertR 0 r x)
/-- unicode.SimpleFold. -/
def sfW (r : Int) : Int :=
  if r < 0 ∨ r > 1114111 then r
  else if r < 128 then ((ascA.getD r.toNat 0 : Nat) : Int)
  else if orbSearch r 95 0 94 < 94 ∧ ((orbA.getD (orbSearch r 95 0 94) (0, 0)).1 : Int) = r then ((orbA.getD (orbSearch r 95 0 94) (0, 0)).2 : Int)
  else match lookupIdx caseA r (caseA.size + 1) 0 caseA.size with
    | some i => rc (caseA.getD i (0, 0, 0, 0, 0)) r
    | none => r
/-- Back at the start in so many steps. -/
def cyc (r : Int) : Bool := sfW r == r || sfW (sfW r) == r || sfW (sfW (sfW r)) == r || sfW (sfW (sfW (sfW r))) == r
theorem orb_cyc : orbL.all (fun p => cyc p.1) = true := by decide +kernel
theorem asc_cyc : (List.range 128).all (fun r => cyc (r : Int)) = true := by decide +kernel
end Go.Proofs.Qxb6608677aDoor
