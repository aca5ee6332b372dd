import Derived.Test.Qxb6608677aDoorFoldP
namespace Go.Proofs.Qxb6608677aDoor
open Go.Lib Go.RowKit

def rowCyc (x : CaseRow) : Bool := (List.range (x.2.1 - x.1 + 1)).all (fun j => cyc ((x.1 + j : Nat) : Int))
theorem rows_cyc1 : (caseT.take 100).all rowCyc = true := by decide +kernel
theorem rows_cyc2 : ((caseT.drop 100).take 80).all rowCyc = true := by decide +kernel
theorem rows_cyc3 : ((caseT.drop 180).take 80).all rowCyc = true := by decide +kernel
theorem rows_cyc4 : (caseT.drop 260).all rowCyc = true := by decide +kernel
theorem rows_cyc : caseT.all rowCyc = true := by
  rw [← List.take_append_drop 100 caseT, List.all_append, rows_cyc1, ← List.take_append_drop 80 (caseT.drop 100), List.all_append, rows_cyc2, List.drop_drop, ← List.take_append_drop 80 (caseT.drop (100 + 80)), List.all_append, List.drop_drop]
  show (true && (true && (((caseT.drop 180).take 80).all rowCyc && (caseT.drop 260).all rowCyc))) = true
  rw [rows_cyc3, rows_cyc4]
  rfl
theorem asc_in (i : Nat) (h : i < 128) : cyc (i : Int) = true := List.all_eq_true.1 asc_cyc i (by simpa using h)
theorem orbA_size : orbA.size = 94 := by kernel_rfl
theorem orb_in (i : Nat) (h : i < 94) : cyc (((orbA.getD i (0, 0)).1 : Nat) : Int) = true := by
  have hi : i < orbL.length := by rw [show orbL.length = 94 from by kernel_rfl]; exact h
  have : orbA.getD i (0, 0) = orbL[i] := by
    unfold orbA
    rw [Array.getD_eq_getD_getElem?, List.getElem?_toArray, List.getElem?_eq_getElem hi]
    rfl
  rw [this]
  exact List.all_eq_true.1 orb_cyc _ (List.getElem_mem hi)
/-- Every rune comes back to itself in at most four steps. -/
theorem cyc_all (r : Int) (h0 : 0 ≤ r) (h1 : r ≤ 1114111) : cyc r = true := by
  by_cases h2 : r < 128
  · obtain ⟨i, rfl⟩ : ∃ i : Nat, r = i := ⟨r.toNat, by omega⟩
    exact asc_in i (by omega)
  by_cases h3 : orbSearch r 95 0 94 < 94 ∧ ((orbA.getD (orbSearch r 95 0 94) (0, 0)).1 : Int) = r
  · have := orb_in _ h3.1
    rw [h3.2] at this
    exact this
  cases h4 : lookupIdx caseA r (caseA.size + 1) 0 caseA.size with
  | none =>
    have : sfW r = r := by
      unfold sfW
      rw [if_neg (by omega), if_neg h2, if_neg h3, h4]
    unfold cyc
    rw [this]
    simp
  | some i =>
    obtain ⟨hi, hlo, hhi⟩ := lookupIdx_some caseA r _ _ _ i h4
    have hi' : i < caseT.length := by simpa [caseA] using hi
    have e : caseA.getD i (0, 0, 0, 0, 0) = caseT[i] := by
      unfold caseA
      rw [Array.getD_eq_getD_getElem?, List.getElem?_toArray, List.getElem?_eq_getElem hi']
      rfl
    rw [e] at hlo hhi
    have h5 := List.all_eq_true.1 rows_cyc _ (List.getElem_mem hi')
    unfold rowCyc at h5
    have h6 := List.all_eq_true.1 h5 (r.toNat - caseT[i].1) (by rw [List.mem_range]; omega)
    rw [show ((caseT[i].1 + (r.toNat - caseT[i].1) : Nat) : Int) = r by omega] at h6
    exact h6

/-- EqualFold's inner loop. -/
def chase (sr tr : Int) : Nat → Int → Int
  | 0, r => r
  | f + 1, r => if r ≠ sr ∧ r < tr then chase sr tr f (sfW r) else r
def back : Nat → Int → Int
  | 0, r => r
  | k + 1, r => back k (sfW r)
theorem cyc_back (r : Int) (h : cyc r = true) : ∃ k, k < 4 ∧ back k (sfW r) = r := by
  unfold cyc at h
  simp only [Bool.or_eq_true, beq_iff_eq] at h
  rcases h with ((h | h) | h) | h
  · exact ⟨0, by omega, h⟩
  · exact ⟨1, by omega, h⟩
  · exact ⟨2, by omega, h⟩
  · exact ⟨3, by omega, h⟩
end Go.Proofs.Qxb6608677aDoor
