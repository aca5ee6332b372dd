import Derived.Test.Qxb6606399aDoorInsertA
import Derived.Lib.LazyBuf
namespace Go.Proofs.Qxb6606399aDoor
open Go.RowKit

theorem owns_of_row {w : World} {B g n cap : Nat} {f : Nat → Value} {l : List UInt8} (h : w.rowIs g 5 cap f) (hg : B ≤ g) (hn : l.length = n) (hnc : n ≤ cap) (hcap : cap ≤ maxLen) (hf : ∀ j (hj : j < l.length), f j = bv l[j]) :
    w.ownsRow B 5 1 (.slice (some ⟨g, 0, none⟩) n cap) n (bvs l) := by
  obtain ⟨c, hb, hs, hc⟩ := h
  refine ⟨by rw [bvs_len]; omega, .inr ⟨g, cap, c, rfl, hg, hb, hnc, hcap, by omega, ?_⟩⟩
  apply List.ext_getElem?
  intro j
  by_cases hj : j < n
  · rw [List.getElem?_take_of_lt (by omega), Array.getElem?_toList, hc j (by omega), bvs_get l j (by omega), hf j (by omega)]
    rfl
  · rw [List.getElem?_take_eq_none (by omega), List.getElem?_eq_none (by rw [bvs_len]; omega)]
theorem row_of_owns {w : World} {B n : Nat} {v : Value} {l : List UInt8} (h : w.ownsRow B 5 1 v n (bvs l)) (h0 : 0 < n) :
    ∃ g cap f, v = .slice (some ⟨g, 0, none⟩) n cap ∧ B ≤ g ∧ n ≤ cap ∧ cap ≤ maxLen ∧ l.length = n ∧ w.rowIs g 5 cap f ∧ ∀ j (hj : j < l.length), f j = bv l[j] := by
  have hl : l.length = n := by have := h.1; rw [bvs_len] at this; omega
  rcases h.2 with ⟨_, rfl⟩ | ⟨g, cap, cur, rfl, hg, hb, hnc, hcap, hcs, ht⟩
  · omega
  refine ⟨g, cap, fun j => cur[j]?.getD default, rfl, hg, hnc, hcap, hl, ⟨cur, hb, by omega, fun i hi => ?_⟩, fun j hj => ?_⟩
  · show cur[i]? = some (cur[i]?.getD default)
    rw [Array.getElem?_eq_getElem (by omega)]; rfl
  · have h1 : (List.take (n * 1) cur.toList)[j]? = (bvs l)[j]? := by rw [ht]
    rw [List.getElem?_take_of_lt (by omega), Array.getElem?_toList, bvs_get l j hj] at h1
    show cur[j]?.getD default = _
    rw [h1]
    rfl
/-- A store into an owned row. -/
theorem owns_set {w : World} {B n : Nat} {v : Value} {l : List UInt8} (h : w.ownsRow B 5 1 v n (bvs l)) (j : Nat) (hj : j < n) (x : UInt8) :
    ∃ g cap, v = .slice (some ⟨g, 0, none⟩) n cap ∧ B ≤ g ∧ w.frozen? ⟨g, j, none⟩ = false ∧ w.cell? ⟨g, j, none⟩ = some (bv (l.getD j 0)) ∧ (w.setCell ⟨g, j, none⟩ (bv x)).ownsRow B 5 1 v n (bvs (l.set j x)) := by
  obtain ⟨g, cap, f, rfl, hg, hnc, hcap, hl, hr, hf⟩ := row_of_owns h (by omega)
  refine ⟨g, cap, rfl, hg, hr.frozen j, ?_, ?_⟩
  · rw [hr.cell (by omega), hf j (by omega), List.getD_eq_getElem?_getD, List.getElem?_eq_getElem (by omega)]; rfl
  · refine owns_of_row (hr.set j (bv x)) hg (by rw [List.length_set]; exact hl) hnc hcap (fun i hi => ?_)
    rw [List.length_set] at hi
    rw [List.getElem_set]
    by_cases e : i = j
    · rw [if_pos e, if_pos e.symm]
    · rw [if_neg e, if_neg (fun e' => e e'.symm)]; exact hf i hi
theorem ins_get (l : List UInt8) (i : Nat) (x : UInt8) (hi : i ≤ l.length) (j : Nat) (hj : j < (l.take i ++ x :: l.drop i).length) :
    (l.take i ++ x :: l.drop i)[j] = if j < i then l.getD j 0 else if j = i then x else l.getD (j - 1) 0 := by
  have ht : (l.take i).length = i := by rw [List.length_take]; omega
  have hlen : (l.take i ++ x :: l.drop i).length = l.length + 1 := by rw [List.length_append, ht, List.length_cons, List.length_drop]; omega
  by_cases h1 : j < i
  · rw [if_pos h1, List.getElem_append_left (by omega), List.getElem_take, List.getD_eq_getElem?_getD, List.getElem?_eq_getElem (by omega)]; rfl
  · rw [if_neg h1, List.getElem_append_right (by omega)]
    by_cases h2 : j = i
    · rw [if_pos h2]
      have : j - (l.take i).length = 0 := by omega
      simp only [this]
      rfl
    · rw [if_neg h2]
      have : j - (l.take i).length = (j - 1 - i) + 1 := by omega
      simp only [this, List.getElem_cons_succ]
      rw [List.getElem_drop, List.getD_eq_getElem?_getD, List.getElem?_eq_getElem (by omega)]
      have e : i + (j - 1 - i) = j - 1 := by omega
      simp only [e]
      rfl
set_option maxHeartbeats 1000000 in
theorem insert_call (B n i vb : Nat) (v : Value) (l : List UInt8) (x : UInt8) (w : World) (hown : w.ownsRow B 5 1 v n (bvs l)) (hB : B ≤ w.heap.size) (hi : i < n) (hn : n ≤ 1073741824) (hvb : w.heap[vb]? = some (.cells #[bv x] 5 (0, 0))) (hne : v.ownBlock ≠ some vb) :
    Calls Tryd.prog 46 #[v, .int .i64 (i : Nat), .slice (some ⟨vb, 0, none⟩) 1 1] w fun e w' => ∃ v', e = .returned v' ∧ w'.ownsRow B 5 1 v' (n + 1) (bvs (l.take i ++ x :: l.drop i)) ∧ Below B w w' := by
  obtain ⟨g, cap, f, rfl, hg, hnc, hcap, hl, hr, hf⟩ := row_of_owns hown (by omega)
  have hcap' : cap ≤ 9223372036854775807 := by unfold maxLen at hcap; omega
  have hvg : vb ≠ g := fun e => hne (by rw [e]; rfl)
  have hcs : ∀ j u, (bvs l)[j]? = some u → w.cell? ⟨g, 0 + j, none⟩ = some u := fun j u hj => by
    have hlt : j < l.length := by
      rcases Nat.lt_or_ge j l.length with h | h
      · exact h
      · rw [List.getElem?_eq_none (by rw [bvs_len]; exact h)] at hj; cases hj
    rw [Nat.zero_add, hr.cell (by omega), hf j hlt]
    rw [bvs_get l j hlt] at hj
    exact hj
  have hvs : ∀ j u, [bv x][j]? = some u → w.cell? ⟨vb, 0 + j, none⟩ = some u := fun j u hj => by
    cases j with
    | zero => cases hj; simp [World.cell?, hvb]
    | succ j => cases hj
  have hdr : ∀ j (hj : j < (bvs (l.drop i)).length), ((bvs l).drop i)[j]?.getD default = bv (l.getD (i + j) 0) := fun j hj => by
    rw [bvs_len, List.length_drop] at hj
    rw [List.getElem?_drop, bvs_get l (i + j) (by omega), List.getD_eq_getElem?_getD, List.getElem?_eq_getElem (by omega)]
    rfl
  have hdl : ((bvs l).drop i).length = n - i := by rw [List.length_drop, bvs_len]; omega
  have hil : (l.take i ++ x :: l.drop i).length = n + 1 := by rw [List.length_append, List.length_take, List.length_cons, List.length_drop]; omega
  by_cases hroom : n + 1 ≤ cap
  · refine (insert_shift g 0 n cap i vb 0 1 1 (bvs l) [bv x] w hi (by omega) hroom hcap' hvg (by rw [bvs_len]; exact hl) rfl hcs (fun j hj => by rw [Nat.zero_add, hr.cell (by omega)]; rfl) (fun j _ => hr.frozen _) hvs (bvs_one l) (fun u hu => by rw [List.mem_singleton.1 hu]; rfl)
      5 5 1 cap (by simp [World.shape?, hvb]) (by obtain ⟨c, hb, hs, _⟩ := hr; simp [World.shape?, hb, hs]) (by omega) (by simp [World.frozen?, hvb]) (by simp [World.frozen?, hvb])).mono ?_
    rintro e w' ⟨rfl, rfl⟩
    refine ⟨_, rfl, ?_, ?_⟩
    · have hr1 := Go.rowIs_setCells ((bvs l).drop i) (0 + (i + 1)) w.drew f hr
      have hr2 := Go.rowIs_setCells [bv x] (0 + i) _ _ hr1
      refine owns_of_row hr2 hg hil hroom hcap (fun j hj => ?_)
      rw [ins_get l i x (by omega) j hj]
      simp only [Nat.zero_add, hdl, List.length_singleton]
      by_cases h1 : j < i
      · rw [if_neg (by omega), if_neg (by omega), if_pos h1, hf j (by omega), List.getD_eq_getElem?_getD, List.getElem?_eq_getElem (by omega)]; rfl
      · rw [if_neg h1]
        by_cases h2 : j = i
        · subst h2
          rw [if_pos (by omega), if_pos rfl, Nat.sub_self]; rfl
        · rw [if_neg (by omega), if_neg h2, if_pos (by omega)]
          rw [hdr _ (by rw [bvs_len, List.length_drop]; omega)]
          congr 2
          omega
    · exact Go.below_setCells hg _ _ _ (Go.below_setCells hg _ _ _ (Below.refl _ _).drew)
  · refine (insert_grow g 0 n cap i vb 0 1 1 (bvs l) [bv x] w hi (by omega) hnc (by omega) (by omega) (by rw [bvs_len]; exact hl) rfl hcs hvs (bvs_one l) (fun u hu => by rw [List.mem_singleton.1 hu]; rfl)).mono ?_
    rintro e w' ⟨rfl, rfl⟩
    have hG : n + 1 ≤ grownCap w (n + 1) cap 5 := grownCap_ge w _ _ _
    have hG2 : grownCap w (n + 1) cap 5 ≤ maxLen := grownCap_le_maxLen w (n + 1) cap 5 (by unfold maxLen; omega)
    obtain ⟨G, hGe⟩ : ∃ G, G = grownCap w (n + 1) cap 5 := ⟨_, rfl⟩
    rw [← hGe] at hG hG2 ⊢
    have hzc : ∀ k, (Builtin.zeroCells (Value.int .u8 0).cells k).size = k := fun k => by simp [Builtin.zeroCells, Value.cells]
    obtain ⟨ROW, hROW⟩ : ∃ ROW : Array Value, ROW = ((bvs l).take i).toArray ++ Builtin.zeroCells (Value.int .u8 0).cells (n + 1 - i) ++ Builtin.zeroCells (Value.int .u8 0).cells (G - (n + 1)) := ⟨_, rfl⟩
    rw [← hROW]
    have hti : ((bvs l).take i).length = i := by rw [List.length_take, bvs_len]; omega
    have hRs : ROW.size = G := by
      rw [hROW, Array.size_append, Array.size_append, hzc, hzc, List.size_toArray, hti]; omega
    have hRi : ∀ j, j < i → ROW[j]?.getD default = bv (l.getD j 0) := fun j hj => by
      rw [hROW, Array.append_assoc, Array.getElem?_append_left (by rw [List.size_toArray, hti]; exact hj), List.getElem?_toArray, List.getElem?_take_of_lt hj, bvs_get l j (by omega), List.getD_eq_getElem?_getD, List.getElem?_eq_getElem (by omega)]
      rfl
    have hr0 : (w.alloc (.cells ROW 5)).rowIs w.heap.size 5 G (fun j => ROW[j]?.getD default) := by
      have := World.rowIs_alloc w ROW 5 (fun j => ROW[j]?.getD default) (fun j hj => by show ROW[j]? = some (ROW[j]?.getD default); rw [Array.getElem?_eq_getElem hj]; rfl)
      rwa [hRs] at this
    have hr1 := Go.rowIs_setCells [bv x] i (w.alloc (.cells ROW 5)).drew _ hr0
    have hr2 := Go.rowIs_setCells ((bvs l).drop i) (i + 1) (((w.alloc (.cells ROW 5)).drew.setCells w.heap.size i [bv x]).drew) _ hr1
    refine ⟨_, rfl, owns_of_row hr2 hB hil hG hG2 (fun j hj => ?_), ?_⟩
    · rw [ins_get l i x (by omega) j hj]
      simp only [hdl, List.length_singleton]
      by_cases h1 : j < i
      · rw [if_neg (by omega), if_neg (by omega), if_pos h1, hRi j h1]
      · rw [if_neg h1]
        by_cases h2 : j = i
        · subst h2
          rw [if_neg (by omega), if_pos (by omega), if_pos rfl, Nat.sub_self]; rfl
        · rw [if_pos (by omega), if_neg h2, hdr _ (by rw [bvs_len, List.length_drop]; omega)]
          congr 2
          omega
    · exact Go.below_setCells hB _ _ _ (Go.below_setCells hB _ _ _ ((Below.refl _ _).alloc hB _).drew).drew
end Go.Proofs.Qxb6606399aDoor
