import Derived.Test.Qxb6606399aDoorApp
namespace Go.Proofs.Qxb6606399aDoor
open Go.RowKit

theorem bytesAt {w : World} {p : Option Addr} {l : List UInt8} (h : At w p l) : Lib.BytesAt w p l.length l := fun h0 => by
  obtain ⟨b, off, rfl, hc⟩ := h h0
  exact ⟨b, off, rfl, fun i hi => by rw [hc i hi, Lib.getD_lt_sl l i 0 hi]⟩
def numsOf (l : List UInt8) : List Int := l.map fun c => (c.toNat : Int)
theorem numsOf_len (l : List UInt8) : (numsOf l).length = l.length := by simp [numsOf]
theorem bytesOf_nums (l : List UInt8) : Lib.bytesOf (numsOf l) = l := by
  unfold Lib.bytesOf numsOf
  rw [List.map_map]
  conv => rhs; rw [← List.map_id l]
  apply List.map_congr_left
  intro c _
  simp
theorem nums_range (l : List UInt8) : ∀ x ∈ numsOf l, 0 ≤ x ∧ x < 256 := fun x hx => by
  obtain ⟨c, _, rfl⟩ := List.mem_map.1 hx
  have := c.toNat_lt
  omega
theorem bytesIn {w : World} {p : Option Addr} {l : List UInt8} (h : At w p l) : Lib.BytesIn w p l.length (numsOf l) := fun h0 => by
  obtain ⟨b, off, rfl, hc⟩ := h h0
  exact ⟨b, off, rfl, fun i hi => by rw [hc i hi, Lib.getD_lt_sl _ i 0 (by rw [numsOf_len]; exact hi)]; simp [numsOf]⟩

/-- A prefix, at the same address. -/
theorem Rd.pre {B : Nat} {w : World} {p : Option Addr} {c : Nat} {l : List UInt8} (h : Rd B w p c l) (k : Nat) : Rd B w p c (l.take k) := by
  refine ⟨by rw [List.length_take]; have := h.1; omega, h.2.1, fun h0 => ?_, h.2.2.2⟩
  rw [List.length_take] at h0
  obtain ⟨b, off, e, hc⟩ := h.2.2.1 (by omega)
  exact ⟨b, off, e, hc.take k⟩
/-- A rest of a byte or more, further on. -/
theorem Rd.from {B : Nat} {w : World} {p : Option Addr} {c : Nat} {l : List UInt8} (h : Rd B w p c l) (j : Nat) (hj : j < l.length) : Rd B w (p.map fun x => x.add j) (c - j) (l.drop j) := by
  obtain ⟨h1, h2, h3, h4, h5⟩ := h
  obtain ⟨b, off, rfl, hc⟩ := h3 (by omega)
  rw [Option.map_some, Addr.add_lit]
  exact ⟨by rw [List.length_drop]; omega, by omega, fun _ => ⟨b, off + j, rfl, hc.drop j⟩, (fun e => by cases e), (fun x e => by cases e; exact ⟨(h5 _ rfl).1, rfl⟩)⟩
theorem left_rd {B : Nat} {w : World} {p : Option Addr} {c : Nat} {l m : List UInt8} (h : Rd B w p c l) (hm : m = l.drop (l.length - m.length)) (hle : m.length ≤ l.length) :
    ∃ p' c', Lib.leftV p l.length c (l.length - m.length) = .slice p' m.length c' ∧ Rd B w p' c' m := by
  unfold Lib.leftV
  by_cases h0 : m.length = 0
  · obtain rfl : m = [] := List.eq_nil_of_length_eq_zero h0
    exact ⟨none, 0, by rw [if_pos (by simp)]; rfl, Rd.nil B w⟩
  · rw [if_neg (by omega)]
    unfold Lib.fromV
    have hc := h.1
    rw [if_neg (by omega)]
    refine ⟨_, _, by rw [show l.length - (l.length - m.length) = m.length by omega], ?_⟩
    have := h.from (l.length - m.length) (by omega)
    rw [← hm] at this
    exact this
theorem tL_drop (l : List UInt8) : tL l = l.drop (l.length - (tL l).length) := by
  obtain ⟨k, e, _⟩ := tL_split l
  have hl := congrArg List.length e
  rw [List.length_append, List.length_replicate] at hl
  have : l.length - (tL l).length = k := by omega
  rw [this]
  have h2 := List.drop_left (l₁ := List.replicate k (48 : UInt8)) (l₂ := tL l)
  rw [← e, List.length_replicate] at h2
  exact h2.symm
theorem tR_take (l : List UInt8) : tR l = l.take (tR l).length := by
  obtain ⟨k, e, _⟩ := tR_split l
  have := List.take_left (l₁ := tR l) (l₂ := List.replicate k (48 : UInt8))
  rw [← e] at this
  exact this.symm
theorem expDigits_drop (l : List UInt8) : expDigits l = l.drop (l.length - (expDigits l).length) ∧ (expDigits l).length ≤ l.length := by
  have key : ∀ (p : UInt8 → Bool) (l : List UInt8), l.dropWhile p = l.drop (l.length - (l.dropWhile p).length) ∧ (l.dropWhile p).length ≤ l.length := fun p l => by
    have e := List.takeWhile_append_dropWhile (p := p) (l := l)
    have hl := congrArg List.length e
    rw [List.length_append] at hl
    refine ⟨?_, by omega⟩
    have : l.length - (l.dropWhile p).length = (l.takeWhile p).length := by omega
    rw [this]
    have h2 := List.drop_left (l₁ := l.takeWhile p) (l₂ := l.dropWhile p)
    rw [e] at h2
    exact h2.symm
  exact key _ l

theorem tR_call {B : Nat} {w : World} {p : Option Addr} {c : Nat} {l : List UInt8} (h : Rd B w p c l) :
    Calls Tryd.prog 23 #[.slice p l.length c, .string ⟨#[48]⟩] w fun e w' => e = .returned (.slice p (tR l).length c) ∧ w = w' := by
  obtain ⟨h1, h2, h3, _⟩ := h
  by_cases h0 : l.length = 0
  · obtain rfl : l = [] := List.eq_nil_of_length_eq_zero h0
    exact (Any.bytes_TrimRight_empty Tryd.laysV7 p 0 c ⟨#[48]⟩ w (.inl rfl)).mono fun _ _ ⟨e, hw⟩ => ⟨e, hw.symm⟩
  · exact (Any.bytes_TrimRight_one Tryd.laysV7 p l.length c l 48 w rfl h1 (by omega) (bytesAt h3) (by omega) (by decide)).mono fun _ _ ⟨e, hw⟩ => ⟨e, hw.symm⟩
theorem tL_call {B : Nat} {w : World} {p : Option Addr} {c : Nat} {l : List UInt8} (h : Rd B w p c l) :
    Calls Tryd.prog 24 #[.slice p l.length c, .string ⟨#[48]⟩] w fun e w' => ∃ p' c', e = .returned (.slice p' (tL l).length c') ∧ Rd B w p' c' (tL l) ∧ w = w' := by
  obtain ⟨p', c', e1, e2⟩ := left_rd h (tL_drop l) (tL_len l)
  obtain ⟨h1, h2, h3, _⟩ := h
  by_cases h0 : l.length = 0
  · obtain rfl : l = [] := List.eq_nil_of_length_eq_zero h0
    exact (Any.bytes_TrimLeft_none Tryd.laysV8 p c ⟨#[48]⟩ w).mono fun _ _ ⟨e, hw⟩ => ⟨none, 0, e, Rd.nil B w, hw.symm⟩
  · exact (Any.bytes_TrimLeft_one Tryd.laysV8 p l.length c l 48 w rfl h1 (by omega) (bytesAt h3) (by omega) (by decide)).mono fun _ _ ⟨e, hw⟩ => ⟨p', c', e.trans (congrArg _ e1), e2, hw.symm⟩
theorem info44 : (Tryd.prog.info? 44).map (fun i => (i.zero, i.size)) = some (some (.agg (Array.replicate 256 (.bool false))), 256) := by kernel_rfl
theorem sgn_call {B : Nat} {w : World} {p : Option Addr} {c : Nat} {l : List UInt8} (h : Rd B w p c l) (hB : B ≤ w.heap.size) :
    Calls Tryd.prog 24 #[.slice p l.length c, .string ⟨#[43, 45]⟩] w fun e w' => ∃ p' c', e = .returned (.slice p' (expDigits l).length c') ∧ Rd B w' p' c' (expDigits l) ∧ Below w.heap.size w w' := by
  obtain ⟨d1, d2⟩ := expDigits_drop l
  obtain ⟨p', c', e1, e2⟩ := left_rd h d1 d2
  obtain ⟨h1, h2, h3, _⟩ := h
  exact (Any.bytes_TrimLeft_ascii Tryd.laysV8 (zero_of_info info44).1 (zero_of_info info44).2 p l.length c l ⟨#[43, 45]⟩ w rfl h1 (by omega) (bytesAt h3) (by decide) (fun j b hj => by
    match j, hj with
    | 0, hj => cases hj; decide
    | 1, hj => cases hj; decide)).mono fun _ _ ⟨e, hb⟩ => ⟨p', c', e.trans (congrArg _ e1), e2.later (hb.mono hB), hb⟩

/-! ### bytes.Cut at a dot -/
theorem dot_none (l : List UInt8) (h : AllDig l) : Lib.indexByte l 46 = -1 := by
  induction l with
  | nil => rfl
  | cons c r ih =>
    unfold Lib.indexByte
    have hc := (digB_iff c).1 h.head
    rw [if_neg (by rw [beq_iff_eq]; rintro rfl; exact absurd hc.1 (by decide)), ih h.tail]
    rfl
theorem dot_at (l r : List UInt8) (h : AllDig l) : Lib.indexByte (l ++ 46 :: r) 46 = l.length := by
  induction l with
  | nil => simp [Lib.indexByte]
  | cons c t ih =>
    rw [List.cons_append]
    unfold Lib.indexByte
    have hc := (digB_iff c).1 h.head
    rw [if_neg (by rw [beq_iff_eq]; rintro rfl; exact absurd hc.1 (by decide)), ih h.tail, if_neg (by rw [beq_iff_eq]; omega), List.length_cons]
    omega
theorem cut_call {B : Nat} {w : World} {p q : Option Addr} {c cq : Nat} {ip f : List UInt8} (h : Rd B w p c (ip ++ f)) (hi : AllDig ip) (hne : ip ≠ []) (hf : IsFrac f) (hq : At w q [46]) (mx : Int) (hm : w.cell? ⟨0, 0, none⟩ = some (.int .i64 mx)) :
    Calls Tryd.prog 22 #[.slice p (ip ++ f).length c, .slice q 1 cq] w fun e w' => ∃ pf cf bf, e = .returned (.tuple #[.slice p ip.length c, .slice pf (fdText f).length cf, .bool bf]) ∧ Rd B w pf cf (fdText f) ∧ ∃ k, w' = w.drewN k := by
  have h' := h
  obtain ⟨h1, h2, h3, h4, _⟩ := h
  refine (Any.bytes_Cut_all Tryd.laysT4 p q (ip ++ f).length c 1 cq (numsOf (ip ++ f)) (numsOf [46]) mx w (numsOf_len _) (numsOf_len _) (nums_range _) (nums_range _) (bytesIn h3) (bytesIn hq) h4 h1 (by omega) (by omega) hm).mono ?_
  rintro e w' ⟨he, hw⟩
  rw [bytesOf_nums, bytesOf_nums, Lib.index_one] at he
  have hil : 0 < ip.length := List.length_pos_iff.2 hne
  rcases hf with rfl | ⟨d, rfl, hd, ha⟩
  · rw [List.append_nil, dot_none ip hi] at he
    exact ⟨none, 0, false, he, Rd.nil B w, hw⟩
  · rw [dot_at ip d hi] at he
    have hd' : 0 < d.length := List.length_pos_iff.2 hd
    have hlen : (ip ++ 46 :: d).length = ip.length + 1 + d.length := by rw [List.length_append, List.length_cons]; omega
    have hfr := h'.from (ip.length + 1) (by rw [hlen]; omega)
    rw [show (ip ++ 46 :: d).drop (ip.length + 1) = d from by simp [List.drop_append]] at hfr
    refine ⟨_, _, true, ?_, hfr, hw⟩
    rw [he]
    unfold Lib.cutV
    rw [if_pos (by omega)]
    unfold Lib.fromV
    rw [if_neg (by rw [hlen] at h1; show ¬ (c = (ip.length : Int).toNat + 1); omega)]
    show Ending.returned (.tuple #[.slice p ((ip.length : Int).toNat) c, .slice (p.map fun x => x.add ((ip.length : Int).toNat + 1)) ((ip ++ 46 :: d).length - ((ip.length : Int).toNat + 1)) (c - ((ip.length : Int).toNat + 1)), .bool true]) = _
    rw [Int.toNat_natCast, hlen, Nat.add_sub_cancel_left]
    rfl

/-! ### strconv.AppendInt, slices.Delete -/
theorem tab_named {P : Program} {B : Nat} {w : World} {n m : String} {k : IntKind} {T : List Int} (h : Lib.TabBelow P B w n k T) (e : n = m) : Lib.TabBelow P B w m k T := e ▸ h
theorem int_call (B n : Nat) (E : Int) (h0 : -9223372036854775808 ≤ E) (h1 : E ≤ 9223372036854775807) (v : Value) (l : List UInt8) (w : World) (hown : w.ownsRow B 5 1 v n (bvs l)) (hB : B ≤ w.heap.size) (hlim : n ≤ 1073741824)
    (htab : Lib.TabBelow Tryd.prog B w (Tryd.prog.globals[3]!.name) .u64 Lib.pow10Tab) :
    Calls Tryd.prog 44 #[v, .int .i64 E, .int .i64 10] w fun e w' => ∃ v', e = .returned v' ∧ w'.ownsRow B 5 1 v' (n + (Lib.itoa E).length) (bvs (l ++ Lib.itoa E)) ∧ Below B w w' := by
  refine (Any.strconv_AppendInt_10 Tryd.laysM176 B n E h0 h1 v (bvs l) w hown hB (by omega) (tab_named htab (by kernel_rfl))).mono ?_
  rintro e w' ⟨v', he, ho, hb, _⟩
  exact ⟨v', he, by rw [bvs_append]; exact ho, hb⟩
theorem take_put (cur : Array Value) (ts : List UInt8) (h : ts.length ≤ cur.size) : (Sort.putCells bv 0 ts.toArray cur).toList.take ts.length = bvs ts := by
  apply List.ext_getElem?
  intro j
  by_cases hj : j < ts.length
  · rw [List.getElem?_take_of_lt hj, Array.getElem?_toList]
    simp [Sort.putCells, hj, show j < cur.size by omega, bvs]
  · rw [List.getElem?_take_eq_none (by omega), List.getElem?_eq_none (by rw [bvs_len]; omega)]
theorem delete_call (B n i : Nat) (v : Value) (l : List UInt8) (w : World) (hown : w.ownsRow B 5 1 v n (bvs l)) (hi : i < n) :
    Calls Tryd.prog 45 #[v, .int .i64 (i : Nat), .int .i64 ((i : Int) + 1)] w fun e w' => ∃ v', e = .returned v' ∧ w'.ownsRow B 5 1 v' (n - 1) (bvs (l.take i ++ l.drop (i + 1))) ∧ Below B w w' := by
  obtain ⟨i0, hi0, hz0, hz1, hz2⟩ := info_parts Tryd.info5
  have hln : l.length = n := by have := hown.1; rw [bvs_len] at this; omega
  rcases hown.2 with ⟨_, rfl⟩ | ⟨g, cap, cur, rfl, hg, hblk, hnc, hcap, hcs, htake⟩
  · omega
  have hH : Sort.Holds bv w g 0 l.toArray := fun j hj => by
    rw [List.size_toArray] at hj
    refine ⟨?_, hown.frozenAt (0 + j)⟩
    rw [hown.cellAt (0 + j) (by omega), Nat.zero_add, bvs_get l j hj]
    simp [hj, bv]
  have key := AnyE.slices_Delete Tryd.laysE45 bv (fun _ => rfl) (0 : UInt8) (fun w => Tryd.zeroValue5 w) i0 hi0 hz1 g 0 cap i (i + 1) l.toArray w hH (by rw [List.size_toArray]; omega) (by unfold maxLen at hcap; omega) (by omega) (by rw [List.size_toArray]; omega)
  rw [List.size_toArray, hln] at key
  refine key.mono ?_
  rintro e w' ⟨rfl, q, rfl⟩
  rw [show n - (i + 1 - i) = n - 1 by omega]
  refine ⟨_, rfl, ⟨by rw [bvs_len, List.length_append, List.length_take, List.length_drop]; omega, .inr ⟨g, cap, Sort.putCells bv 0 (l.take i ++ l.drop (i + 1) ++ List.replicate (i + 1 - i) 0).toArray cur, rfl, hg, ?_, by omega, hcap, ?_, ?_⟩⟩, ?_⟩
  · simp [Sort.putRow, Sort.mapBlock, Sort.ahead, Array.getElem?_modify, hblk, Sort.onCells]
  · simp [Sort.putCells, hcs]
  · have hlen : (l.take i ++ l.drop (i + 1) ++ List.replicate (i + 1 - i) (0 : UInt8)).length = n := by
      rw [List.length_append, List.length_append, List.length_take, List.length_drop, List.length_replicate]; omega
    have := take_put cur (l.take i ++ l.drop (i + 1) ++ List.replicate (i + 1 - i) 0) (by rw [hlen]; omega)
    rw [hlen] at this
    have h2 := congrArg (List.take (n - 1)) this
    rw [List.take_take, show min (n - 1) n = n - 1 by omega] at h2
    rw [Nat.mul_one, h2, bvs_append]
    rw [List.take_left' (by rw [bvs_len, List.length_append, List.length_take, List.length_drop]; omega)]
  · refine (Below.refl _ _).grown (row := some g) ⟨rfl, rfl, rfl, by simp [Sort.putRow, Sort.mapBlock, Sort.ahead], fun k hk hne => ?_⟩ (Nat.le_of_lt (Nat.lt_of_le_of_lt hg (Array.getElem?_eq_some_iff.1 hblk).1)) (fun k e => by cases e; exact hg)
    have : g ≠ k := fun e => hne (by rw [e])
    simp [Sort.putRow, Sort.mapBlock, Sort.ahead, Array.getElem?_modify, this]
end Go.Proofs.Qxb6606399aDoor
