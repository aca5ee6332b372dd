import Derived.Test.Qxb6606399aDoorBase
import Derived.Test.Qxb6606399aDoorShelf
namespace Go.Proofs.Qxb6606399aDoor
open Go.RowKit

/-! ### bytes.IndexAny at two ASCII bytes: every text, valid UTF-8 or not -/
def anyB (c : UInt8) : Bool := c == 101 || c == 69
/-- The place of the first byte that is one of the two; -1: none. -/
def anyIdx (l : List UInt8) : Int := if l.findIdx anyB < l.length then (l.findIdx anyB : Int) else -1
theorem anyIdx_none (l : List UInt8) (h : ∀ i, (h : i < l.length) → anyB l[i] = false) : anyIdx l = -1 := by
  unfold anyIdx
  rw [if_neg]
  intro hlt
  have := List.findIdx_getElem (w := hlt)
  rw [h _ hlt] at this
  cases this
theorem anyIdx_hit (l : List UInt8) (k : Nat) (hk : k < l.length) (h0 : ∀ i, (h : i < l.length) → i < k → anyB l[i] = false) (h1 : anyB l[k] = true) : anyIdx l = k := by
  have : l.findIdx anyB = k := (List.findIdx_eq hk).2 ⟨h1, fun j hj => h0 j (by omega) hj⟩
  unfold anyIdx
  rw [this, if_pos hk]
theorem Tryd.set_info : (Tryd.prog.info? 44).map (fun i => (i.zero, i.size)) = some (some (.agg (Array.replicate 256 (.bool false))), 256) := by kernel_rfl

theorem any_empty (p : Option Addr) (c : Nat) (w : World) :
    Calls Tryd.prog 21 #[.slice p 0 c, .string ⟨#[101, 69]⟩] w fun e w' => e = .returned (.int .i64 (-1)) ∧ w = w' := by
  go_enter Tryd.func21, Tryd.ntmps21
  go_wp2
  refine wp_loop_rounds 1 ?_
  rw [rounds_succ]
  go_wp2
  go_ret
  exact ⟨rfl, rfl⟩

theorem sua_no (n : Nat) (h : n ≤ 8) (w : World) : Calls Tryd.prog 31 #[.int .i64 (n : Nat)] w fun e w' => e = .returned (.bool false) ∧ w = w' := by
  go_enter Tryd.func31, Tryd.ntmps31
  go_wp2
  go_ret
  exact ⟨by simp; omega, rfl⟩
theorem sua_any (n : Nat) (h : 8 < n) (w : World) : Calls Tryd.prog 31 #[.int .i64 (n : Nat)] w fun e w' => e = .returned (.bool true) ∧ w = w' := by
  go_enter Tryd.func31, Tryd.ntmps31
  go_wp2
  go_ret
  exact ⟨by simp; omega, rfl⟩
set_option maxHeartbeats 8000000 in
set_option maxRecDepth 1000000 in
theorem any_long (b off c : Nat) (l : List UInt8) (w : World) (h8 : 8 < l.length) (hl : l.length ≤ 4611686018427387904) (hc : CellsL w b off l) :
    Calls Tryd.prog 21 #[.slice (some ⟨b, off, none⟩) l.length c, .string ⟨#[101, 69]⟩] w fun e w' => e = .returned (.int .i64 (anyIdx l)) ∧ Below w.heap.size w w' := by
  obtain ⟨hv, hi⟩ := zero_of_info Tryd.set_info
  have hM := Any.bytes_makeASCIISet Tryd.laysV11 hv hi ⟨#[101, 69]⟩ w (by decide) (fun j x hj => by
    have : x ∈ [(101 : UInt8), 69] := List.mem_of_getElem? hj
    simp at this; rcases this with rfl | rfl <;> decide)
  have hn1 : ((l.length : Int) == 1) = false := beq_eq_false_iff_ne.2 (by omega)
  have h8z : decide ((8 : Int) < (l.length : Int)) = true := decide_eq_true (by omega)
  obtain ⟨S, hS⟩ : ∃ S, Hid (S = Lib.setCells [(101 : UInt8), 69]) := ⟨_, rfl⟩
  have hM' : Calls Tryd.prog 32 #[.string ⟨#[101, 69]⟩] w fun e w' => e = .returned (.tuple #[.agg S, .bool true]) ∧ w' = w.alloc (.cells S 44) := by
    rw [hS.out]; exact hM
  have hsz : S.size = 256 := by rw [hS.out]; exact Lib.setCells_size _
  have hone : (S.all fun x => x.oneCell') = true := by rw [hS.out]; exact Lib.setCells_one _
  have hsc : (storeCells ⟨w.heap.size + 1, 0, none⟩ S.toList 0).run Tryd.prog ((w.alloc (.cells S 44)).alloc (.cells (Array.replicate 256 (.bool false)) 44)) = .ok () ((w.alloc (.cells S 44)).alloc (.cells S 44)) := by
    have := run_storeCells_new (P := Tryd.prog) (w.alloc (.cells S 44)) 44 (Array.replicate 256 (.bool false)) S (by rw [hsz]; exact hi) (by rw [hsz, Array.size_replicate]) hone
    simpa using this
  have hcellAt : ∀ x : UInt8, ((w.alloc (.cells S 44)).alloc (.cells S 44)).cell? ⟨w.heap.size + 1, x.toNat, none⟩ = some (.bool (anyB x)) := fun x => by
    rw [World.cell?_alloc_at _ _ _ _ (by simp), hS.out, Lib.setCells_at]
    have : ([101, 69] : List UInt8).contains x = anyB x := by simp [anyB]; rfl
    rw [this]
  have HC := hide hcellAt
  have HL := hide (hc.later hc.lt (((Below.refl _ w).alloc (Nat.le_refl _) (.cells S 44)).alloc (by simp) (.cells S 44)))
  clear hcellAt hM hc
  go_enter Tryd.func21, Tryd.ntmps21
  go_wp2_with fail
  refine (sua_any _ h8 _).mono ?_
  rintro e w' ⟨rfl, rfl⟩
  go_wp2_with fail
  refine hM'.mono ?_
  rintro e w' ⟨rfl, rfl⟩
  go_wp2_with fail
  clear hM' hsc
  obtain ⟨W2, hW2⟩ : ∃ W2, W2 = (w.alloc (.cells S 44)).alloc (.cells S 44) := ⟨_, rfl⟩
  rw [← hW2] at HC HL ⊢
  have hB : Below w.heap.size w W2 := by rw [hW2]; exact ((Below.refl _ w).alloc (Nat.le_refl _) _).alloc (by simp) _
  clear hW2
  go_loopg [62] (l.length) (fun g i wr => ∃ k : Nat, g = l.length - k ∧ k ≤ l.length ∧ Hid (∀ i, (h : i < l.length) → i < k → anyB l[i] = false) ∧ W2 = wr ∧ i = .int .i64 (k : Nat))
  case atStart => exact ⟨0, rfl, Nat.zero_le _, fun i _ h => by omega, rfl, rfl⟩
  case round =>
    obtain ⟨k, rfl, hk, HZ, rfl, rfl⟩ := hrel
    by_cases hlt : k < l.length
    · obtain ⟨x, hcx, HX⟩ : ∃ x : UInt8, W2.cell? ⟨b, off + k, none⟩ = some (.int .u8 (x.toNat : Int)) ∧ Hid (x = l[k]) := ⟨_, (unhide HL) k hlt, rfl⟩
      have hset := (unhide HC) x
      cases hin : anyB x with
      | false =>
        rw [hin] at hset
        have HN : Hid (∀ i, (h : i < l.length) → i < k + 1 → anyB l[i] = false) := fun i hi hik => by
          by_cases e : i = k
          · subst e; rw [← HX.out]; exact hin
          · exact HZ.out i hi (by omega)
        clear hin
        go_wp2_with fail
        refine (Any.bytes_asciiSet_contains Tryd.laysV16 _ x _ _ hset).mono ?_
        rintro e w' ⟨rfl, hw⟩
        subst hw
        go_wp2_with fail
        go_roundg (l.length - (k + 1))
        case measure => omega
        case rel => exact ⟨k + 1, rfl, by omega, HN, rfl, by go_num⟩
      | true =>
        rw [hin] at hset
        have HN : Hid (anyIdx l = (k : Int)) := anyIdx_hit l k hlt HZ.out (by rw [← HX.out]; exact hin)
        clear hin
        go_wp2_with fail
        refine (Any.bytes_asciiSet_contains Tryd.laysV16 _ x _ _ hset).mono ?_
        rintro e w' ⟨rfl, hw⟩
        subst hw
        go_wp2_with fail
        go_ret
        exact ⟨by rw [HN.out]; rfl, hB⟩
    · have HN : Hid (anyIdx l = -1) := anyIdx_none l (fun i hi => HZ.out i hi (by omega))
      go_wp2_with fail
      go_ret
      exact ⟨by rw [HN.out]; rfl, hB⟩

theorem ib_no (x : UInt8) (h : anyB x = false) : Lib.indexByte [101, 69] x = -1 := by
  unfold anyB at h
  rw [Bool.or_eq_false_iff, beq_eq_false_iff_ne, beq_eq_false_iff_ne] at h
  have h1 : ((101 : UInt8) == x) = false := beq_eq_false_iff_ne.2 (fun e => h.1 e.symm)
  have h2 : ((69 : UInt8) == x) = false := beq_eq_false_iff_ne.2 (fun e => h.2 e.symm)
  simp [Lib.indexByte, h1, h2]
theorem ib_yes (x : UInt8) (h : anyB x = true) : 0 ≤ Lib.indexByte [101, 69] x := by
  unfold anyB at h
  rw [Bool.or_eq_true, beq_iff_eq, beq_iff_eq] at h
  rcases h with rfl | rfl <;> decide
theorem anyB_high (x : UInt8) (h : 128 ≤ x.toNat) : anyB x = false := by
  unfold anyB
  have h1 : (x == 101) = false := beq_eq_false_iff_ne.2 (fun e => by subst e; revert h; decide)
  have h2 : (x == 69) = false := beq_eq_false_iff_ne.2 (fun e => by subst e; revert h; decide)
  rw [h1, h2]; rfl
set_option maxHeartbeats 2000000 in
set_option maxRecDepth 1000000 in
theorem any_one (b off c : Nat) (x : UInt8) (w : World) (hc : w.cell? ⟨b, off, none⟩ = some (.int .u8 (x.toNat : Int))) :
    Calls Tryd.prog 21 #[.slice (some ⟨b, off, none⟩) 1 c, .string ⟨#[101, 69]⟩] w fun e w' => e = .returned (.int .i64 (anyIdx [x])) ∧ Below w.heap.size w w' := by
  obtain ⟨n, hn, hn256, HX⟩ : ∃ n : Nat, w.cell? ⟨b, off, none⟩ = some (.int .u8 (n : Int)) ∧ n < 256 ∧ Hid (n = x.toNat) := ⟨_, hc, x.toNat_lt, rfl⟩
  clear hc
  by_cases h128 : 128 ≤ n
  · have HN : Hid (anyIdx [x] = -1) := anyIdx_none [x] (fun i hi => by
      have : i = 0 := by simpa using hi
      subst this
      exact anyB_high x (by rw [← HX.out]; exact h128))
    have n0 := fun ty => run_next_ascii (P := Tryd.prog) w ⟨#[101, 69]⟩ 0 ty (by decide) (by decide)
    have n1 := fun ty => run_next_ascii (P := Tryd.prog) w ⟨#[101, 69]⟩ 1 ty (by decide) (by decide)
    have n2 := fun ty => run_next_end (P := Tryd.prog) w ⟨#[101, 69]⟩ 2 ty (by decide)
    go_enter Tryd.func21, Tryd.ntmps21
    go_wp2_with fail
    refine wp_loop_rounds 3 ?_
    rw [rounds_succ]
    go_wp2_with fail
    rw [rounds_succ]
    go_wp2_with fail
    rw [rounds_succ]
    go_wp2_with fail
    go_ret
    exact ⟨by rw [HN.out]; rfl, (Below.refl _ _).alloc (Nat.le_refl _) _⟩
  · have hx : n.toUInt8 = x := by rw [HX.out]; simp
    cases hin : anyB x with
    | false =>
      have HN : Hid (anyIdx [x] = -1) := anyIdx_none [x] (fun i hi => by
        have : i = 0 := by simpa using hi
        subst this
        exact hin)
      have hib : Lib.indexByte [101, 69] x = -1 := ib_no x hin
      clear hin
      go_enter Tryd.func21, Tryd.ntmps21
      go_wp2_with fail
      rw [run_callFunc_extern Tryd.func29 (by kernel_rfl) (by kernel_rfl) (by kernel_rfl) (e := Extern.BytealgIndexByte.indexByte) (by kernel_rfl), Lib.run_indexByteString]
      simp only [Result.andThen, Int.toNat_natCast, hx, hib]
      rw [Oper.upon_value]
      go_wp2_with fail
      go_ret
      exact ⟨by rw [HN.out]; rfl, Below.refl _ _⟩
    | true =>
      have HN : Hid (anyIdx [x] = 0) := anyIdx_hit [x] 0 (by simp) (fun i hi h => by omega) hin
      have hib := ib_yes x hin
      obtain ⟨r, hr⟩ : ∃ r, r = Lib.indexByte [101, 69] x := ⟨_, rfl⟩
      rw [← hr] at hib
      clear hin
      go_enter Tryd.func21, Tryd.ntmps21
      go_wp2_with fail
      rw [run_callFunc_extern Tryd.func29 (by kernel_rfl) (by kernel_rfl) (by kernel_rfl) (e := Extern.BytealgIndexByte.indexByte) (by kernel_rfl), Lib.run_indexByteString]
      simp only [Result.andThen, Int.toNat_natCast, hx]
      rw [← hr, Oper.upon_value]
      clear hr
      go_wp2_with fail
      go_ret
      exact ⟨by rw [HN.out]; rfl, Below.refl _ _⟩
end Go.Proofs.Qxb6606399aDoor
