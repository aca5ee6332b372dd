import Derived.Test.Qxb6606399aDoorDec
namespace Go.Proofs.Qxb6606399aDoor
open Go.RowKit

/-- unicode/utf8.DecodeRune at a byte of 128 or more, the text told as a list. -/
theorem dec_any (b off cap n : Nat) (l : List UInt8) (w : World) (hn : l.length = n) (hT : Lib.Utf8Tabs 1 2 w) (hc : CellsL w b off l) (h0 : 0 < l.length) (hb : 128 ≤ l[0].toNat) :
    Calls Tryd.prog 34 #[.slice (some ⟨b, off, none⟩) n cap] w fun e w' => ∃ R K : Nat, e = .returned (.tuple #[.int .i32 (R : Int), .int .i64 (K : Int)]) ∧ Below w.heap.size w w' ∧
      1 ≤ K ∧ K ≤ 4 ∧ K ≤ n ∧ 128 ≤ R ∧ R ≤ 1114111 ∧ Hid (∀ j, (h : j < l.length) → j < K → 128 ≤ l[j].toNat) ∧
      (R ≠ 65533 → 2 ≤ K ∧ (Utf8.encode R).size = K ∧ ∃ x r, (Utf8.encode R).data.toList = x :: r ∧ 128 ≤ x.toNat) := by
  obtain ⟨s, hs⟩ : ∃ s : ByteArray, s = ⟨l.toArray⟩ := ⟨_, rfl⟩
  have hsz : s.size = l.length := by rw [hs]; rfl
  have hget : ∀ j, (h : j < l.length) → s.get! j = l[j] := fun j h => by
    have h' : j < s.data.size := by rw [hs]; exact h
    have : s.get! j = s.data[j] := getElem!_pos s.data j h'
    rw [this]; subst hs; rfl
  have hd : Lib.decodeGo s = Utf8.decode s 0 := by unfold Lib.decodeGo; rw [if_neg (by omega)]
  obtain ⟨f1, f2, f3, f4, f5, f6, f7⟩ := dec_facts s (by omega) (by rw [hget 0 h0]; exact hb)
  have key := Any7.utf8_DecodeRune Tryd.lays7_32 s b off cap w hT (fun j hj => by rw [hget j (by omega)]; exact hc j (by omega))
  rw [hd, hsz, hn] at key
  refine key.mono fun e w' ⟨he, hw⟩ => ⟨(Utf8.decode s 0).1, (Utf8.decode s 0).2, he, hw, f1, f2, by omega, f4, f5, fun j hj hjK => ?_, f7⟩
  have := f6 j hjK
  rw [hget j hj] at this
  exact this

theorem ix_no (m : List UInt8) (h : 3 ≤ m.length) : Lib.index [101, 69] m = -1 := by
  match m, h with
  | x :: y :: z :: r, _ => simp [Lib.index, List.isPrefixOf]
theorem tabs_later {w wr : World} (h : Lib.Utf8Tabs 1 2 w) (hB : Below w.heap.size w wr) : Lib.Utf8Tabs 1 2 wr := by
  have h1 : 1 < w.heap.size := World.block_lt_of_cell? _ _ (h.1 0 (by omega))
  have h2 : 2 < w.heap.size := World.block_lt_of_cell? _ _ (h.2 0 (by omega)).1
  refine ⟨fun c hc => (hB.cell (p := ⟨1, c, none⟩) h1).trans (h.1 c hc), fun i hi => ⟨(hB.cell (p := ⟨2, 2 * i, none⟩) h2).trans (h.2 i hi).1, (hB.cell (p := ⟨2, 2 * i + 1, none⟩) h2).trans (h.2 i hi).2⟩⟩
set_option maxHeartbeats 8000000 in
set_option maxRecDepth 1000000 in
theorem any_short (b off c : Nat) (l : List UInt8) (w : World) (h1 : l.length ≠ 1) (h8 : l.length ≤ 8) (hcap : l.length ≤ c) (hc : CellsL w b off l) (hT : Lib.Utf8Tabs 1 2 w) (mx : Int) (hmx : w.cell? ⟨0, 0, none⟩ = some (.int .i64 mx)) :
    Calls Tryd.prog 21 #[.slice (some ⟨b, off, none⟩) l.length c, .string ⟨#[101, 69]⟩] w fun e w' => e = .returned (.int .i64 (anyIdx l)) ∧ Below w.heap.size w w' := by
  have hn1 : ((l.length : Int) == 1) = false := beq_eq_false_iff_ne.2 (by omega)
  have h8z : decide ((8 : Int) < (l.length : Int)) = false := decide_eq_false (by omega)
  have HC := hide hc
  have HT := hide hT
  have hb0 : 0 < w.heap.size := World.block_lt_of_cell? _ _ hmx
  clear hc hT
  go_enter Tryd.func21, Tryd.ntmps21
  go_wp2_with fail
  refine (sua_no _ h8 _).mono ?_
  rintro e w' ⟨rfl, rfl⟩
  go_wp2_with fail
  go_loopg [11, 12] (l.length) (fun g wd i wr => ∃ k : Nat, g = l.length - k ∧ k ≤ l.length ∧ Hid (∀ i, (h : i < l.length) → i < k → anyB l[i] = false) ∧ Below w.heap.size w wr ∧ i = .int .i64 (k : Nat))
  case atStart => exact ⟨0, rfl, Nat.zero_le _, fun i _ h => by omega, Below.refl _ _, rfl⟩
  case round =>
    obtain ⟨k, rfl, hk, HZ, hB, rfl⟩ := hrel
    by_cases hlt : k < l.length
    · obtain ⟨x, hx⟩ : ∃ x : UInt8, x = l[k] := ⟨_, rfl⟩
      obtain ⟨n, hcx, hn256, HX⟩ : ∃ n : Nat, wr.cell? ⟨b, off + k, none⟩ = some (.int .u8 (n : Int)) ∧ n < 256 ∧ Hid (n = x.toNat) :=
        ⟨_, by rw [hx]; exact (unhide HC).later (unhide HC).lt hB k hlt, x.toNat_lt, rfl⟩
      have Hx := hide hx
      clear hx
      by_cases h128 : 128 ≤ n
      · have hcd : CellsL wr b (off + k) (l.drop k) := ((unhide HC).later (unhide HC).lt hB).drop k
        have hld : (l.drop k).length = l.length - k := List.length_drop
        have hTr : Lib.Utf8Tabs 1 2 wr := tabs_later (unhide HT) hB
        have hmr := (hB.cell (p := ⟨0, 0, none⟩) hb0).trans hmx
        have hD := dec_any b (off + k) (c - k) (l.length - k) (l.drop k) wr hld hTr hcd (by omega) (by rw [List.getElem_drop]; simp only [Nat.add_zero]; rw [← (unhide Hx), ← HX.out]; exact h128)
        have HD := hide hD
        clear hD hcd hTr hld
        go_wp2_with fail
        refine (unhide HD).mono ?_
        rintro e w1 ⟨R, K, rfl, hb1, k1, k4, kn, r1, r2, HJ, hR⟩
        have hB1 : Below w.heap.size w w1 := hB.trans (hb1.mono hB.size)
        have HN : Hid (∀ i, (h : i < l.length) → i < k + K → anyB l[i] = false) := fun i hi hik => by
          by_cases e : i < k
          · exact HZ.out i hi e
          · have h3 := HJ.out (i - k) (by rw [List.length_drop]; omega) (by omega)
            rw [List.getElem_drop] at h3
            have e4 : k + (i - k) = i := by omega
            simp only [e4] at h3
            exact anyB_high _ h3
        have n0 : ∀ ty, (Instr.next (.pointer (some ⟨w1.heap.size, 0, none⟩)) true ty).run Tryd.prog (w1.iter ⟨#[101, 69]⟩ 0) = .ok (.tuple #[.bool true, .int .i64 0, .int .i32 101]) (w1.iter ⟨#[101, 69]⟩ 1) := fun ty => run_next_ascii (P := Tryd.prog) w1 ⟨#[101, 69]⟩ 0 ty (by decide) (by decide)
        have n1 : ∀ ty, (Instr.next (.pointer (some ⟨w1.heap.size, 0, none⟩)) true ty).run Tryd.prog (w1.iter ⟨#[101, 69]⟩ 1) = .ok (.tuple #[.bool true, .int .i64 1, .int .i32 69]) (w1.iter ⟨#[101, 69]⟩ 2) := fun ty => run_next_ascii (P := Tryd.prog) w1 ⟨#[101, 69]⟩ 1 ty (by decide) (by decide)
        have n2 := fun ty => run_next_end (P := Tryd.prog) w1 ⟨#[101, 69]⟩ 2 ty (by decide)
        have q1 : ((R : Int) == 101) = false := beq_eq_false_iff_ne.2 (by omega)
        have q2 : ((R : Int) == 69) = false := beq_eq_false_iff_ne.2 (by omega)
        have hm1 := (hb1.cell (p := ⟨0, 0, none⟩) (World.block_lt_of_cell? _ _ hmr)).trans hmr
        clear HD hmr hcx
        by_cases hRe : R = 65533
        · have HR := hide hRe
          have eR : ((R : Int) != 65533) = false := by rw [hRe]; decide
          clear hRe hR
          go_wp2_with fail
          refine wp_loop_rounds 3 ?_
          rw [rounds_succ]
          go_wp2_with fail
          rw [rounds_succ]
          go_wp2_with fail
          rw [rounds_succ]
          go_wp2_with fail
          go_roundg (l.length - (k + K))
          case measure => omega
          case rel => exact ⟨k + K, rfl, by omega, HN, hB1.alloc (by have := hB1.size; omega) _, by go_num⟩
        · have eR : ((R : Int) != 65533) = true := by rw [bne_iff_ne]; omega
          obtain ⟨hK2, hes, x0, r0, hel, hx0⟩ := hR hRe
          obtain ⟨sR, hsR⟩ : ∃ sR, sR = Utf8.encode (R : Int) := ⟨_, rfl⟩
          rw [← hsR] at hes hel
          have hsR' : Utf8.encode (R : Int) = sR := hsR.symm
          clear hsR hR
          have hcmp : ([101, 69] == sR.toList) = false := by
            rw [Lib.toList_data, hel]
            have : ((101 : UInt8) == x0) = false := beq_eq_false_iff_ne.2 (fun e => by subst e; revert hx0; decide)
            simp [this]
          clear hel
          by_cases hKe : K = 2
          · subst hKe
            go_wp2_with fail
            go_roundg (l.length - (k + 2))
            case measure => omega
            case rel => exact ⟨k + 2, rfl, by omega, HN, hB1, by go_num⟩
          · have e2K : ((2 : Int) == (K : Int)) = false := beq_eq_false_iff_ne.2 (by omega)
            by_cases hmK : (K : Int) ≤ mx
            · have hix : Lib.index [101, 69] sR.data.toList = -1 := ix_no _ (by rw [Array.length_toList]; show 3 ≤ sR.size; omega)
              go_wp2_with fail
              rw [run_callFunc_extern Tryd.func35 (by kernel_rfl) (by kernel_rfl) (by kernel_rfl) (e := Extern.BytealgIndex.index) (by kernel_rfl), Lib.run_indexString ⟨#[101, 69]⟩ sR w1 0 mx (by kernel_rfl) hm1 (by omega) (by omega) (by decide)]
              simp only [Result.andThen, hix]
              rw [Oper.upon_value]
              go_wp2_with fail
              go_roundg (l.length - (k + K))
              case measure => omega
              case rel => exact ⟨k + K, rfl, by omega, HN, hB1, by go_num⟩
            · go_wp2_with fail
              refine wp_loop_rounds 3 ?_
              rw [rounds_succ]
              go_wp2_with fail
              rw [rounds_succ]
              go_wp2_with fail
              rw [rounds_succ]
              go_wp2_with fail
              go_roundg (l.length - (k + K))
              case measure => omega
              case rel => exact ⟨k + K, rfl, by omega, HN, hB1.alloc (by have := hB1.size; omega) _, by go_num⟩
      · have hx : n.toUInt8 = x := by rw [HX.out]; simp
        cases hin : anyB x with
        | false =>
          have HN : Hid (∀ i, (h : i < l.length) → i < k + 1 → anyB l[i] = false) := fun i hi hik => by
            by_cases e : i = k
            · subst e; rw [← (unhide Hx)]; exact hin
            · exact HZ.out i hi (by omega)
          have hib : Lib.indexByte [101, 69] x = -1 := ib_no x hin
          clear hin
          go_wp2_with fail
          rw [run_callFunc_extern Tryd.func29 (by kernel_rfl) (by kernel_rfl) (by kernel_rfl) (e := Extern.BytealgIndexByte.indexByte) (by kernel_rfl), Lib.run_indexByteString]
          simp only [Result.andThen, Int.toNat_natCast, hx, hib]
          rw [Oper.upon_value]
          go_wp2_with fail
          go_roundg (l.length - (k + 1))
          case measure => omega
          case rel => exact ⟨k + 1, rfl, by omega, HN, hB, by go_num⟩
        | true =>
          have HN : Hid (anyIdx l = (k : Int)) := anyIdx_hit l k hlt HZ.out (by rw [← (unhide Hx)]; exact hin)
          have hib := ib_yes x hin
          obtain ⟨r, hr⟩ : ∃ r, r = Lib.indexByte [101, 69] x := ⟨_, rfl⟩
          rw [← hr] at hib
          clear hin
          go_wp2_with fail
          rw [run_callFunc_extern Tryd.func29 (by kernel_rfl) (by kernel_rfl) (by kernel_rfl) (e := Extern.BytealgIndexByte.indexByte) (by kernel_rfl), Lib.run_indexByteString]
          simp only [Result.andThen, Int.toNat_natCast, hx]
          rw [← hr, Oper.upon_value]
          clear hr
          go_wp2_with fail
          go_ret
          exact ⟨by rw [HN.out]; rfl, hB⟩
    · have HN : Hid (anyIdx l = -1) := anyIdx_none l (fun i hi => HZ.out i hi (by omega))
      go_wp2_with fail
      go_ret
      exact ⟨by rw [HN.out]; rfl, hB⟩
/-- bytes.IndexAny at the two bytes, wherever the text lies. -/
theorem any_any (p : Option Addr) (c : Nat) (l : List UInt8) (w : World) (hl : l.length ≤ 4611686018427387904) (hcap : l.length ≤ c) (hc : At w p l) (hT : Lib.Utf8Tabs 1 2 w) (mx : Int) (hmx : w.cell? ⟨0, 0, none⟩ = some (.int .i64 mx)) :
    Calls Tryd.prog 21 #[.slice p l.length c, .string ⟨#[101, 69]⟩] w fun e w' => e = .returned (.int .i64 (anyIdx l)) ∧ Below w.heap.size w w' := by
  by_cases h0 : l.length = 0
  · obtain rfl : l = [] := List.eq_nil_of_length_eq_zero h0
    exact (any_empty p c w).mono fun e w' ⟨he, hw⟩ => ⟨he, hw ▸ Below.refl _ _⟩
  · obtain ⟨b, off, rfl, hcl⟩ := hc (by omega)
    by_cases h1 : l.length = 1
    · obtain ⟨x, rfl⟩ : ∃ x, l = [x] := List.length_eq_one_iff.1 h1
      exact any_one b off c x w (hcl 0 (by simp))
    · by_cases h8 : l.length ≤ 8
      · exact any_short b off c l w h1 h8 hcap hcl hT mx hmx
      · exact any_long b off c l w (by omega) hl hcl
end Go.Proofs.Qxb6606399aDoor
