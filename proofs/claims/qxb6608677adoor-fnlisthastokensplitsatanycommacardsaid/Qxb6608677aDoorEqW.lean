import Derived.Test.Qxb6608677aDoorFoldW
import Derived.Test.Qxb6608677aDoorEqP
import Derived.ScopeJumps
import Derived.WalkMore
import Derived.Lib.Walk
import Derived.Lib.Strings
import Derived.Laws.Strings3
import Derived.Laws.RangeAny
import Derived.Lib.OthersKept
import Derived.Lib.Fold
namespace Go.Proofs.Qxb6608677aDoor
open Go.RowKit Go.Lib

theorem FoldTabs.later {w w' : World} (h : FoldTabs w) (hb : Below w.heap.size w w') : FoldTabs w' := by
  have key : ∀ (p : Addr) (v : Value), w.cell? p = some v → w'.cell? p = some v := fun p v hp => (hb.cell (World.block_lt_of_cell? _ _ hp)).trans hp
  obtain ⟨R, o, cap, h1, h2⟩ := h.orb
  obtain ⟨R5, o5, cap5, h3, h4⟩ := h.rng
  exact ⟨fun i hi => key _ _ (h.asc i hi), ⟨R, o, cap, key _ _ h1, fun i hi => ⟨key _ _ (h2 i hi).1, key _ _ (h2 i hi).2⟩⟩,
    ⟨R5, o5, cap5, key _ _ h3, fun i hi => ⟨key _ _ (h4 i hi).1, key _ _ (h4 i hi).2.1, key _ _ (h4 i hi).2.2.1, key _ _ (h4 i hi).2.2.2.1, key _ _ (h4 i hi).2.2.2.2⟩⟩, Utf8Tabs_below h.utf hb⟩
theorem byteEq_iff {c d : Nat} : byteEq c d = true ↔ (c = d ∨ (65 ≤ c ∧ c ≤ 90 ∧ d = c + 32) ∨ (65 ≤ d ∧ d ≤ 90 ∧ c = d + 32)) := by
  unfold byteEq
  by_cases h : d = c
  · rw [if_pos h]; simp [h]
  · rw [if_neg h, decide_eq_true_iff]
    by_cases h2 : d < c
    · simp only [if_pos h2]; omega
    · simp only [if_neg h2]; omega
theorem byteEq_not {c d : Nat} (h : ¬ (c = d ∨ (65 ≤ c ∧ c ≤ 90 ∧ d = c + 32) ∨ (65 ≤ d ∧ d ≤ 90 ∧ c = d + 32))) : byteEq c d = false := by
  rw [Bool.eq_false_iff]
  exact fun e => h (byteEq_iff.1 e)
theorem runesEq_of (a b lo hi : Int) (hne : b ≠ a) (hlo : lo = if b < a then b else a) (hhi : hi = if b < a then a else b) :
    runesEq a b = if hi < 128 then decide (65 ≤ lo ∧ lo ≤ 90 ∧ hi = lo + 32) else decide (chase lo hi 4 (sfW lo) = hi) := by
  subst hlo hhi
  unfold runesEq
  rw [if_neg hne]
theorem decodeGo_L (T : ByteArray) (h : T.size ≠ 0) : decodeGo T = decodeL T.data.toList := by
  unfold decodeGo
  rw [if_neg h]
  have := decodeL_drop T 0
  rw [List.drop_zero] at this
  exact this.symm
/-- Where EqualFold jumps to its general loop. -/
def JumpAt (s t : ByteArray) (w : World) (a' : Act) (w' : World) : Prop :=
  ∃ (i : Nat) (x4 x6 x7 x8 x14 x15 x16 x17 x18 x19 x20 x21 x22 x23 x24 x25 x26 x27 x28 x29 x30 x31 x32 x33 x34 x35 x36 x37 x38 x39 x40 x41 x42 x43 x44 x45 x46 x47 x48 x49 x50 x51 x52 x53 x54 x55 x56 x57 x58 x59 : Value), a' = { tmps := #[.string s, .string t, undef, undef, x4, .int .i64 (i : Nat), x6, x7, x8, undef, undef, undef, undef, undef, x14, x15, x16, x17, x18, x19, x20, x21, x22, x23, x24, x25, x26, x27, x28, x29, x30, x31, x32, x33, x34, x35, x36, x37, x38, x39, x40, x41, x42, x43, x44, x45, x46, x47, x48, x49, x50, x51, x52, x53, x54, x55, x56, x57, x58, x59, undef, undef, undef, undef, undef, undef, undef, undef, undef, undef, undef, undef, undef, undef, undef, undef, undef, undef, undef, undef, undef, undef, undef, undef, undef, undef, undef, undef, undef, undef, undef, undef, undef, undef, undef, undef, undef, undef, undef, undef, undef, undef, undef, undef, undef, undef, undef, undef, undef, undef, undef, undef, undef, undef, undef, undef, undef, undef, undef, undef, undef, undef, undef], defers := [] } ∧ i < s.size ∧ i < t.size ∧ efA s.data.toList t.data.toList = efU (s.size + 1 - i) (s.data.toList.drop i) (t.data.toList.drop i) ∧ w = w'

set_option maxHeartbeats 8000000 in
set_option maxRecDepth 1000000 in
theorem ef_call (s t : ByteArray) (hs : s.size ≤ 1048576) (ht : t.size ≤ 1048576) (w : World)
    (hT : FoldTabs w) :
    Calls Tryd.prog 37 #[.string s, .string t] w fun e w' => e = .returned (.bool (efA s.data.toList t.data.toList)) ∧ Below w.heap.size w w' := by
  have HTAB := hide hT
  clear hT
  obtain ⟨M, hM⟩ : ∃ M : Nat, min (s.size : Int) (t.size : Int) = (M : Int) := ⟨min s.size t.size, by omega⟩
  have hMs : M ≤ s.size := by omega
  have hMt : M ≤ t.size := by omega
  have hMe : M = s.size ∨ M = t.size := by omega
  go_enter Tryd.func37, Tryd.ntmps37
  go_wp2
  refine wp_scope_jumps 0 (JumpAt s t w) (fun _ _ => 0) rfl ?_ ?_
  · go_wp2
    go_loopg [5, 7, 8] M (fun g s5 _s7 _s8 wx => w = wx ∧ ∃ i : Nat, i + g = M ∧ s5 = .int .i64 i ∧ Hid (efA (s.data.toList.drop i) (t.data.toList.drop i) = efA s.data.toList t.data.toList))
    case atStart => exact ⟨rfl, 0, by omega, rfl, rfl⟩
    case round =>
      obtain ⟨rfl, i, hig, rfl, HI⟩ := hrel
      clear hM
      cases gk with
      | zero =>
        have hiM : ¬ ((i : Int) < (M : Int)) := by omega
        obtain rfl : i = M := by omega
        have HE : Hid (efA s.data.toList t.data.toList = decide (s.size = t.size)) := by
          rw [Hid, ← HI.out, efA_end _ _ (by
            rcases hMe with h | h
            · exact Or.inl (List.drop_eq_nil_of_le (by rw [← Lib.size_eq]; omega))
            · exact Or.inr (List.drop_eq_nil_of_le (by rw [← Lib.size_eq]; omega))), List.length_drop, List.length_drop, ← Lib.size_eq, ← Lib.size_eq]
          exact decide_eq_decide.2 (by omega)
        by_cases hst : s.size = t.size
        · have hb : ((s.size : Int) == (t.size : Int)) = true := beq_iff_eq.2 (by omega)
          rw [decide_eq_true hst] at HE
          clear hst
          go_wp2
          simp only [Exit.jump]
          go_ret
          exact ⟨by rw [HE.out]; rfl, Below.refl _ _⟩
        · have hb : ((s.size : Int) == (t.size : Int)) = false := beq_eq_false_iff_ne.2 (by omega)
          rw [decide_eq_false hst] at HE
          clear hst
          go_wp2
          simp only [Exit.jump]
          go_ret
          exact ⟨by rw [HE.out]; rfl, Below.refl _ _⟩
      | succ g =>
        have hiM : (i : Int) < (M : Int) := by omega
        have hisz : (i : Int) < (s.size : Int) := by omega
        have hitz : (i : Int) < (t.size : Int) := by omega
        obtain ⟨x, hx⟩ : ∃ x : UInt8, s[i]'(by omega) = x := ⟨_, rfl⟩
        obtain ⟨y, hy⟩ : ∃ y : UInt8, t[i]'(by omega) = y := ⟨_, rfl⟩
        have hxl : s.data.toList[i]? = some x := by rw [← hx]; exact Lib.data_getElem? s i (by omega)
        have hyl : t.data.toList[i]? = some y := by rw [← hy]; exact Lib.data_getElem? t i (by omega)
        have HDx := hide (Lib.drop_at hxl)
        have HDy := hide (Lib.drop_at hyl)
        have hx256 : x.toNat < 256 := x.toNat_lt
        have hy256 : y.toNat < 256 := y.toNat_lt
        have hor : bits .or .u8 (x.toNat : Int) (y.toNat : Int) = ((x.toNat ||| y.toNat : Nat) : Int) := u8_or_nat _ _ (by omega) (by omega)
        clear hxl hyl
        by_cases hu : 128 ≤ x.toNat ∨ 128 ≤ y.toNat
        · have hor128 : (128 : Int) ≤ ((x.toNat ||| y.toNat : Nat) : Int) := by
            have h1 := Nat.left_le_or (n := x.toNat) (m := y.toNat)
            have h2 := Nat.right_le_or (n := x.toNat) (m := y.toNat)
            omega
          have HJ : Hid (efA s.data.toList t.data.toList = efU (s.size + 1 - i) (s.data.toList.drop i) (t.data.toList.drop i)) := by
            rw [Hid, ← HI.out, HDx.out, HDy.out, efA_u _ _ _ _ hu, List.length_drop, ← Lib.size_eq]
            congr 1
            omega
          clear hu HI
          go_wp2
          go_step3
          exact ⟨rfl, i, _, _, _, _, _, _, _, _, _, _, _, _, _, _, _, _, _, _, _, _, _, _, _, _, _, _, _, _, _, _, _, _, _, _, _, _, _, _, _, _, _, _, _, _, _, _, _, _, _, _, rfl, by omega, by omega, HJ, rfl⟩
        · have hor128 : ¬ ((128 : Int) ≤ ((x.toNat ||| y.toNat : Nat) : Int)) := by have := Nat.or_lt_two_pow (n := 7) (x := x.toNat) (y := y.toNat) (by omega) (by omega); omega
          have HU := hide hu
          clear hu
          go_wp2
          all_goals (try simp only [beq_iff_eq, beq_eq_false_iff_ne, ne_eq] at *)
          all_goals first
            | (go_roundg g
               case measure => omega
               case rel => exact ⟨rfl, i + 1, by omega, by first | rfl | simp, by rw [Hid, ← HI.out, HDx.out, HDy.out, efA_yes _ _ _ _ (unhide HU) (byteEq_iff.2 (by omega))]⟩)
            | (simp only [Exit.jump]
               go_ret
               refine ⟨?_, Below.refl _ _⟩
               rw [← HI.out, HDx.out, HDy.out, efA_no _ _ _ _ (unhide HU) (byteEq_not (by omega))]
               rfl)
  · rintro a' w' ⟨i, x4, x6, x7, x8, x14, x15, x16, x17, x18, x19, x20, x21, x22, x23, x24, x25, x26, x27, x28, x29, x30, x31, x32, x33, x34, x35, x36, x37, x38, x39, x40, x41, x42, x43, x44, x45, x46, x47, x48, x49, x50, x51, x52, x53, x54, x55, x56, x57, x58, x59, rfl, hi, hit, HJ, rfl⟩
    have HJ := hide HJ
    have HSl : Hid ((s.extract i s.size).data.toList = s.data.toList.drop i) := by rw [Hid, Lib.extract_data, List.take_of_length_le (by rw [List.length_drop, ← Lib.size_eq]; omega)]
    have HTl : Hid ((t.extract i t.size).data.toList = t.data.toList.drop i) := by rw [Hid, Lib.extract_data, List.take_of_length_le (by rw [List.length_drop, ← Lib.size_eq]; omega)]
    have his : (i : Int) ≤ (s.size : Int) := by omega
    have hits : (i : Int) ≤ (t.size : Int) := by omega
    go_upto_block 2 with fail
    obtain ⟨S, hS⟩ : ∃ S, Hid (S = s.extract i s.size) := ⟨_, rfl⟩
    obtain ⟨T0, hT0⟩ : ∃ T0, Hid (T0 = t.extract i t.size) := ⟨_, rfl⟩
    rw [← hS.out] at HSl ⊢
    rw [← hT0.out] at HTl ⊢
    obtain ⟨RES, hRES⟩ : ∃ RES, Hid (RES = efA s.data.toList t.data.toList) := ⟨_, rfl⟩
    have HR0 : Hid (RES = efU (s.size + 1 - i) (S.data.toList.drop 0) T0.data.toList) := by rw [Hid, hRES.out, unhide HJ, HSl.out, HTl.out, List.drop_zero]
    have HF0 : Hid (S.data.toList.length < s.size + 1 - i) := by rw [Hid, HSl.out, List.length_drop, ← Lib.size_eq]; omega
    obtain ⟨f0, hf0⟩ : ∃ f0, Hid (f0 = s.size + 1 - i) := ⟨_, rfl⟩
    rw [← hf0.out] at HR0 HF0
    have hSs : S.size ≤ 1048576 := by have h3 := congrArg List.length HSl.out; rw [List.length_drop, ← Lib.size_eq, ← Lib.size_eq] at h3; omega
    have hTs : T0.size ≤ 1048576 := by have h3 := congrArg List.length HTl.out; rw [List.length_drop, ← Lib.size_eq, ← Lib.size_eq] at h3; omega
    obtain ⟨k, hk⟩ : ∃ k, Hid (k = w.heap.size) := ⟨_, rfl⟩
    obtain ⟨w0, hw0⟩ : ∃ w0, Hid (w0 = w.iter S 0) := ⟨_, rfl⟩
    have HI0 : Hid (w0.heap[k]? = some (.stringIter S 0)) := by rw [Hid, hw0.out, hk.out]; exact World.iter_heap _ _ _
    have hb0 : Below w.heap.size w w0 := by rw [hw0.out]; exact (Below.refl _ _).alloc (Nat.le_refl _) _
    rw [← hw0.out]
    rw [show (w.heap.size) = k from hk.out.symm]
    clear HJ HSl HTl hi hit his hits hS hT0 hw0
    have hkw : w.heap.size ≤ k := by rw [hk.out]; exact Nat.le_refl _
    go_wp2_with fail
    go_loopg [1, 10, 11, 12, 13] f0 (fun g s1 _s10 _s11 _s12 _s13 wx => ∃ (pos : Nat) (T : ByteArray), s1 = .string T ∧ Hid (wx.heap[k]? = some (.stringIter S pos)) ∧ Hid (RES = efU g (S.data.toList.drop pos) T.data.toList) ∧ Hid ((S.data.toList.drop pos).length < g) ∧ T.size ≤ 1048576 ∧ Below w.heap.size w wx)
    case atStart => exact ⟨0, T0, rfl, HI0, HR0, (by rw [List.drop_zero]; exact HF0), hTs, hb0⟩
    case round =>
      obtain ⟨pos, T, rfl, HI, HR, HF, hTs, hbr⟩ := hrel
      clear HI0 HR0 HF0 hb0 hf0
      obtain ⟨g', rfl⟩ : ∃ g', gk = g' + 1 := ⟨gk - 1, by have := unhide HF; omega⟩
      by_cases hp : pos < S.size
      · obtain ⟨A, hA⟩ : ∃ A, Hid (A = (Utf8.decode S pos).1) := ⟨_, rfl⟩
        obtain ⟨n1, hn1⟩ : ∃ n1, Hid (n1 = (Utf8.decode S pos).2) := ⟨_, rfl⟩
        obtain ⟨W2, hW2⟩ : ∃ W2, Hid (W2 = wr.iterAt k S (pos + n1)) := ⟨_, rfl⟩
        have hnx : ∀ ty, (Instr.next (.pointer (some ⟨k, 0, none⟩)) true ty).run Tryd.prog wr = .ok (.tuple #[.bool true, .int .i64 (pos : Int), .int .i32 (A : Int)]) W2 := fun ty => by
          rw [hW2.out, hA.out, hn1.out]
          exact run_next_any_at wr k S pos ty (unhide HI) hp
        have hb2 : Below w.heap.size w W2 := by rw [hW2.out]; exact below_iterAt hbr hkw S _
        have HI2 : Hid (W2.heap[k]? = some (.stringIter S (pos + n1))) := by rw [Hid, hW2.out]; exact iterAt_heap wr k S pos _ (unhide HI)
        have HDL : Hid (decodeL (S.data.toList.drop pos) = (A, n1)) := by rw [Hid, decodeL_drop, hA.out, hn1.out]
        have HLne : Hid (S.data.toList.drop pos ≠ []) := by
          rw [Hid]
          intro e
          have := congrArg List.length e
          rw [List.length_drop, ← Lib.size_eq, List.length_nil] at this
          omega
        have hA1 : A ≤ 1114111 := by have h3 := decodeL_rune (S.data.toList.drop pos); rw [HDL.out] at h3; exact h3
        have hn11 : 1 ≤ n1 := by have h3 := decodeL_width (S.data.toList.drop pos); rw [HDL.out] at h3; exact h3
        have HT2 := hide ((unhide HTAB).later hb2)
        clear hW2 HI hbr hA hn1
        by_cases hT0 : T.size = 0
        · have HE : Hid (RES = false) := by
            rw [Hid, unhide HR, efU, if_neg (unhide HLne), if_pos (List.eq_nil_of_length_eq_zero (by rw [← Lib.size_eq]; exact hT0))]
          go_wp2_with fail
          simp only [Exit.jump]
          go_ret
          exact ⟨by rw [← hRES.out, unhide HE]; rfl, hb2⟩
        · have hTz : ((T.size : Int) == 0) = false := beq_eq_false_iff_ne.2 (by omega)
          obtain ⟨Bv, hB⟩ : ∃ Bv, Hid (Bv = (decodeGo T).1) := ⟨_, rfl⟩
          obtain ⟨n2, hn2⟩ : ∃ n2, Hid (n2 = (decodeGo T).2) := ⟨_, rfl⟩
          have HDEC := hide (Tryd.utf8_DecodeRuneInString T W2 (unhide HT2).utf)
          rw [← hB.out, ← hn2.out] at HDEC
          have HDT : Hid (decodeL T.data.toList = (Bv, n2)) := by rw [Hid, ← decodeGo_L T hT0, hB.out, hn2.out]
          have HTne : Hid (T.data.toList ≠ []) := by
            rw [Hid]
            intro e
            have := congrArg List.length e
            rw [← Lib.size_eq, List.length_nil] at this
            omega
          have hB1 : Bv ≤ 1114111 := by have h3 := decodeL_rune T.data.toList; rw [HDT.out] at h3; exact h3
          have hn22 : n2 ≤ T.size := by have h3 := decodeL_le T.data.toList (unhide HTne); rw [HDT.out, ← Lib.size_eq] at h3; exact h3
          have hn2z : (n2 : Int) ≤ (T.size : Int) := by omega
          have HST := hide (efU_step g' (S.data.toList.drop pos) T.data.toList (unhide HLne) (unhide HTne) _ _ (unhide HDL) (unhide HDT))
          rw [← unhide HR] at HST
          rw [List.drop_drop] at HST
          obtain ⟨T', hT'⟩ : ∃ T', Hid (T' = T.extract n2 T.size) := ⟨_, rfl⟩
          have HTl' : Hid (T'.data.toList = T.data.toList.drop n2) := by rw [Hid, hT'.out, Lib.extract_data, List.take_of_length_le (by rw [List.length_drop, ← Lib.size_eq]; omega)]
          have hTs' : T'.size ≤ 1048576 := by have h3 := congrArg List.length HTl'.out; rw [List.length_drop, ← Lib.size_eq, ← Lib.size_eq] at h3; omega
          have HF' : Hid ((S.data.toList.drop (pos + n1)).length < g') := by
            have h3 := unhide HF
            rw [List.length_drop, ← Lib.size_eq] at h3
            rw [Hid, List.length_drop, ← Lib.size_eq]
            omega
          rw [← unhide HTl'] at HST
          clear HR HF HDL HDT HLne HTne hB hn2 hT0
          go_wp2_with fail
          refine (unhide HDEC).mono ?_
          rintro e w3 ⟨rfl, hb3⟩
          have hb03 : Below w.heap.size w w3 := hb2.trans (hb3.mono hb2.size)
          have HI3 : Hid (w3.heap[k]? = some (.stringIter S (pos + n1))) := by
            rw [Hid, hb3.block k (Array.getElem?_eq_some_iff.1 (unhide HI2)).1]
            exact unhide HI2
          have HT3 := hide ((unhide HTAB).later hb03)
          clear HDEC HI2 HT2 hb3 hb2
          go_upto_region 23 with fail
          rw [← hT'.out]
          by_cases hAB : Bv = A
          · have HE : Hid (RES = efU g' (S.data.toList.drop (pos + n1)) T'.data.toList) := by
              have h3 := unhide HST
              rw [show runesEq (A : Int) (Bv : Int) = true by unfold runesEq; rw [if_pos (by omega)], if_pos rfl] at h3
              exact h3
            have hbe : ((Bv : Int) == (A : Int)) = true := beq_iff_eq.2 (by omega)
            clear hAB HST
            go_wp2_with fail
            go_roundg g'
            case measure => omega
            case rel => exact ⟨pos + n1, T', rfl, HI3, HE, HF', hTs', hb03⟩
          · have hbe : ((Bv : Int) == (A : Int)) = false := beq_eq_false_iff_ne.2 (by omega)
            obtain ⟨lo, hlo⟩ : ∃ lo : Nat, Hid (lo = if Bv < A then Bv else A) := ⟨_, rfl⟩
            obtain ⟨hi, hhi⟩ : ∃ hi : Nat, Hid (hi = if Bv < A then A else Bv) := ⟨_, rfl⟩
            have hlh : lo < hi := by rw [hlo.out, hhi.out]; split <;> omega
            have hhi1 : hi ≤ 1114111 := by rw [hhi.out]; split <;> omega
            have HRE : Hid (runesEq (A : Int) (Bv : Int) = if (hi : Int) < 128 then decide (65 ≤ (lo : Int) ∧ (lo : Int) ≤ 90 ∧ (hi : Int) = (lo : Int) + 32) else decide (chase lo hi 4 (sfW lo) = hi)) := by
              refine runesEq_of (A : Int) (Bv : Int) lo hi (by omega) ?_ ?_
              · rw [hlo.out]; split <;> split <;> omega
              · rw [hhi.out]; split <;> split <;> omega
            rw [unhide HRE] at HST
            clear HRE
            go_upto_if 87 with fail
            go_cut [10, 11] (fun sv tv wx => sv = .int .i32 (lo : Nat) ∧ tv = .int .i32 (hi : Nat) ∧ w3 = wx)
            case first =>
              as_aux_lemma =>
                by_cases hlt : Bv < A
                · have hltz : (Bv : Int) < (A : Int) := by omega
                  have e1 : lo = Bv := by rw [hlo.out, if_pos hlt]
                  have e2 : hi = A := by rw [hhi.out, if_pos hlt]
                  subst e1 e2
                  go_wp2_with fail
                  go_meet
                  case rel => exact ⟨rfl, rfl, rfl⟩
                · have hltz : ¬ ((Bv : Int) < (A : Int)) := by omega
                  have e1 : lo = A := by rw [hlo.out, if_neg hlt]
                  have e2 : hi = Bv := by rw [hhi.out, if_neg hlt]
                  subst e1 e2
                  go_wp2_with fail
                  go_meet
                  case rel => exact ⟨rfl, rfl, rfl⟩
            case rest =>
            obtain ⟨rfl, rfl, rfl⟩ := hcut
            by_cases h128 : hi < 128
            · have h128z : (hi : Int) < 128 := by omega
              rw [if_pos h128z] at HST
              by_cases hyes : 65 ≤ lo ∧ lo ≤ 90 ∧ hi = lo + 32
              · have HE : Hid (RES = efU g' (S.data.toList.drop (pos + n1)) T'.data.toList) := by
                  have h3 := unhide HST
                  rw [decide_eq_true (by omega), if_pos rfl] at h3
                  exact h3
                have h65 : (65 : Int) ≤ (lo : Int) := by omega
                have h90 : (lo : Int) ≤ 90 := by omega
                have h32 : ((hi : Int) == (lo : Int) + 32) = true := beq_iff_eq.2 (by omega)
                clear hyes HST
                as_aux_lemma =>
                  go_wp2_with fail
                  go_roundg g'
                  case measure => omega
                  case rel => exact ⟨pos + n1, T', rfl, HI3, HE, HF', hTs', hb03⟩
              · have HE : Hid (RES = false) := by
                  have h3 := unhide HST
                  rw [decide_eq_false (by omega)] at h3
                  exact h3
                clear HST
                by_cases h65 : 65 ≤ lo
                · have h65z : (65 : Int) ≤ (lo : Int) := by omega
                  by_cases h90 : lo ≤ 90
                  · have h90z : (lo : Int) ≤ 90 := by omega
                    have h32 : ((hi : Int) == (lo : Int) + 32) = false := beq_eq_false_iff_ne.2 (by omega)
                    clear hyes
                    as_aux_lemma =>
                      go_wp2_with fail
                      simp only [Exit.jump]
                      go_ret
                      exact ⟨by rw [← hRES.out, unhide HE]; rfl, hb03⟩
                  · have h90z : ¬ ((lo : Int) ≤ 90) := by omega
                    clear hyes
                    as_aux_lemma =>
                      go_wp2_with fail
                      simp only [Exit.jump]
                      go_ret
                      exact ⟨by rw [← hRES.out, unhide HE]; rfl, hb03⟩
                · have h65z : ¬ ((65 : Int) ≤ (lo : Int)) := by omega
                  clear hyes
                  as_aux_lemma =>
                    go_wp2_with fail
                    simp only [Exit.jump]
                    go_ret
                    exact ⟨by rw [← hRES.out, unhide HE]; rfl, hb03⟩
            · have h128z : ¬ ((hi : Int) < 128) := by omega
              rw [if_neg h128z] at HST
              obtain ⟨CH, hCH⟩ : ∃ CH, Hid (CH = chase lo hi 4 (sfW lo)) := ⟨_, rfl⟩
              rw [← hCH.out] at HST
              obtain ⟨r0, hr0⟩ : ∃ r0, Hid (r0 = sfW lo) := ⟨_, rfl⟩
              have HC0 : Hid (chase lo hi 4 r0 = CH) := by rw [Hid, hr0.out, hCH.out]
              have HB0 : Hid (∃ j, j < 4 ∧ back j r0 = lo) := by
                rw [Hid, hr0.out]
                exact cyc_back lo (cyc_all lo (by omega) (by omega))
              have HFC := hide (fold_call (lo : Int) w3 (unhide HT3))
              rw [← hr0.out] at HFC
              go_wp2_with fail
              refine (unhide HFC).mono ?_
              rintro e w4 ⟨rfl, q4, rfl⟩
              clear HFC
              go_upto_block 4 with fail
              go_cut [13] (fun rv wx => rv = .int .i32 CH ∧ ∃ q, wx = w3.drewN q)
              case first =>
                as_aux_lemma =>
                  go_wp2_with fail
                  go_loopg [13] 4 (fun g rv wr => ∃ r, rv = .int .i32 r ∧ Hid (chase lo hi g r = CH) ∧ Hid (∃ j, j < g ∧ back j r = lo) ∧ ∃ q, wr = w3.drewN q)
                  case atStart => exact ⟨r0, rfl, HC0, HB0, q4, rfl⟩
                  case round =>
                    obtain ⟨r, rfl, HCr, HBr, q, rfl⟩ := hrel
                    obtain ⟨f, rfl⟩ : ∃ f, gk = f + 1 := ⟨gk - 1, by obtain ⟨j, hj, _⟩ := unhide HBr; omega⟩
                    by_cases h1 : r = (lo : Int)
                    · have hb1 : (r != (lo : Int)) = false := by rw [h1]; simp
                      have HX : Hid (CH = r) := by
                        have h3 := unhide HCr
                        rw [chase, if_neg (by simp [h1])] at h3
                        exact h3.symm
                      clear h1
                      go_wp2_with fail
                      go_meet
                      case rel => exact ⟨by rw [unhide HX], _, rfl⟩
                    · have hb1 : (r != (lo : Int)) = true := by rw [bne_iff_ne]; exact h1
                      by_cases h2 : r < (hi : Int)
                      · have HCn : Hid (chase lo hi f (sfW r) = CH) := by
                          have h3 := unhide HCr
                          rw [chase, if_pos ⟨h1, h2⟩] at h3
                          exact h3
                        have HBn : Hid (∃ j, j < f ∧ back j (sfW r) = lo) := by
                          obtain ⟨j, hj, hbk⟩ := unhide HBr
                          cases j with
                          | zero => exact absurd hbk h1
                          | succ j => exact ⟨j, by omega, hbk⟩
                        have HFC := hide (fold_call r (w3.drewN q) ((unhide HT3).later ((Below.refl _ _).trans ⟨rfl, rfl, rfl, Nat.le_refl _, fun _ _ => rfl⟩)))
                        clear h1
                        go_wp2_with fail
                        refine (unhide HFC).mono ?_
                        rintro e w5 ⟨rfl, q5, rfl⟩
                        clear HFC
                        go_wp2_with fail
                        go_roundg f
                        case measure => omega
                        case rel => exact ⟨sfW r, rfl, HCn, HBn, _, rfl⟩
                      · have HX : Hid (CH = r) := by
                          have h3 := unhide HCr
                          rw [chase, if_neg (fun h => h2 h.2)] at h3
                          exact h3.symm
                        clear h1
                        go_wp2_with fail
                        go_meet
                        case rel => exact ⟨by rw [unhide HX], _, rfl⟩
              case rest =>
              obtain ⟨rfl, q, rfl⟩ := hcut
              by_cases hch : CH = (hi : Int)
              · have HE : Hid (RES = efU g' (S.data.toList.drop (pos + n1)) T'.data.toList) := by
                  have h3 := unhide HST
                  rw [decide_eq_true hch, if_pos rfl] at h3
                  exact h3
                have hce : (CH == (hi : Int)) = true := beq_iff_eq.2 hch
                have HI4 : Hid ((w3.drewN q).heap[k]? = some (.stringIter S (pos + n1))) := unhide HI3
                have hb4 : Below w.heap.size w (w3.drewN q) := hb03.trans ⟨rfl, rfl, rfl, Nat.le_refl _, fun _ _ => rfl⟩
                clear hch HST
                as_aux_lemma =>
                  go_wp2_with fail
                  go_roundg g'
                  case measure => omega
                  case rel => exact ⟨pos + n1, T', rfl, HI4, HE, HF', hTs', hb4⟩
              · have HE : Hid (RES = false) := by
                  have h3 := unhide HST
                  rw [decide_eq_false hch] at h3
                  exact h3
                have hce : (CH == (hi : Int)) = false := beq_eq_false_iff_ne.2 hch
                have hb4 : Below w.heap.size w (w3.drewN q) := hb03.trans ⟨rfl, rfl, rfl, Nat.le_refl _, fun _ _ => rfl⟩
                clear hch HST
                as_aux_lemma =>
                  go_wp2_with fail
                  simp only [Exit.jump]
                  go_ret
                  exact ⟨by rw [← hRES.out, unhide HE]; rfl, hb4⟩
      · have hnx : ∀ ty, (Instr.next (.pointer (some ⟨k, 0, none⟩)) true ty).run Tryd.prog wr = .ok (.tuple #[.bool false]) wr := fun ty => run_next_end_at wr k S pos ty (unhide HI) hp
        have HE : Hid (RES = decide (T.size = 0)) := by
          rw [Hid, unhide HR, efU, if_pos (List.drop_eq_nil_of_le (by rw [← Lib.size_eq]; omega))]
          refine decide_eq_decide.2 ?_
          rw [← List.length_eq_zero_iff, ← Lib.size_eq]
        by_cases hT0 : T.size = 0
        · rw [decide_eq_true hT0] at HE
          have hTz : ((T.size : Int) == 0) = true := beq_iff_eq.2 (by omega)
          clear hT0
          go_wp2_with fail
          simp only [Exit.jump]
          go_ret
          exact ⟨by rw [← hRES.out, unhide HE]; rfl, hbr⟩
        · rw [decide_eq_false hT0] at HE
          have hTz : ((T.size : Int) == 0) = false := beq_eq_false_iff_ne.2 (by omega)
          go_wp2_with fail
          simp only [Exit.jump]
          go_ret
          exact ⟨by rw [← hRES.out, unhide HE]; rfl, hbr⟩
end Go.Proofs.Qxb6608677aDoor
