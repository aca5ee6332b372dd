import Derived.Test.Qxb6608677aDoorHas
namespace Go.Proofs.Qxb6608677aDoor
open Go.RowKit Go.Lib

theorem zhas_call (s t : ByteArray) (hs : s.size ≤ 1048576) (ht : t.size ≤ 1048576) (w : World) (hT : FoldTabs w) :
    Calls Tryd.prog 15 #[.string s, .string t] w fun e w' => e = .returned (.bool (hasTok s.data.toList t.data.toList)) ∧ Below w.heap.size w w' := by
  have H := hide (has_call s t hs ht w hT)
  clear hT
  go_enter Tryd.func15, Tryd.ntmps15
  go_wp2_with fail
  refine (unhide H).mono ?_
  rintro e w1 ⟨rfl, hb⟩
  go_wp2_with fail
  go_ret
  exact ⟨rfl, hb⟩

/-- zzPlainItem. -/
def plainB (l : List UInt8) : Bool := decide (44 ∉ l) && (decide (l.length = 0) || (!isSp (l.getD 0 0) && !isSp (l.getD (l.length - 1) 0)))
theorem getD_of {s : ByteArray} {i : Nat} {x : UInt8} (h : s.data.toList[i]? = some x) : s.data.toList.getD i 0 = x := by
  rw [List.getD_eq_getElem?_getD, h]; rfl
set_option maxHeartbeats 4000000 in
theorem plain_call (s : ByteArray) (hs : s.size ≤ 1048576) (w : World) : Calls Tryd.prog 16 #[.string s] w fun e w' => e = .returned (.bool (plainB s.data.toList)) ∧ w = w' := by
  obtain ⟨R, hR⟩ : ∃ R, Hid (R = plainB s.data.toList) := ⟨_, rfl⟩
  rw [← hR.out]
  go_enter Tryd.func16, Tryd.ntmps16
  go_wp2_with fail
  go_loopg [3] s.size (fun g s3 wx => ∃ k : Nat, k + g = s.size ∧ s3 = .int .i64 (k : Nat) ∧ Hid (44 ∉ s.data.toList.take k) ∧ w = wx)
  case atStart => exact ⟨0, by omega, rfl, by rw [Hid, List.take_zero]; simp, rfl⟩
  case round =>
    obtain ⟨k, hkg, rfl, HN, rfl⟩ := hrel
    by_cases hk : k < s.size
    · have hkz : (k : Int) < (s.size : Int) := by omega
      obtain ⟨g', rfl⟩ : ∃ g', gk = g' + 1 := ⟨gk - 1, by omega⟩
      obtain ⟨x, hx⟩ : ∃ x : UInt8, s[k]'(by omega) = x := ⟨_, rfl⟩
      have hxl : s.data.toList[k]? = some x := by rw [← hx]; exact Lib.data_getElem? s k (by omega)
      have HXL := hide hxl
      clear hxl
      obtain ⟨v, hv⟩ : ∃ v, Hid (v = x.toNat) := ⟨_, rfl⟩
      have hxv : x.toNat = v := hv.out.symm
      by_cases h44 : v = 44
      · have e : R = false := by
          rw [hR.out]
          unfold plainB
          rw [decide_eq_false (fun h => h (by
            have hx44 : x = 44 := UInt8.toNat_inj.1 (by rw [hxv, h44]; rfl)
            rw [← hx44]
            exact List.mem_of_getElem? (unhide HXL)))]
          rfl
        subst h44
        subst e
        go_wp2_with fail
        go_ret
        exact ⟨rfl, rfl⟩
      · have hne : ((v : Int) == 44) = false := beq_eq_false_iff_ne.2 (by omega)
        have HN' : Hid (44 ∉ s.data.toList.take (k + 1)) := by
          rw [Hid, List.take_add_one, unhide HXL]
          intro h
          rcases List.mem_append.1 h with h | h
          · exact (unhide HN) h
          · have : (44 : UInt8) = x := by simpa using h
            exact h44 (by rw [hv.out, ← this]; rfl)
        go_wp2_with fail
        go_roundg g'
        case measure => omega
        case rel => exact ⟨k + 1, by omega, by go_num, HN', rfl⟩
    · have hkz : ¬ ((k : Int) < (s.size : Int)) := by omega
      obtain rfl : k = s.size := by omega
      have HN0 : Hid (44 ∉ s.data.toList) := by
        have h3 := unhide HN
        rw [List.take_of_length_le (by rw [← Lib.size_eq]; omega)] at h3
        exact h3
      clear HN
      by_cases h0 : s.size = 0
      · have h0b : ((s.size : Int) == 0) = true := beq_iff_eq.2 (by omega)
        have e : R = true := by
          rw [hR.out]
          unfold plainB
          rw [decide_eq_true (unhide HN0), decide_eq_true (by rw [← Lib.size_eq]; exact h0)]
          rfl
        subst e
        clear h0
        go_wp2_with fail
        go_ret
        exact ⟨rfl, rfl⟩
      · have h0b : ((s.size : Int) == 0) = false := beq_eq_false_iff_ne.2 (by omega)
        have h0z : (0 : Int) < (s.size : Int) := by omega
        obtain ⟨x, hx⟩ : ∃ x : UInt8, s[0]'(by omega) = x := ⟨_, rfl⟩
        obtain ⟨n, hn⟩ : ∃ n, Hid (n = s.size - 1) := ⟨_, rfl⟩
        have hnl : n < s.size := by rw [hn.out]; omega
        have hnz : (s.size : Int) - 1 = (n : Int) := by rw [hn.out]; omega
        obtain ⟨y, hy⟩ : ∃ y : UInt8, s[n]'(by omega) = y := ⟨_, rfl⟩
        have HX0 := hide (getD_of (i := 0) (x := x) (s := s) (by rw [← hx]; exact Lib.data_getElem? s 0 (by omega)))
        have HY0 := hide (getD_of (i := n) (x := y) (s := s) (by rw [← hy]; exact Lib.data_getElem? s n (by omega)))
        have HR2 : Hid (R = (!isSp x && !isSp y)) := by
          rw [Hid, hR.out]
          unfold plainB
          rw [decide_eq_true (unhide HN0), decide_eq_false (by rw [← Lib.size_eq]; exact h0), ← Lib.size_eq, ← hn.out, unhide HX0, unhide HY0]
          rfl
        have HO1 := hide (ows_call x w)
        have HO2 := hide (ows_call y w)
        obtain ⟨B1, hB1⟩ : ∃ B1, Hid (B1 = isSp x) := ⟨_, rfl⟩
        obtain ⟨B2, hB2⟩ : ∃ B2, Hid (B2 = isSp y) := ⟨_, rfl⟩
        rw [← hB1.out] at HO1 HR2
        rw [← hB2.out] at HO2 HR2
        clear h0
        cases B1 with
        | true =>
          obtain rfl : R = false := unhide HR2
          go_wp2_with fail
          refine (unhide HO1).mono ?_
          rintro e w1 ⟨rfl, rfl⟩
          go_wp2_with fail
          go_ret
          exact ⟨rfl, rfl⟩
        | false =>
          go_wp2_with fail
          refine (unhide HO1).mono ?_
          rintro e w1 ⟨rfl, rfl⟩
          go_wp2_with fail
          refine (unhide HO2).mono ?_
          rintro e w1 ⟨rfl, rfl⟩
          cases B2 with
          | true =>
            obtain rfl : R = false := unhide HR2
            go_wp2_with fail
            go_ret
            exact ⟨rfl, rfl⟩
          | false =>
            obtain rfl : R = true := unhide HR2
            go_wp2_with fail
            go_ret
            exact ⟨rfl, rfl⟩
end Go.Proofs.Qxb6608677aDoor
