import Derived.Test.Qxb6606399aDoorAny
import Derived.Lib.IndexEntry
namespace Go.Proofs.Qxb6606399aDoor
open Go.RowKit

/-! ### What the decoder hands back at a byte of 128 or more -/
set_option maxRecDepth 100000 in
theorem dec_facts (s : ByteArray) (h : 0 < s.size) (hb : 128 ≤ (s.get! 0).toNat) :
    1 ≤ (Utf8.decode s 0).2 ∧ (Utf8.decode s 0).2 ≤ 4 ∧ (Utf8.decode s 0).2 ≤ s.size ∧ 128 ≤ (Utf8.decode s 0).1 ∧ (Utf8.decode s 0).1 ≤ 1114111 ∧ (∀ j, j < (Utf8.decode s 0).2 → 128 ≤ (s.get! j).toNat) ∧
    ((Utf8.decode s 0).1 ≠ 65533 → 2 ≤ (Utf8.decode s 0).2 ∧ (Utf8.encode (Utf8.decode s 0).1).size = (Utf8.decode s 0).2 ∧ ∃ x r, (Utf8.encode (Utf8.decode s 0).1).data.toList = x :: r ∧ 128 ≤ x.toNat) := by
  have b0 := (s.get! 0).toNat_lt
  have b1 := (s.get! 1).toNat_lt
  have b2 := (s.get! 2).toNat_lt
  have b3 := (s.get! 3).toNat_lt
  obtain ⟨x0, hx0⟩ : ∃ x, x = (s.get! 0).toNat := ⟨_, rfl⟩
  obtain ⟨x1, hx1⟩ : ∃ x, x = (s.get! 1).toNat := ⟨_, rfl⟩
  obtain ⟨x2, hx2⟩ : ∃ x, x = (s.get! 2).toNat := ⟨_, rfl⟩
  obtain ⟨x3, hx3⟩ : ∃ x, x = (s.get! 3).toNat := ⟨_, rfl⟩
  have one : ∀ j, j < 1 → 128 ≤ (s.get! j).toNat := fun j hj => by
    have : j = 0 := by omega
    subst this; exact hb
  have bad : ∀ p : Nat × Nat, p = (65533, 1) → 1 ≤ p.2 ∧ p.2 ≤ 4 ∧ p.2 ≤ s.size ∧ 128 ≤ p.1 ∧ p.1 ≤ 1114111 ∧ (∀ j, j < p.2 → 128 ≤ (s.get! j).toNat) ∧
      (p.1 ≠ 65533 → 2 ≤ p.2 ∧ (Utf8.encode p.1).size = p.2 ∧ ∃ x r, (Utf8.encode p.1).data.toList = x :: r ∧ 128 ≤ x.toNat) := fun p hp => by
    subst hp
    exact ⟨by simp, by simp, by simp; omega, by simp, by simp, one, fun hh => absurd rfl hh⟩
  rw [← hx0] at hb b0
  have ed : Utf8.decode s 0 = (if x0 < 0x80 then (x0, 1)
    else if (x0 / 32 == 6 && (decide (0 + 1 < s.size) && x1 / 64 == 2)) = true then
      (if (x0 % 32) * 64 + x1 % 64 ≥ 0x80 then ((x0 % 32) * 64 + x1 % 64, 2) else (65533, 1))
    else if (x0 / 16 == 14 && (decide (0 + 1 < s.size) && x1 / 64 == 2) && (decide (0 + 2 < s.size) && x2 / 64 == 2)) = true then
      (if (decide ((x0 % 16) * 4096 + (x1 % 64) * 64 + x2 % 64 ≥ 0x800) && Utf8.valid (((x0 % 16) * 4096 + (x1 % 64) * 64 + x2 % 64 : Nat) : Int)) = true then ((x0 % 16) * 4096 + (x1 % 64) * 64 + x2 % 64, 3) else (65533, 1))
    else if (x0 / 8 == 30 && (decide (0 + 1 < s.size) && x1 / 64 == 2) && (decide (0 + 2 < s.size) && x2 / 64 == 2) && (decide (0 + 3 < s.size) && x3 / 64 == 2)) = true then
      (if (decide ((x0 % 8) * 262144 + (x1 % 64) * 4096 + (x2 % 64) * 64 + x3 % 64 ≥ 0x10000) && Utf8.valid (((x0 % 8) * 262144 + (x1 % 64) * 4096 + (x2 % 64) * 64 + x3 % 64 : Nat) : Int)) = true then ((x0 % 8) * 262144 + (x1 % 64) * 4096 + (x2 % 64) * 64 + x3 % 64, 4) else (65533, 1))
    else (65533, 1)) := by
    rw [hx0, hx1, hx2, hx3]; rfl
  rw [ed]
  clear ed
  rw [if_neg (by omega)]
  by_cases t2 : (x0 / 32 == 6 && (decide (0 + 1 < s.size) && x1 / 64 == 2)) = true
  · rw [if_pos t2]
    simp only [Bool.and_eq_true, beq_iff_eq, decide_eq_true_eq] at t2
    by_cases t3 : (x0 % 32) * 64 + x1 % 64 ≥ 0x80
    · rw [if_pos t3]
      obtain ⟨c, hc⟩ : ∃ c, c = (x0 % 32) * 64 + x1 % 64 := ⟨_, rfl⟩
      rw [← hc] at t3 ⊢
      have hc2 : c < 2048 := by omega
      refine ⟨by simp, by simp, by simp; omega, by simpa using t3, by simp; omega, fun j hj => ?_, fun _ => ⟨by simp, ?_⟩⟩
      · simp only at hj
        rcases (show j = 0 ∨ j = 1 by omega) with rfl | rfl
        · rw [← hx0]; exact hb
        · rw [← hx1]; omega
      · have hv : Utf8.valid (c : Int) = true := by
          unfold Utf8.valid; simp; omega
        unfold Utf8.encode
        simp only [hv, if_true, Int.toNat_natCast]
        rw [if_neg (by omega), if_pos (by omega)]
        refine ⟨rfl, _, _, rfl, ?_⟩
        rw [UInt8.toNat_ofNat']; omega
    · rw [if_neg t3]; exact bad _ rfl
  · rw [if_neg t2]
    by_cases t3 : (x0 / 16 == 14 && (decide (0 + 1 < s.size) && x1 / 64 == 2) && (decide (0 + 2 < s.size) && x2 / 64 == 2)) = true
    · rw [if_pos t3]
      simp only [Bool.and_eq_true, beq_iff_eq, decide_eq_true_eq] at t3
      by_cases t4 : (decide ((x0 % 16) * 4096 + (x1 % 64) * 64 + x2 % 64 ≥ 0x800) && Utf8.valid (((x0 % 16) * 4096 + (x1 % 64) * 64 + x2 % 64 : Nat) : Int)) = true
      · rw [if_pos t4]
        obtain ⟨c, hc⟩ : ∃ c, c = (x0 % 16) * 4096 + (x1 % 64) * 64 + x2 % 64 := ⟨_, rfl⟩
        rw [← hc] at t4 ⊢
        simp only [Bool.and_eq_true, decide_eq_true_eq] at t4
        have hc2 : c < 65536 := by omega
        refine ⟨by simp, by simp, by simp; omega, by simp; omega, by simp; omega, fun j hj => ?_, fun _ => ⟨by simp, ?_⟩⟩
        · simp only at hj
          rcases (show j = 0 ∨ j = 1 ∨ j = 2 by omega) with rfl | rfl | rfl
          · rw [← hx0]; exact hb
          · rw [← hx1]; omega
          · rw [← hx2]; omega
        · unfold Utf8.encode
          simp only [t4.2, if_true, Int.toNat_natCast]
          rw [if_neg (by omega), if_neg (by omega), if_pos (by omega)]
          refine ⟨rfl, _, _, rfl, ?_⟩
          rw [UInt8.toNat_ofNat']; omega
      · rw [if_neg t4]; exact bad _ rfl
    · rw [if_neg t3]
      by_cases t5 : (x0 / 8 == 30 && (decide (0 + 1 < s.size) && x1 / 64 == 2) && (decide (0 + 2 < s.size) && x2 / 64 == 2) && (decide (0 + 3 < s.size) && x3 / 64 == 2)) = true
      · rw [if_pos t5]
        simp only [Bool.and_eq_true, beq_iff_eq, decide_eq_true_eq] at t5
        by_cases t6 : (decide ((x0 % 8) * 262144 + (x1 % 64) * 4096 + (x2 % 64) * 64 + x3 % 64 ≥ 0x10000) && Utf8.valid (((x0 % 8) * 262144 + (x1 % 64) * 4096 + (x2 % 64) * 64 + x3 % 64 : Nat) : Int)) = true
        · rw [if_pos t6]
          obtain ⟨c, hc⟩ : ∃ c, c = (x0 % 8) * 262144 + (x1 % 64) * 4096 + (x2 % 64) * 64 + x3 % 64 := ⟨_, rfl⟩
          rw [← hc] at t6 ⊢
          simp only [Bool.and_eq_true, decide_eq_true_eq] at t6
          have hv : c ≤ 1114111 := by
            have := t6.2
            unfold Utf8.valid at this
            simp at this
            omega
          refine ⟨by simp, by simp, by simp; omega, by simp; omega, by simpa using hv, fun j hj => ?_, fun _ => ⟨by simp, ?_⟩⟩
          · simp only at hj
            rcases (show j = 0 ∨ j = 1 ∨ j = 2 ∨ j = 3 by omega) with rfl | rfl | rfl | rfl
            · rw [← hx0]; exact hb
            · rw [← hx1]; omega
            · rw [← hx2]; omega
            · rw [← hx3]; omega
          · unfold Utf8.encode
            simp only [t6.2, if_true, Int.toNat_natCast]
            rw [if_neg (by omega), if_neg (by omega), if_neg (by omega)]
            refine ⟨rfl, _, _, rfl, ?_⟩
            rw [UInt8.toNat_ofNat']; omega
        · rw [if_neg t6]; exact bad _ rfl
      · rw [if_neg t5]; exact bad _ rfl
end Go.Proofs.Qxb6606399aDoor
