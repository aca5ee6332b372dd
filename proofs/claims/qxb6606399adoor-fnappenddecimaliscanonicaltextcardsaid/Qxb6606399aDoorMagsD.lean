import Derived.Test.Qxb6606399aDoorMagsC
namespace Go.Proofs.Qxb6606399aDoor
open Go.RowKit

def sgv (n : Bool) (v : Nat) : Int := if n then -(v : Int) else v
/-- What addSigned hands back: the sign and the magnitude of a sum. -/
def SumEnd (S : Int) (w : World) (e : Ending) (w' : World) : Prop :=
  ∃ p' c', e = .returned (.tuple #[.bool (decide (S < 0)), .slice p' (mag S.natAbs).length c']) ∧ Hid (At w' p' (mag S.natAbs)) ∧ (mag S.natAbs).length ≤ c' ∧ c' ≤ 16777216 ∧ Below w.heap.size w w'
theorem sumEnd_mk {S : Int} {w w' : World} (M : Nat) (hM : S.natAbs = M) (sg : Bool) (hs : sg = decide (S < 0)) (p' : Option Addr) (c' : Nat) (hA : At w' p' (mag M)) (h1 : (mag M).length ≤ c') (h2 : c' ≤ 16777216) (hb : Below w.heap.size w w') :
    SumEnd S w (.returned (.tuple #[.bool sg, .slice p' (mag M).length c'])) w' := by
  subst hM
  subst hs
  exact ⟨p', c', rfl, hA, h1, h2, hb⟩
theorem mag_len (N : Nat) : (mag N).length = 0 ↔ N = 0 := by rw [List.length_eq_zero_iff, mag_nil]

theorem sum_same (sg : Bool) (p q : Option Addr) (c d : Nat) (l m : List UInt8) (hl : l.length ≤ 4194304) (hm : m.length ≤ 4194304) (w : World) (h1 : At w p l) (h2 : At w q m) (hdl : AllDig l) (hdm : AllDig m) :
    Calls Tryd.prog 20 #[.bool sg, .slice p l.length c, .bool sg, .slice q m.length d] w (SumEnd (sgv sg (valN l) + sgv sg (valN m)) w) := by
  have HA := hide (add_call p q c d l m hl hm w h1 h2 hdl hdm)
  obtain ⟨N, hN⟩ : ∃ N, Hid (N = valN l + valN m) := ⟨_, rfl⟩
  rw [← hN.out] at HA
  clear h1 h2 hdl hdm hl hm
  cases sg with
  | false =>
    have hS : sgv false (valN l) + sgv false (valN m) = (N : Int) := by rw [hN.out]; simp [sgv]
    rw [hS]
    clear hS
    go_enter Tryd.func20, Tryd.ntmps20
    go_wp2_with fail
    refine (unhide HA).mono ?_
    rintro e w1 ⟨o', c', rfl, HC, hc, hc', hg, hb⟩
    go_wp2_with fail
    go_ret2
    exact sumEnd_mk N (by omega) _ (by simp) _ c' (fun _ => ⟨_, _, rfl, unhide HC⟩) hc hc' hb
  | true =>
    have hS : sgv true (valN l) + sgv true (valN m) = -(N : Int) := by rw [hN.out]; simp [sgv]; omega
    rw [hS]
    clear hS
    obtain ⟨n, hn⟩ : ∃ n, Hid (n = (mag N).length) := ⟨_, rfl⟩
    by_cases h0 : N = 0
    · have hn0 : n = 0 := by rw [hn.out]; exact (mag_len N).2 h0
      subst hn0
      go_enter Tryd.func20, Tryd.ntmps20
      go_wp2_with fail
      refine (unhide HA).mono ?_
      rintro e w1 ⟨o', c', rfl, HC, hc, hc', hg, hb⟩
      rw [← hn.out]
      go_wp2_with fail
      go_ret2
      have := sumEnd_mk (S := -(N : Int)) (w := w) N (by omega) false (by simp; omega) _ c' (fun _ => ⟨_, _, rfl, unhide HC⟩) hc hc' hb
      rw [← hn.out] at this
      exact this
    · have hn0 : 0 < n := by
        rcases Nat.eq_zero_or_pos n with h | h
        · exact absurd ((mag_len N).1 (by rw [← hn.out]; exact h)) h0
        · exact h
      have hn0z : (0 : Int) < (n : Int) := by omega
      go_enter Tryd.func20, Tryd.ntmps20
      go_wp2_with fail
      refine (unhide HA).mono ?_
      rintro e w1 ⟨o', c', rfl, HC, hc, hc', hg, hb⟩
      rw [← hn.out]
      go_wp2_with fail
      go_ret2
      have := sumEnd_mk (S := -(N : Int)) (w := w) N (by omega) true (by simp; omega) _ c' (fun _ => ⟨_, _, rfl, unhide HC⟩) hc hc' hb
      rw [← hn.out] at this
      exact this

set_option maxHeartbeats 1000000 in
theorem sum_diff (sg : Bool) (p q : Option Addr) (c d : Nat) (l m : List UInt8) (hl : l.length ≤ 4194304) (hm : m.length ≤ 4194304) (w : World) (h1 : At w p l) (h2 : At w q m) (hdl : AllDig l) (hdm : AllDig m) (hzl : NoZero l) (hzm : NoZero m) :
    Calls Tryd.prog 20 #[.bool sg, .slice p l.length c, .bool (!sg), .slice q m.length d] w (SumEnd (sgv sg (valN l) + sgv (!sg) (valN m)) w) := by
  have HK := hide (cmp_call p q c d l m (by omega) w h1 h2 hdl hdm hzl hzm)
  rcases Nat.lt_trichotomy (valN l) (valN m) with h | h | h
  · have hk : cmpZ l m = -1 := by unfold cmpZ; rw [if_pos h]
    rw [hk] at HK
    have hml : l.length ≤ m.length := by
      rcases Nat.lt_or_ge m.length l.length with h3 | h3
      · have := val_len m l hdm hdl hzl h3; omega
      · exact h3
    have hm0 : 0 < m.length := by
      rcases Nat.eq_zero_or_pos m.length with h3 | h3
      · rw [List.eq_nil_of_length_eq_zero h3] at h; simp [valN] at h
      · exact h3
    have HS : ∀ k, Hid (Calls Tryd.prog 28 #[.slice q m.length d, .slice p l.length c] (w.drewN k) (MagEnd (valN m - valN l) (w.drewN k))) := fun k => sub_call q p d c m l hm hm0 hml (Nat.le_of_lt h) (w.drewN k) h2 h1 hdm hdl
    obtain ⟨N, hN⟩ : ∃ N, Hid (N = valN m - valN l) := ⟨_, rfl⟩
    have hN0 : 0 < N := by rw [hN.out]; omega
    rw [← hN.out] at HS
    have HS' := hide HS
    cases sg with
    | false =>
      have hS : sgv false (valN l) + sgv (!false) (valN m) = -(N : Int) := by rw [hN.out]; simp [sgv]; omega
      rw [hS]
      clear hS HS h1 h2 hdl hdm hzl hzm hl hm hml hm0 h hk
      go_enter Tryd.func20, Tryd.ntmps20
      go_wp2_with fail
      refine (unhide HK).mono ?_
      rintro e w1 ⟨rfl, k, rfl⟩
      go_wp2_with fail
      refine (unhide ((unhide HS') k)).mono ?_
      rintro e w1 ⟨o', c', rfl, HC, hc, hc', hg, hb⟩
      go_wp2_with fail
      go_ret2
      exact sumEnd_mk N (by omega) _ (by simp; omega) _ c' (fun _ => ⟨_, _, rfl, unhide HC⟩) hc hc' ((below_drewN (Below.refl _ _) k).trans hb)
    | true =>
      have hS : sgv true (valN l) + sgv (!true) (valN m) = (N : Int) := by rw [hN.out]; simp [sgv]; omega
      rw [hS]
      clear hS HS h1 h2 hdl hdm hzl hzm hl hm hml hm0 h hk
      go_enter Tryd.func20, Tryd.ntmps20
      go_wp2_with fail
      refine (unhide HK).mono ?_
      rintro e w1 ⟨rfl, k, rfl⟩
      go_wp2_with fail
      refine (unhide ((unhide HS') k)).mono ?_
      rintro e w1 ⟨o', c', rfl, HC, hc, hc', hg, hb⟩
      go_wp2_with fail
      go_ret2
      exact sumEnd_mk N (by omega) _ (by simp) _ c' (fun _ => ⟨_, _, rfl, unhide HC⟩) hc hc' ((below_drewN (Below.refl _ _) k).trans hb)
  · have hk : cmpZ l m = 0 := by unfold cmpZ; rw [if_neg (by omega), if_neg (by omega)]
    rw [hk] at HK
    have hS : sgv sg (valN l) + sgv (!sg) (valN m) = 0 := by cases sg <;> simp [sgv] <;> omega
    rw [hS]
    clear hS h1 h2 hdl hdm hzl hzm hl hm h hk
    cases sg <;>
    · go_enter Tryd.func20, Tryd.ntmps20
      go_wp2_with fail
      refine (unhide HK).mono ?_
      rintro e w1 ⟨rfl, k, rfl⟩
      go_wp2_with fail
      go_ret2
      exact sumEnd_mk 0 rfl _ rfl none 0 (fun h => by simp [mag] at h) (by simp [mag]) (by omega) (below_drewN (Below.refl _ _) k)
  · have hk : cmpZ l m = 1 := by unfold cmpZ; rw [if_neg (by omega), if_pos h]
    rw [hk] at HK
    have hml : m.length ≤ l.length := by
      rcases Nat.lt_or_ge l.length m.length with h3 | h3
      · have := val_len l m hdl hdm hzm h3; omega
      · exact h3
    have hm0 : 0 < l.length := by
      rcases Nat.eq_zero_or_pos l.length with h3 | h3
      · rw [List.eq_nil_of_length_eq_zero h3] at h; simp [valN] at h
      · exact h3
    have HS : ∀ k, Hid (Calls Tryd.prog 28 #[.slice p l.length c, .slice q m.length d] (w.drewN k) (MagEnd (valN l - valN m) (w.drewN k))) := fun k => sub_call p q c d l m hl hm0 hml (Nat.le_of_lt h) (w.drewN k) h1 h2 hdl hdm
    obtain ⟨N, hN⟩ : ∃ N, Hid (N = valN l - valN m) := ⟨_, rfl⟩
    have hN0 : 0 < N := by rw [hN.out]; omega
    rw [← hN.out] at HS
    have HS' := hide HS
    cases sg with
    | false =>
      have hS : sgv false (valN l) + sgv (!false) (valN m) = (N : Int) := by rw [hN.out]; simp [sgv]; omega
      rw [hS]
      clear hS HS h1 h2 hdl hdm hzl hzm hl hm hml hm0 h hk
      go_enter Tryd.func20, Tryd.ntmps20
      go_wp2_with fail
      refine (unhide HK).mono ?_
      rintro e w1 ⟨rfl, k, rfl⟩
      go_wp2_with fail
      refine (unhide ((unhide HS') k)).mono ?_
      rintro e w1 ⟨o', c', rfl, HC, hc, hc', hg, hb⟩
      go_wp2_with fail
      go_ret2
      exact sumEnd_mk N (by omega) _ (by simp) _ c' (fun _ => ⟨_, _, rfl, unhide HC⟩) hc hc' ((below_drewN (Below.refl _ _) k).trans hb)
    | true =>
      have hS : sgv true (valN l) + sgv (!true) (valN m) = -(N : Int) := by rw [hN.out]; simp [sgv]; omega
      rw [hS]
      clear hS HS h1 h2 hdl hdm hzl hzm hl hm hml hm0 h hk
      go_enter Tryd.func20, Tryd.ntmps20
      go_wp2_with fail
      refine (unhide HK).mono ?_
      rintro e w1 ⟨rfl, k, rfl⟩
      go_wp2_with fail
      refine (unhide ((unhide HS') k)).mono ?_
      rintro e w1 ⟨o', c', rfl, HC, hc, hc', hg, hb⟩
      go_wp2_with fail
      go_ret2
      exact sumEnd_mk N (by omega) _ (by simp; omega) _ c' (fun _ => ⟨_, _, rfl, unhide HC⟩) hc hc' ((below_drewN (Below.refl _ _) k).trans hb)

theorem sum_call (sa sb : Bool) (p q : Option Addr) (c d : Nat) (l m : List UInt8) (hl : l.length ≤ 4194304) (hm : m.length ≤ 4194304) (w : World) (h1 : At w p l) (h2 : At w q m) (hdl : AllDig l) (hdm : AllDig m) (hzl : NoZero l) (hzm : NoZero m) :
    Calls Tryd.prog 20 #[.bool sa, .slice p l.length c, .bool sb, .slice q m.length d] w (SumEnd (sgv sa (valN l) + sgv sb (valN m)) w) := by
  by_cases h : sb = sa
  · subst h
    exact sum_same sb p q c d l m hl hm w h1 h2 hdl hdm
  · obtain rfl : sb = !sa := by cases sa <;> cases sb <;> simp_all
    exact sum_diff sa p q c d l m hl hm w h1 h2 hdl hdm hzl hzm
end Go.Proofs.Qxb6606399aDoor
