import Derived.Test.Qxb6608677aDoorZz
import Derived.Deep.OwnRows
namespace Go.Proofs.Qxb6608677aDoor
open Go.RowKit Go.Lib

/-- zzSwapCase on a byte. -/
def swapN (v : Nat) : Nat := if 97 ≤ v ∧ v ≤ 122 then v - 32 else if 65 ≤ v ∧ v ≤ 90 then v + 32 else v
def swapB (c : UInt8) : UInt8 := UInt8.ofNat (swapN c.toNat)
def swapL (l : List UInt8) : List UInt8 := l.map swapB
theorem swapN_lt (v : Nat) (h : v < 256) : swapN v < 256 := by unfold swapN; split <;> (try split) <;> omega
theorem swapB_nat (c : UInt8) : (swapB c).toNat = swapN c.toNat := by
  unfold swapB
  rw [UInt8.toNat_ofNat']
  have := swapN_lt c.toNat c.toNat_lt
  omega
/-- What the row holds when k bytes of J are laid. -/
def laidF (J : List UInt8) (k : Nat) (j : Nat) : Value := if j < k then .int .u8 ((J.getD j 0).toNat : Int) else .int .u8 0
theorem laidF_step (J : List UInt8) (k : Nat) (z : Int) (hz : z = ((J.getD k 0).toNat : Int)) (j : Nat) : (if j = k then Value.int .u8 z else laidF J k j) = laidF J (k + 1) j := by
  unfold laidF
  by_cases h : j = k
  · subst h; rw [if_pos rfl, if_pos (by omega), hz]
  · rw [if_neg h]
    by_cases h2 : j < k
    · rw [if_pos h2, if_pos (by omega)]
    · rw [if_neg h2, if_neg (by omega)]
theorem laidF_cells {w : World} {g : Nat} {J : List UInt8} (h : w.rowIs g 5 J.length (laidF J J.length)) : CellsL w g 0 J := fun i hi => by
  rw [Nat.zero_add, h.cell hi]
  unfold laidF
  rw [if_pos hi, List.getD_eq_getElem?_getD, List.getElem?_eq_getElem hi]
  rfl
theorem made_row {w : World} {g n : Nat} (J : List UInt8) (h : w.heap[g]? = some (.cells (List.replicate n (Value.int .u8 0)).toArray 5 (0, 0))) : w.rowIs g 5 n (laidF J 0) :=
  ⟨_, h, by simp, fun i hi => by simp [laidF, hi]⟩
theorem run_conv (w : World) (b off cap : Nat) (l : List UInt8) (h : CellsL w b off l) :
    (convert 22 9 (.slice (some ⟨b, off, none⟩) l.length cap)).run Tryd.prog w = .ok (.string ⟨l.toArray⟩) w := by
  have := run_convert_bytes_arg (P := Tryd.prog) w 22 5 Tryd.underlying22 Tryd.underlying5 b off l.length cap (l.map fun c => (c.toNat : Int)) (by simp) (fun i hi => by
    rw [h i hi]; simp [List.getD, List.getElem?_eq_getElem hi]) 9 Tryd.underlying9
  rw [this]
  have e : strOfNums (l.map fun c => (c.toNat : Int)) = ⟨l.toArray⟩ := by
    unfold strOfNums
    rw [List.map_map]
    have : ((fun n : Int => UInt8.ofNat n.toNat) ∘ fun c : UInt8 => (c.toNat : Int)) = id := by funext c; simp
    rw [this, List.map_id]
  rw [e]
theorem mask_bit : (List.range 64).all (fun m => bits .and .u64 ((18446744073709551615 : Int) / 2 ^ m) 1 == 1) = true := by decide +kernel
set_option maxHeartbeats 4000000 in
set_option maxRecDepth 100000 in
theorem flip_call (s : ByteArray) (hs : s.size ≤ 1048576) (w : World) : Calls Tryd.prog 27 #[.string s, .int .u64 18446744073709551615] w fun e w' => e = .returned (.string ⟨(swapL s.data.toList).toArray⟩) ∧ Below w.heap.size w w' := by
  obtain ⟨i0, hi0, hz0, hz1, hz2⟩ := info_parts Tryd.info5
  obtain ⟨J, hJ⟩ : ∃ J, Hid (J = swapL s.data.toList) := ⟨_, rfl⟩
  have HJl : Hid (J.length = s.size) := by rw [Hid, hJ.out, swapL, List.length_map, ← Lib.size_eq]
  rw [← hJ.out]
  go_enter Tryd.func27, Tryd.ntmps27
  go_upto_region 2 with (first | (at_make; refine wpList_make_full _ rfl _ _ 22 rfl w.heap.size 5 i0 (.int .u8 0) 1 Tryd.underlying22 hi0 hz0 hz1 .i64 .i64 s.size s.size s.size rfl rfl rfl rfl (by rw [hz2]; omega) (by unfold maxLen; omega) (Nat.le_refl _) ?_; intro w1 hown hgr) | fail)
  rw [show (madeCells (Value.int IntKind.u8 0).cells (s.size * 1)).toList = List.replicate s.size (Value.int .u8 0) from by rw [Nat.mul_one]; exact toList_madeCells_one _ _] at hown
  have hb1 : Below w.heap.size w w1 := (Below.refl _ _).grown hgr (Nat.le_refl _) (fun _ h => by cases h)
  have HR0 := hide (made_row J (owns_block hown))
  clear hown hgr
  go_wp2_with fail
  go_loopg [6, 7] s.size (fun g s6 _s7 wr => ∃ k : Nat, k + g = s.size ∧ s6 = .int .i64 (k : Nat) ∧ Hid (wr.rowIs w.heap.size 5 s.size (laidF J k)) ∧ Below w.heap.size w wr)
  case atStart => exact ⟨0, by omega, rfl, HR0, hb1⟩
  case round =>
    obtain ⟨k, hkg, rfl, HR, hbr⟩ := hrel
    by_cases hk : k < s.size
    · have hkz : (k : Int) < (s.size : Int) := by omega
      obtain ⟨g', rfl⟩ : ∃ g', gk = g' + 1 := ⟨gk - 1, by omega⟩
      obtain ⟨x, hx⟩ : ∃ x : UInt8, s[k]'(by omega) = x := ⟨_, rfl⟩
      have hxl : s.data.toList[k]? = some x := by rw [← hx]; exact Lib.data_getElem? s k (by omega)
      obtain ⟨v, hv⟩ : ∃ v, Hid (v = x.toNat) := ⟨_, rfl⟩
      have hxv : x.toNat = v := hv.out.symm
      have hv256 : v < 256 := by rw [hv.out]; exact x.toNat_lt
      have HJK : Hid ((J.getD k 0).toNat = swapN v) := by
        rw [Hid, hJ.out, swapL, List.getD_eq_getElem?_getD, List.getElem?_map, hxl, hv.out]
        exact swapB_nat x
      clear hxl
      obtain ⟨m, hm⟩ : ∃ m : Nat, Hid (m = k % 64) := ⟨_, rfl⟩
      have hm64 : m < 64 := by rw [hm.out]; omega
      have hmz : (k : Int).tmod 64 = (m : Int) := by rw [hm.out, Int.tmod_eq_emod_of_nonneg (by omega)]; omega
      have hf := (unhide HR).frozen k
      have hcl := (unhide HR).cell (i := k) (by omega)
      have hbit : (bits .and .u64 ((18446744073709551615 : Int) / 2 ^ m) 1 == 1) = true := List.all_eq_true.1 mask_bit m (by simpa using hm64)
      have hbit2 : bits .and .u64 ((18446744073709551615 : Int) / 2 ^ m) 1 = 1 := by simpa using hbit
      have HZ : Hid (((swapN v : Nat) : Int) = ((J.getD k 0).toNat : Int)) := by rw [Hid, unhide HJK]
      obtain ⟨z, hz⟩ : ∃ z, Hid (z = swapN v) := ⟨_, rfl⟩
      rw [← hz.out] at HZ
      clear hbit
      go_upto_if 26 with fail
      go_cut [7] (fun cv wx => cv = .int .u8 (z : Nat) ∧ wr = wx)
      case first =>
        as_aux_lemma =>
          by_cases h1 : 97 ≤ v
          · have h1z : (97 : Int) ≤ (v : Int) := by omega
            by_cases h2 : v ≤ 122
            · have h2z : (v : Int) ≤ 122 := by omega
              have e : Hid ((v : Int) - 32 = (z : Int)) := by rw [Hid, hz.out, swapN, if_pos ⟨h1, h2⟩]; omega
              go_wp2_with fail
              go_meet
              case rel => exact ⟨by rw [e.out], rfl⟩
            · have h2z : ¬ ((v : Int) ≤ 122) := by omega
              have h3z : (65 : Int) ≤ (v : Int) := by omega
              have h4z : ¬ ((v : Int) ≤ 90) := by omega
              have e : Hid (v = z) := by rw [Hid, hz.out, swapN, if_neg (by omega), if_neg (by omega)]
              go_wp2_with fail
              go_meet
              case rel => exact ⟨by rw [e.out], rfl⟩
          · have h1z : ¬ ((97 : Int) ≤ (v : Int)) := by omega
            by_cases h3 : 65 ≤ v
            · have h3z : (65 : Int) ≤ (v : Int) := by omega
              by_cases h4 : v ≤ 90
              · have h4z : (v : Int) ≤ 90 := by omega
                have e : Hid ((v : Int) + 32 = (z : Int)) := by rw [Hid, hz.out, swapN, if_neg (by omega), if_pos ⟨h3, h4⟩]; omega
                go_wp2_with fail
                go_meet
                case rel => exact ⟨by rw [e.out], rfl⟩
              · have h4z : ¬ ((v : Int) ≤ 90) := by omega
                have e : Hid (v = z) := by rw [Hid, hz.out, swapN, if_neg (by omega), if_neg (by omega)]
                go_wp2_with fail
                go_meet
                case rel => exact ⟨by rw [e.out], rfl⟩
            · have h3z : ¬ ((65 : Int) ≤ (v : Int)) := by omega
              have e : Hid (v = z) := by rw [Hid, hz.out, swapN, if_neg (by omega), if_neg (by omega)]
              go_wp2_with fail
              go_meet
              case rel => exact ⟨by rw [e.out], rfl⟩
      case rest =>
      obtain ⟨rfl, rfl⟩ := hcut
      have HN : Hid ((wr.setCell ⟨w.heap.size, k, none⟩ (.int .u8 (z : Int))).rowIs w.heap.size 5 s.size (laidF J (k + 1))) :=
        ((unhide HR).set k _).congr fun j _ => laidF_step J k (z : Int) (unhide HZ) j
      have hbN : Below w.heap.size w (wr.setCell ⟨w.heap.size, k, none⟩ (.int .u8 (z : Int))) := hbr.setCell (Nat.le_refl _) _
      clear HR
      go_wp2_with fail
      go_roundg g'
      case measure => omega
      case rel => exact ⟨k + 1, by omega, by go_num, HN, hbN⟩
    · have hkz : ¬ ((k : Int) < (s.size : Int)) := by omega
      obtain rfl : k = s.size := by omega
      have hconv := run_conv wr w.heap.size 0 s.size J (laidF_cells (by rw [unhide HJl]; exact unhide HR))
      rw [unhide HJl] at hconv
      clear HR
      go_wp2_with fail
      go_ret
      exact ⟨rfl, hbr⟩
theorem swap_call (s : ByteArray) (hs : s.size ≤ 1048576) (w : World) : Calls Tryd.prog 17 #[.string s] w fun e w' => e = .returned (.string ⟨(swapL s.data.toList).toArray⟩) ∧ Below w.heap.size w w' := by
  have H := hide (flip_call s hs w)
  go_enter Tryd.func17, Tryd.ntmps17
  go_wp2_with fail
  refine (unhide H).mono ?_
  rintro e w1 ⟨rfl, hb⟩
  go_wp2_with fail
  go_ret
  exact ⟨rfl, hb⟩
end Go.Proofs.Qxb6608677aDoor
