import Derived.Test.Qxb6606399aDoorSmall
import Derived.Test.Qxb6606399aDoorShelf
import Derived.Test.Qxb6606399aDoorShort
import Derived.ArgAppend
import Derived.Laws.AppendOwnNone
import Derived.Lib.JoinLaws
namespace Go.Proofs.Qxb6606399aDoor
open Go.RowKit

theorem owns_mono {w : World} {B B' n : Nat} {v : Value} {xs : List Value} (h : w.ownsRow B' 5 1 v n xs) (hB : B ≤ B') : w.ownsRow B 5 1 v n xs := by
  refine ⟨h.1, ?_⟩
  rcases h.2 with h | ⟨g, cap, cur, h1, h2, h3⟩
  · exact .inl h
  · exact .inr ⟨g, cap, cur, h1, by omega, h3⟩
theorem owns_kept {w w' : World} {B n : Nat} {v : Value} {xs : List Value} (h : w.ownsRow B 5 1 v n xs) (hb : Below w.heap.size w w') : w'.ownsRow B 5 1 v n xs := by
  refine ⟨h.1, ?_⟩
  rcases h.2 with h | ⟨g, cap, cur, h1, h2, h3, h4⟩
  · exact .inl h
  · have hlt : g < w.heap.size := (Array.getElem?_eq_some_iff.1 h3).1
    exact .inr ⟨g, cap, cur, h1, h2, (hb.block g hlt).trans h3, h4⟩
/-- A row to append to: the call's own (from block B on), or, while nothing was appended, a full row of k0 bytes elsewhere. -/
def Apx (B : Nat) (w : World) (v : Value) (n : Nat) (l : List UInt8) (k0 : Nat) : Prop :=
  w.ownsRow B 5 1 v n (bvs l) ∨ (n = k0 ∧ ∃ g, v = .slice (some ⟨g, 0, none⟩) n n ∧ l.length = n ∧ CellsL w g 0 l ∧ g < B)
theorem Apx.kept {B : Nat} {w w' : World} {v : Value} {n : Nat} {l : List UInt8} {k0 : Nat} (h : Apx B w v n l k0) (hB : B ≤ w.heap.size) (hb : Below w.heap.size w w') : Apx B w' v n l k0 := by
  rcases h with h | ⟨hn, g, h1, h2, h3, h4⟩
  · exact .inl (owns_kept h hb)
  · exact .inr ⟨hn, g, h1, h2, h3.later (fun _ => by omega) hb, h4⟩
theorem Apx.own {B : Nat} {w : World} {v : Value} {n : Nat} {l : List UInt8} {k0 : Nat} (h : Apx B w v n l k0) (hn : k0 < n) : w.ownsRow B 5 1 v n (bvs l) := by
  rcases h with h | ⟨hn', _⟩
  · exact h
  · omega
theorem Apx.len {B : Nat} {w : World} {v : Value} {n : Nat} {l : List UInt8} {k0 : Nat} (h : Apx B w v n l k0) : l.length = n := by
  rcases h with h | ⟨_, _, _, h, _⟩
  · have := h.1; rw [bvs_len] at this; omega
  · exact h
/-- A text to read: a slice whose block, if it has one, lies below B. -/
def Rd (B : Nat) (w : World) (p : Option Addr) (c : Nat) (l : List UInt8) : Prop :=
  l.length ≤ c ∧ c ≤ 1073741824 ∧ At w p l ∧ (p = none → c = 0) ∧ (∀ x, p = some x → x.block < B ∧ x.spot = none)
theorem Rd.later {B : Nat} {w w' : World} {p : Option Addr} {c : Nat} {l : List UInt8} (h : Rd B w p c l) (hb : Below B w w') : Rd B w' p c l :=
  ⟨h.1, h.2.1, h.2.2.1.later (fun _ _ e => (h.2.2.2.2 _ e).1) hb, h.2.2.2⟩
theorem Rd.nil (B : Nat) (w : World) : Rd B w none 0 [] := ⟨Nat.le_refl _, by omega, fun h => by simp at h, fun _ => rfl, fun _ e => by cases e⟩
theorem owns_grown {w w' : World} {B n : Nat} {v : Value} {xs : List Value} (h : w.ownsRow B 5 1 v n xs) (hg : w.grownBy w' v.ownBlock) (hB : B ≤ w.heap.size) : Below B w w' := by
  refine (Below.refl _ _).grown hg hB ?_
  intro k hk
  rcases h.2 with ⟨rfl, _⟩ | ⟨g, cap, cur, rfl, h2, _⟩
  · cases hk
  · cases hk; exact h2
/-- append(b, x...), b a row to append to and x a text: the walk's law. -/
theorem append_bytes {w : World} {ops : Array Oper} {rest : List Oper} {o : Oper} {a : Act} {Q : Exit → Act → World → Prop} (hgd : o.guard = none) (s x : Operand)
    (ho : o.op = .call { callee := .builtin .append, args := #[s, x], argTypes := #[22, 22] }) (B : Nat) (v : Value) (n : Nat) (l : List UInt8) (k0 : Nat) (hs : a.eval s = v) (hA : Apx B w v n l k0)
    (p : Option Addr) (m c : Nat) (k : List UInt8) (hx : a.eval x = .slice p m c) (hk : k.length = m) (hc : At w p k) (hp : p = none → c = 0) (hp' : ∀ x, p = some x → x.spot = none) (hbig : n + m ≤ 1073741824) (hB : B ≤ w.heap.size)
    (h : ∀ v' w', Apx B w' v' (n + m) (l ++ k) k0 → Below B w w' → wpList Tryd.prog ops Q rest (a.put o.dst v') w') : wpList Tryd.prog ops Q (o :: rest) a w := by
  obtain ⟨i0, hi0, hz0, hz1, hz2⟩ := info_parts Tryd.info5
  cases p with
  | none =>
    obtain rfl := hp rfl
    have hm0 : m = 0 := by
      rcases Nat.eq_zero_or_pos m with e | e
      · exact e
      · obtain ⟨_, _, e', _⟩ := hc (by omega); cases e'
    subst hm0
    obtain rfl : k = [] := List.eq_nil_of_length_eq_zero hk
    rcases hA with hA | ⟨hn, g, rfl, h2, h3, h4⟩
    · exact wpList_append_own_none hgd s x 22 ho B 5 i0 1 Tryd.underlying22 hi0 v n (bvs l) hs hA hx (by
        have := h v w (.inl (by rw [List.append_nil, Nat.add_zero]; exact hA)) (Below.refl _ _)
        exact this)
    · refine wpList_append_room1 w hgd s x 22 22 ho 5 (.int .u8 0) 1 Tryd.underlying22 Tryd.info5 g 0 n n hs _ hx 0 [] (Go.Src.ofNil w Tryd.underlying22 0) (by omega) (fun j hj => by simp at hj) (fun j hj => by simp at hj) ?_
      exact h _ w (.inr ⟨by omega, g, rfl, by rw [List.append_nil]; omega, by rw [List.append_nil]; exact h3, h4⟩) (Below.refl _ _)
  | some ad =>
    have hnews : ∀ j u, (bvs k)[j]? = some u → w.cell? (ad.add j) = some u := fun j u hj => by
      have hlt : j < k.length := by
        rcases Nat.lt_or_ge j k.length with h | h
        · exact h
        · rw [List.getElem?_eq_none (by rw [bvs_len]; exact h)] at hj; cases hj
      obtain ⟨b, off, e, hcc⟩ := hc (by omega)
      cases e
      exact cells_add hcc j u hj
    rcases hA with hA | ⟨hn, g, rfl, h2, h3, h4⟩
    · refine wpList_append_own w hgd s x 22 ho B 5 i0 (.int .u8 0) 1 1 Tryd.underlying22 hi0 hz0 hz1 hz2 rfl (by omega) v n (bvs l) hs hA ad m c (bvs k) hx (by rw [bvs_len]; omega) hnews (bvs_one k) (by unfold maxLen; omega) (by omega) hB ?_
      intro v' w' h1 h2 _
      exact h v' w' (.inl (by rw [bvs_append]; exact h1)) (owns_grown hA h2 hB)
    · rcases Nat.eq_zero_or_pos m with hm0 | hm0
      · subst hm0
        obtain rfl : k = [] := List.eq_nil_of_length_eq_zero hk
        refine wpList_append_room1 w hgd s x 22 22 ho 5 (.int .u8 0) 1 Tryd.underlying22 Tryd.info5 g 0 n n hs _ hx 0 [] (Go.Src.ofSlice w Tryd.underlying22 ad 0 c [] rfl (fun j u hj => by simp at hj) (fun u hu => by simp at hu)) (by omega) (fun j hj => by simp at hj) (fun j hj => by simp at hj) ?_
        exact h _ w (.inr ⟨by omega, g, rfl, by rw [List.append_nil]; omega, by rw [List.append_nil]; exact h3, h4⟩) (Below.refl _ _)
      · refine wpList_append_grows w hgd s x 22 ho 5 i0 (.int .u8 0) 1 1 Tryd.underlying22 hi0 hz0 hz1 hz2 rfl (by omega) (some ⟨g, 0, none⟩) n n (bvs l) hs (fun e => by cases e) (by rw [bvs_len]; omega) (fun b e j u hj => by cases e; exact cells_add h3 j u hj) ad m c (bvs k) hx (by rw [bvs_len]; omega) hnews (bvs_one k) (by omega) (by unfold maxLen; omega) (by omega) ?_
        intro v' w' h1 h2
        exact h v' w' (.inl (by rw [bvs_append]; exact owns_mono h1 hB)) ((Below.refl _ _).grown h2 hB (fun _ e => by cases e))
end Go.Proofs.Qxb6606399aDoor
