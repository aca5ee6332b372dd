import Derived.Test.Qxb6606399aDoorIdem
import Derived.Test.Qxb6606399aDoorRowA
namespace Go.Proofs.Qxb6606399aDoor
open Go.ChangeShapes Go.WideShapes Go.ChangeAt Go.RowKit

theorem row_len {W : World} {a : Option Addr} {len cap : Nat} {zs : List Int} (h : IsRow W a len cap zs) : (toBytes (zs.take len)).length = len ∧ At W a (toBytes (zs.take len)) ∧ (a = none → cap = 0 ∧ (toBytes (zs.take len)).length = 0) := by
  cases a with
  | none =>
    rcases h.1 with ⟨_, rfl, rfl⟩ | ⟨x, e, _⟩
    · exact ⟨by simp [toBytes], fun h0 => by simp [toBytes] at h0, fun _ => ⟨rfl, by simp [toBytes]⟩⟩
    · cases e
  | some x => exact ⟨h.len, h.at_, fun e => by cases e⟩
theorem tab_of_reads {P : Program} {W : World} {name : String} {k : IntKind} {zs : List Int} {g : Nat} {t e : TypeId} {n : Nat}
    (hg : P.globalNamed name = some g) (hty : (P.globals[g]?).map (·.type) = some t) (ht : P.underlying t = some (.array n e)) (he : P.underlying e = some (.int k)) (hce : P.cellsOf e = 1) (hct : P.cellsOf t = n)
    (h : Lib.VarReads P W name (Lib.tabData k zs)) : Lib.TabIs P W name k zs := by
  obtain ⟨g', t', cs, fuel, p, hg', ht', hvar, hd⟩ := h
  obtain rfl := Option.some.inj (hg.symm.trans hg')
  obtain rfl := Option.some.inj (hty.symm.trans ht')
  unfold Lib.TabIs
  rw [hvar, ← Lib.cells_of_tab ht he hce hct hd]
theorem good_of {W : World} (hL : laidMet Tryd.prog Rows.fnAppendDecimalIsIdempotentRow.laid W) (hm : ∃ mx, W.cell? ⟨0, 0, none⟩ = some (.int .i64 mx)) : Good W := by
  refine ⟨tabs_of_list hL (by kernel_rfl) (by kernel_rfl) (.tail _ (.tail _ (.tail _ (.tail _ (.head _))))) (.tail _ (.tail _ (.tail _ (.head _)))), hm, ?_⟩
  have r := Lib.laidMet.reads hL (show (_, Rows.laid_internal_strconv_uint64pow10) ∈ Rows.fnAppendDecimalIsIdempotentRow.laid from .tail _ (.tail _ (.head _)))
  have d : (Rows.laid_internal_strconv_uint64pow10 : DataW Unit) = Lib.tabData .u64 Lib.pow10Tab := by kernel_rfl
  rw [d] at r
  exact tab_named (Lib.tabBelow_of_tabIs (tab_of_reads (g := 3) (t := 80) (e := 37) (n := 20) (by kernel_rfl) (by kernel_rfl) (by kernel_rfl) (by kernel_rfl) (by kernel_rfl) (by kernel_rfl) r)) (by kernel_rfl)
end Go.Proofs.Qxb6606399aDoor
