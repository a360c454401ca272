/- What the listed variables of FnNetFromIP's row hold in memory: the table of powers, the error. -/
import Derived.Test.YtdmnoagahjbjhaaGreatDoorW2
import Derived.Test.YtdmnoagahjbjhaaGreatDoorM24
import Derived.Lib.LaidTab
import Derived.Stop.LaidErr
set_option linter.unusedVariables false
set_option linter.unusedSimpArgs false
open Go Go.ChangeShapes Go.WideShapes Go.ChangeAt Go.RowKit Go.Rx
namespace Go.Proofs.YtdmnoagahjbjhaaGreatDoor

theorem gPow : Tryz.prog.globalNamed "internal/strconv.uint64pow10" = some 9 := by kernel_rfl
theorem gPowT : (Tryz.prog.globals[9]?).map (·.type) = some 191 := by kernel_rfl
theorem gPowC : Tryz.prog.cellsOf 191 = 20 := by kernel_rfl
theorem gPow0 : (((begin Tryz.prog (fun _ _ => 0) default).world.heap[9]?).bind Obj.row?).map (·.2) = some 191 := by kernel_rfl
theorem gErr : Tryz.prog.globalNamed "pub-brocade/pub/multiaddr/net.errIncorrectNetAddr" = some 1 := by kernel_rfl
theorem gErrT : (Tryz.prog.globals[1]?).map (·.type) = some 52 := by kernel_rfl
theorem gErr0 : (((begin Tryz.prog (fun _ _ => 0) default).world.heap[1]?).bind Obj.row?).map (·.2) = some 52 := by kernel_rfl
theorem gSize : 9 < Tryz.prog.globals.size := of_decide_eq_true (by kernel_rfl)
theorem star : "*" ++ "errors.errorString" = "*errors.errorString" := by decide
theorem row130 (u : TypeId) (h : Tryz.prog.typeName? 3 u = some "*errors.errorString") : u = 130 :=
  typeName_ptr_named (nm := "errors.errorString") (by rw [star]; kernel_rfl) (by kernel_rfl) (by decide) u (by rw [star]; exact h)
theorem cells132 : Tryz.prog.cellsOf 132 = 1 := by kernel_rfl
theorem cells9 : Tryz.prog.cellsOf 9 = 1 := by kernel_rfl
theorem cells98 : Tryz.prog.cellsOf 98 = 1 := by kernel_rfl

theorem heap_of_var {P : Program} {W : World} {n : String} {g : Nat} {cs : Array Value} {t : TypeId} (hg : P.globalNamed n = some g) (hv : W.var? P n = some cs) (hs : W.ShapedOpen P) (hlt : g < P.globals.size)
    (h0 : (((begin P (fun _ _ => 0) default).world.heap[g]?).bind Obj.row?).map (·.2) = some t) : W.heap[g]? = some (.cells cs t (0, 0)) := by
  obtain ⟨⟨zero, t'⟩, hz, rfl⟩ := Option.map_eq_some_iff.1 h0
  obtain ⟨cs', h1, _⟩ := hs.1 g zero t' hlt hz
  unfold World.var? at hv
  rw [hg, Option.bind_some, h1] at hv
  cases hv
  exact h1

theorem tens_of {W : World} (hL : laidMetH Tryz.prog Rows.fnNetFromIPRow.laid W) (hs : W.ShapedOpen Tryz.prog) : Tens W := by
  rw [MakeChecks.laidMetH_plain _ _ _ (by kernel_rfl)] at hL
  have hT : Lib.TabIs Tryz.prog W "internal/strconv.uint64pow10" .u64 tens := Lib.tabIs_of_head gPow gPowT Tryz.underlying191 Tryz.underlying98 cells98 gPowC hL
  exact heap_of_var gPow hT hs gSize gPow0

theorem err_of {W : World} (hL : laidMetH Tryz.prog Rows.fnNetFromIPRow.laid W) (hs : W.ShapedOpen Tryz.prog) : ∃ a, W.heap[1]? = some (.cells #[.iface 130 (.pointer (some a))] 52 (0, 0)) := by
  rw [MakeChecks.laidMetH_plain _ _ _ (by kernel_rfl)] at hL
  iterate 22 (replace hL := hL.tail)
  obtain ⟨a, s, hv, _⟩ := laid_sentinel hL gErr gErrT Tryz.underlying52 row130 Tryz.underlying130 Tryz.underlying132 rfl rfl Tryz.underlying9 cells132 cells9
  exact ⟨a, heap_of_var gErr hv hs (Nat.lt_trans (by decide) gSize) gErr0⟩

end Go.Proofs.YtdmnoagahjbjhaaGreatDoor
