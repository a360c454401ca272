/- Joined texts: LW3. -/
import Derived.Test.YtnklanajebphpaaGreatDoorW14
import Derived.Test.YtnklanajebphpaaGreatDoorW6
import Derived.Lib.LaidTab
import Derived.Stop.LaidErr
set_option maxRecDepth 100000
set_option maxHeartbeats 4000000
set_option linter.unusedVariables false
set_option linter.unusedSimpArgs false
namespace Go.Proofs.YtnklanajebphpaaGreatDoor
open IntKind
open Go Go.ChangeShapes Go.WideShapes Go.ChangeAt Go.RowKit Go.Rx
theorem JU:Tryz.prog.globalNamed "internal/strconv.uint64pow10" = some 14:=by kernel_rfl
theorem JX:(Tryz.prog.globals[14]?).map (·.type)=some 280:=by kernel_rfl
theorem JW:Tryz.prog.cellsOf 280=20:=by kernel_rfl
theorem JV:(((begin Tryz.prog (fun _ _=>0) default).world.heap[14]?).bind Obj.row?).map (·.2)=some 280:=by kernel_rfl
theorem JY:14<Tryz.prog.globals.size:=of_decide_eq_true (by kernel_rfl)
theorem E6:Tryz.prog.cellsOf 74=1:=by kernel_rfl
theorem wU{P:Program}{W:World}{n:String}{g:Nat}{cs:Array Value}{t:TypeId}(hg:P.globalNamed n=some g)(hv:W.var? P n=some cs)(hs:W.ShapedOpen P)(hlt:g<P.globals.size)
  (h0:(((begin P (fun _ _=>0) default).world.heap[g]?).bind Obj.row?).map (·.2)=some t):W.heap[g]?=some (.cells cs t (0,0)):=by
 obtain⟨⟨zero,t'⟩,hz,rfl⟩:=Option.map_eq_some_iff.1 h0
 obtain⟨cs',h1,_⟩:=hs.1 g zero t' hlt hz
 unfold World.var? at hv
 rw[hg,Option.bind_some,h1]at hv
 cases hv
 exact h1
theorem FH{W:World}(hL:laidMetH Tryz.prog Rows.fnMaWritesRow.laid W)(hs:W.ShapedOpen Tryz.prog):Tens W:=by
 rw[MakeChecks.laidMetH_plain _ _ _ (by kernel_rfl)]at hL
 have hT:Lib.TabIs Tryz.prog W "internal/strconv.uint64pow10" .u64 tens:=Lib.tabIs_of_head JU JX Tryz.underlying280 Tryz.underlying74 E6 JW hL
 exact wU JU hT hs JY JV
end Go.Proofs.YtnklanajebphpaaGreatDoor
