/- Joined texts: Th. -/
import Derived.Test.YtnklanajebphpaaGreatDoorW21
import Derived.Test.YtnklanajebphpaaGreatDoorW22
import Derived.Test.YtnklanajebphpaaGreatDoorW23
import Derived.Test.YtnklanajebphpaaGreatDoorW25
import Derived.Test.YtnklanajebphpaaGreatDoorW26
set_option maxRecDepth 100000
set_option maxHeartbeats 4000000
set_option linter.unusedVariables false
set_option linter.unusedSimpArgs false
namespace Go.Proofs.YtnklanajebphpaaGreatDoor
open IntKind
open Go
theorem IK(os:Os)(tape:Tape):(DataW.laidRun Tryz.prog (varsWorld Tryz.prog 400 (varsId Tryz.prog) os tape).memory 8 (ml.map (·.1))).map (fun x=>decide x.2.Nodup && laidRowsB Tryz.prog (varsWorld Tryz.prog 400 (varsId Tryz.prog) os tape).memory x.2)=some true:=by
 have h1:=OQ os tape
 have h2:=OS os tape
 have h3:=OT os tape
 cases h:(DataW.laidRun Tryz.prog (varsWorld Tryz.prog 400 (varsId Tryz.prog) os tape).memory 8 (ml.map (·.1))) with
 |none=>rw[h]at h1;cases h1
 |some x=>
  have h':=h
  rw[show ml.map (·.1)=(ml.take 9).map (·.1)++(ml.drop 9).map (·.1) by rw[<- List.map_append,List.take_append_drop]]at h'
  obtain⟨xa,xb,e1,e2,e3⟩:=jm h'
  rw[h]at h1
  rw[e1]at h2
  rw[e2]at h3
  simp only[Option.map_some,Option.some.injEq]at h1 h2 h3 ⊢
  rw[Bool.and_eq_true]at h1
  have n1:=(jr x.2 _ _ _ h1.1).2
  have nb:=ij h1.2
  rw[e3]at nb
  have n2:=di xa.2 100000 #[] (.inr fun o hm=>nb o (List.mem_append_left _ hm)) h2
  have n3:=di xb.2 100000 #[] (.inr fun o hm=>nb o (List.mem_append_right _ hm)) h3
  have n4:laidRowsB Tryz.prog (varsWorld Tryz.prog 400 (varsId Tryz.prog) os tape).memory x.2=true:=by
   rw[e3]
   unfold laidRowsB at *
   rw[List.all_append,n2,n3]
   rfl
  rw[n4,decide_eq_true n1]
  rfl
theorem QD:Tryz.prog.laidByTextLater ml L0 true:=Program.laidByTextLater_by_run 400 8 k1 k2 k3 k4 k5 k6 OO OP IK Pp
theorem kN:Rows.fnMaWritesRow.laidByTextAt .later Tryz.pinned [.data,.data,.data,.sentinel,.sentinel,.sentinel,.pinned,.data,.sentinel,.data,.sentinel,.sentinel,.sentinel,.sentinel,.sentinel,.sentinel,.data,.data,.sentinel,.sentinel,.sentinel,.sentinel] true:=
 OpenClaim.laidByTextAt_pinned rfl rfl QD rfl rfl rfl rfl (fun y hy _e=>by
  simp only[Rows.fnMaWritesRow,List.zip_cons_cons,List.zip_nil_right,List.mem_cons,List.mem_nil_iff,or_false]at hy
  rcases hy with rfl |rfl |rfl |rfl |rfl |rfl |rfl |rfl |rfl |rfl |rfl |rfl |rfl |rfl |rfl |rfl |rfl |rfl |rfl |rfl |rfl |rfl
  ·cases _e
  ·cases _e
  ·cases _e
  ·cases _e
  ·cases _e
  ·cases _e
  ·exact⟨BL,by kernel_rfl⟩
  ·cases _e
  ·cases _e
  ·cases _e
  ·cases _e
  ·cases _e
  ·cases _e
  ·cases _e
  ·cases _e
  ·cases _e
  ·cases _e
  ·cases _e
  ·cases _e
  ·cases _e
  ·cases _e
  ·cases _e) JS
end Go.Proofs.YtnklanajebphpaaGreatDoor
