/- Joined texts: MOpen. -/
import Derived.Test.YtnklanajebphpaaGreatDoorW2
import Derived.Deep.Slices
import Derived.ChangeSame
set_option maxRecDepth 100000
set_option maxHeartbeats 4000000
set_option linter.unusedVariables false
set_option linter.unusedSimpArgs false
namespace Go.Rx
open IntKind
open Go.ChangeShapes Go.WideShapes
instance:Inhabited Comp:=⟨⟨0,[]⟩⟩
theorem lt_of_cell{w:World}{a:Addr}{v:Value}(h:w.cell? a=some v):a.block<w.heap.size:=by
 refine Decidable.byContradiction fun hn=>?_
 have:w.heap[a.block]?=none:=by simp;omega
 simp[World.cell?,this]at h
structure CompTypes (P:Program) (T E U:TypeId) (f0 f1:Field):Prop where
 t:P.underlying T=some (.slice E)
 e:P.underlying E=some (.struct #[f0,f1])
 ec:P.cellsOf E=2
 eb:0<P.bytesOf E
 i:P.underlying f0.type=some (.int .i64)
 io:f0.offset=0
 ic:P.cellsOf f0.type=1
 y:P.underlying f1.type=some (.slice U)
 yo:f1.offset=1
 yc:P.cellsOf f1.type=1
 u:P.underlying U=some (.int .u8)
 uc:P.cellsOf U=1
 ub:0<P.bytesOf U
section
variable {H:Type}{enc:TypeId×Value->H}{P:Program}{w:World}{fuel:Nat}{cs:List Value}{x:DataW H×List MemPlace}
theorem weightsAll_of{E:TypeId}:∀ {l:List (DataW H)}{d:DataW H},d∈l->∀n∈d.weights P E,n∈DataW.weightsAll P E l
 |_ :: l,d,hd,n,hn=>by
  simp only[DataW.weightsAll,List.mem_append]
  rcases List.mem_cons.1 hd with rfl |h
  ·exact .inl hn
  ·exact .inr (weightsAll_of h n hn)
theorem bts_of_trod{T U:TypeId}(hT:P.underlying T=some (.slice U))(hU:P.underlying U=some (.int .u8))(hUc:P.cellsOf U=1)(hb:0<P.bytesOf U)
  (h:DataW.trod enc P w 0 (fun _=>true) true fuel T cs=some x) (hsz:∀n∈x.1.weights P T,n<=reachBytes) :
  ∃A n cap l,cs=[.slice A n cap]/\Bts w w.heap.size A n l/\n<=reachBytes:=by
 rcases open_ints hT hU hUc h with⟨rfl,_⟩ |⟨a,len,cap,zs,rfl,_,hl,hm,hz,rfl,hc,hwf⟩
 ·exact⟨none,0,0,[],rfl,⟨rfl,fun h=>absurd h (Nat.lt_irrefl 0)⟩,Nat.zero_le _⟩
 ·simp only[if_true]at hz
  refine⟨some a,len,cap,(zs.take len).map (fun n=>UInt8.ofNat n.toNat),rfl,⟨by simp;omega,fun hn=>⟨a,rfl,?_,?_⟩⟩,?_⟩
  ·have:=lt_of_cell (hc 0 (by omega))
   simpa [Addr.add] using this
  ·intro i b hi
   rw[Nat.mul_one]
   simp only[List.getElem?_map,Option.map_eq_some_iff]at hi
   obtain⟨z,hz',rfl⟩:=hi
   rw[List.getElem?_take]at hz'
   split at hz'
   ·have h1:=hwf z (List.mem_of_getElem? hz')
    have h2:0<=z/\z<=255:=by simpa [Lit.wf,IntKind.min,IntKind.max,IntKind.bits,IntKind.signed] using h1
    have h3:=hc i (List.getElem?_eq_some_iff.1 hz').1
    rw[List.getD_eq_getElem?_getD,hz']at h3
    rw[h3]
    simp
    omega
   ·cases hz'
  ·have:=hsz (((lits (H:=H) .u8 (zs.take len)).length+(lits (H:=H) .u8 (zs.drop len)).length)*P.bytesOf U) (by simp[DataW.weights,hT])
   simp only[lits,List.length_map,List.length_take,List.length_drop]at this
   have h2:len*1<=(min len zs.length+(zs.length-len))*P.bytesOf U:=Nat.mul_le_mul (by omega) hb
   omega
end
end Go.Rx
