/- Joined texts: K5U K13U K14P K14F K14S K14C K14M K14D K14Z K14U K15 S5 S7 K31 K32 K40 K16a K17 K18 S6 S1 K19 K16b. -/
import Derived.Test.YtnklanajebphpaaGreatDoorJ8
import Derived.Test.YtnklanajebphpaaGreatDoorChecked
import Derived.Test.YtnklanajebphpaaGreatDoorJ2
import Derived.WalkKit
import Derived.Lib.Builder
import Derived.Shelf.Strings.Builder1
import Derived.Test.YtnklanajebphpaaGreatDoorJ6
import Derived.Test.YtnklanajebphpaaGreatDoorJ4
import Derived.Defers
import Derived.Recover
set_option maxRecDepth 100000
set_option maxHeartbeats 4000000
set_option linter.unusedVariables false
set_option linter.unusedSimpArgs false
namespace Go.Proofs.YtnklanajebphpaaGreatDoor
open IntKind
section
open Go Go.Rx Go.RowKit
noncomputable abbrev oy(s:ByteArray)(off c3:Nat):SObj:=(.ints .u8 (List.map (fun b=>(↑b.toNat:Int)) (#[].extract 0 0++s.data.extract (↑off:Int).toNat ((↑off:Int).toNat+(s.size-(↑off:Int).toNat))++#[].extract (0+min (s.size-(↑off:Int).toNat) (s.data.size-(↑off:Int).toNat)) 0).toList++List.replicate (c3-(s.extract (↑off:Int).toNat s.size).size) (0:Int)) 5 c3 (c3+1))
noncomputable abbrev lX:List SV:=[(.fn (.func 199) [] []),(.fn (.func 200) [] []),(.fn (.func 201) [] [])]
noncomputable abbrev fA(x:PV)(k:Int):List SV:=[(.str x.name false),(.int .i64 k false),(.xs x.A x.n x.c),(.int .i64 (-1) true),(.bool x.path false),(.ifc 147 (.agg lX))]
noncomputable abbrev fB(s:ByteArray)(off:Nat):List SV:=[(.str s false),(.ptr 1 0),(.int .i64 ((↑off:Int)) false)]
noncomputable abbrev so(s:ByteArray)(off c3 k0_:Nat):SV:=(.slc k0_ 0 ((s.extract (↑off:Int).toNat s.size).size) c3 false false)
noncomputable abbrev oz(off:Nat)(s:ByteArray):Prop:=((0:Int)<=(↑off:Int)/\(↑off:Int)<=(↑s.size:Int))
noncomputable abbrev Av:ByteArray:=(ByteArray.mk #[99,111,109,112,111,110,101,110,116,32,115,105,122,101,32,109,105,115,109,97,116,99,104,58,32,33,61])
noncomputable abbrev oA(s:ByteArray)(x:PV)(c1:Nat):SObj:=(.ints .u8 (List.map (fun b=>(↑b.toNat:Int)) (#[].extract 0 0++s.data.extract (↑x.n:Int).toNat ((↑x.n:Int).toNat+(s.size-(↑x.n:Int).toNat))++#[].extract (0+min (s.size-(↑x.n:Int).toNat) (s.data.size-(↑x.n:Int).toNat)) 0).toList++List.replicate (c1-(s.extract (↑x.n:Int).toNat s.size).size) (0:Int)) 5 c1 (c1+1))
noncomputable abbrev lY(s:ByteArray)(x:PV)(c0:Nat):SObj:=(.ints .u8 (List.map (fun b=>(↑b.toNat:Int)) (#[].extract 0 0++s.data.extract 0 (0+((↑x.n:Int).toNat-0))++#[].extract (0+min ((↑x.n:Int).toNat-0) (s.data.size-0)) 0).toList++List.replicate (c0-(s.extract 0 (↑x.n:Int).toNat).size) (0:Int)) 5 c0 (c0+1))
noncomputable abbrev vI(s:ByteArray)(off:Nat)(x:PV)(k:Int)(c0 c1 c3 c5:Nat):List SObj:=[(.cells (fB s off) 3 64 0 0),(.cells (fA x k) 6 88 0 0),(lY s x c0),(oA s x c1),(oy s off c3),(.cells lX 3 147 0 0),(oy s off c5)]
theorem Pu(s:ByteArray)(off:Nat)(x:PV)(k:Int)(w:World)(bs:List Nat):al Tryz.prog ju 3000 91 [.ptr 0 0] (SS.mk (vO s off x k (-1) yO) [] true w bs) =
(.split (decide ((↑off:Int) > (↑s.size:Int))) (.leaf .ret [(.ifc 105 (.ptr 2 0))] (SS.mk [(.cells (fB s off) 3 64 0 0),(.cells (fA x k) 6 88 0 0),(.cells [(.str (ByteArray.mk #[99,111,109,112,111,110,101,110,116,32,118,97,108,117,101,83,116,97,114,116,73,100,120,32,105,115,32,103,114,101,97,116,101,114,32,116,104,97,110,32,116,104,101,32,108,101,110,103,116,104,32,111,102,32,116,104,101,32,99,111,109,112,111,110,101,110,116,39,115,32,98,121,116,101,115]) true)] 1 107 0 0)] [] true w bs)) (.split ((↑x.n:Int) == (0:Int)) (.leaf .ret [(.ifc 105 (.ptr 2 0))] (SS.mk [(.cells (fB s off) 3 64 0 0),(.cells (fA x k) 6 88 0 0),(.cells [(.str (ByteArray.mk #[67,111,109,112,111,110,101,110,116,32,105,115,32,109,105,115,115,105,110,103,32,105,116,115,32,112,114,111,116,111,99,111,108,39,115,32,86,67,111,100,101,32,102,105,101,108,100]) true)] 1 107 0 0)] [] true w bs)) (.split (decide ((↑s.size:Int)<(↑x.n:Int))) (.leaf .ret [(.ifc 105 (.ptr 2 0))] (SS.mk [(.cells (fB s off) 3 64 0 0),(.cells (fA x k) 6 88 0 0),(.cells [(.str Av true)] 1 107 0 0)] [] true w bs)) (.need ((0:Int)<=(↑x.n:Int)/\(↑x.n:Int)<=(↑s.size:Int)) (.choose (.appendCap ((s.extract 0 (↑x.n:Int).toNat).size) 0 5) fun c0=>(.need (x.A=x.A/\x.n=x.n/\x.c=x.c) (.need (0=0) (.need (0+(s.extract 0 (↑x.n:Int).toNat).size<=(List.map (fun b=>(↑b.toNat:Int)) (#[].extract 0 0++s.data.extract 0 (0+((↑x.n:Int).toNat-0))++#[].extract (0+min ((↑x.n:Int).toNat-0) (s.data.size-0)) 0).toList++List.replicate (c0-(s.extract 0 (↑x.n:Int).toNat).size) (0:Int)).length) (.need (canBytes w bs x.A x.n) (.split (!(bytesOf (List.take (s.extract 0 (↑x.n:Int).toNat).size (List.drop 0 (List.map (fun b=>(↑b.toNat:Int)) (#[].extract 0 0++s.data.extract 0 (0+((↑x.n:Int).toNat-0))++#[].extract (0+min ((↑x.n:Int).toNat-0) (s.data.size-0)) 0).toList++List.replicate (c0-(s.extract 0 (↑x.n:Int).toNat).size) (0:Int))))).toList == (bytesAt w x.A x.n).toList) (.leaf .ret [(.ifc 105 (.ptr 3 0))] (SS.mk [(.cells (fB s off) 3 64 0 0),(.cells (fA x k) 6 88 0 0),(lY s x c0),(.cells [(.str (ByteArray.mk #[99,111,109,112,111,110,101,110,116,39,115,32,86,67,111,100,101,32,102,105,101,108,100,32,105,115,32,105,110,118,97,108,105,100,58,32,33,61]) true)] 1 107 0 0)] [] true w bs)) (.need ((0:Int)<=(↑x.n:Int)/\(↑x.n:Int)<=(↑s.size:Int)) (.choose (.appendCap ((s.extract (↑x.n:Int).toNat s.size).size) 0 5) fun c1=>(.hc 96 [(.slc 3 0 ((s.extract (↑x.n:Int).toNat s.size).size) c1 false false)] (SS.mk [(.cells (fB s off) 3 64 0 0),(.cells (fA x k) 6 88 0 0),(lY s x c0),(oA s x c1)] [] true w bs) (ux) fun x2 w2 b2=>(.need (oz off s) (.split ((↑x2.size:Int) != (↑(s.extract (↑off:Int).toNat s.size).size:Int)) (.leaf .ret [(.ifc 105 (.ptr 4 0))] (SS.mk [(.cells (fB s off) 3 64 0 0),(.cells (fA x k) 6 88 0 0),(lY s x c0),(oA s x c1),(.cells [(.str (ByteArray.mk #[99,111,109,112,111,110,101,110,116,32,118,97,108,117,101,32,115,105,122,101,32,109,105,115,109,97,116,99,104,58,32,33,61]) true)] 1 107 0 0)] [] true w2 b2)) (.split (i64.wrap (i64.wrap ((↑x.n:Int)+(↑x2.n:Int))+(↑x2.size:Int)) != (↑s.size:Int)) (.leaf .ret [(.ifc 105 (.ptr 4 0))] (SS.mk [(.cells (fB s off) 3 64 0 0),(.cells (fA x k) 6 88 0 0),(lY s x c0),(oA s x c1),(.cells [(.str Av true)] 1 107 0 0)] [] true w2 b2)) (.need (oz off s) (.choose (.appendCap ((s.extract (↑off:Int).toNat s.size).size) 0 5) fun c3=>(.need (Fn.func 199=Fn.func 199) (.need (Fn.func 200=Fn.func 200) (.need (Fn.func 201=Fn.func 201) (.need (0=0) (.hc 200 [(so s off c3 4)] (SS.mk [(.cells (fB s off) 3 64 0 0),(.cells (fA x k) 6 88 0 0),(lY s x c0),(oA s x c1),(oy s off c3),(.cells lX 3 147 0 0)] [] true w2 b2) (c9) fun x4 w4 b4=>(.need (oz off s) (.choose (.appendCap ((s.extract (↑off:Int).toNat s.size).size) 0 5) fun c5=>(.need (Fn.func 199=Fn.func 199) (.need (Fn.func 200=Fn.func 200) (.need (Fn.func 201=Fn.func 201) (.need (0=0) (.hc 391 [(.agg lX),(so s off c5 6)] (SS.mk (vI s off x k c0 c1 c3 c5) [] true w4 b4) (cA) fun x6 w6 b6=>(.leaf .ret [(.one .nilIface rfl)] (SS.mk (vI s off x k c0 c1 c3 c5) [] true w6 b6)))))))))))))))))))))))))))))))):=by kernel_rfl
theorem vU(s:ByteArray)(off:Nat)(x:PV)(k:Int)(w:World)(bs:List Nat):(by have h:=Pu s off x k w bs;unfold vI lY oA Av oz so fB fA lX oy at h;exact type_of% h):=Pu s off x k w bs
noncomputable abbrev vH(s:ByteArray)(off:Nat)(x:PV)(k:Int)(c0:Nat):List SObj:=[(.cells (fB s off) 3 64 0 0),(.cells (fA x k) 6 88 0 0),(oy s off c0),(.cells lX 3 147 0 0)]
theorem OX(s:ByteArray)(off:Nat)(x:PV)(k:Int)(w:World)(bs:List Nat):al Tryz.prog ju 3000 72 [.ptr 0 0] (SS.mk (vO s off x k (-1) yO) [] true w bs) =
(.need (oz off s) (.choose (.appendCap ((s.extract (↑off:Int).toNat s.size).size) 0 5) fun c0=>(.need (Fn.func 199=Fn.func 199) (.need (Fn.func 200=Fn.func 200) (.need (Fn.func 201=Fn.func 201) (.need (0=0) (.hc 200 [(so s off c0 2)] (SS.mk (vH s off x k c0) [] true w bs) (c9) fun x1 w1 b1=>(.leaf .ret [(.tup [(.str x1 false),(.one .nilIface rfl)])] (SS.mk (vH s off x k c0) [] true w1 b1))))))))):=by kernel_rfl
theorem eU(s:ByteArray)(off:Nat)(x:PV)(k:Int)(w:World)(bs:List Nat):(by have h:=OX s off x k w bs;unfold vH oz so fB fA lX oy at h;exact type_of% h):=OX s off x k w bs
end
section
open Go Go.Rx Go.RowKit
theorem JW{β:Nat->Nat}{w:World}(x:PV)(kn:Nat)(l:List UInt8)(hn:Pth l)(hl:l.length<=2147483647)(hx:x.n=(uv kn).length)(hk:(uv kn).length<20)(hat:aH β (vO ⟨(uv kn++(uv l.length++l)).toArray⟩ ((uv kn).length+(uv l.length).length) x kn (-1) yO) w)(hlt:∀i,i<2->β i<w.heap.size)(hinj:∀i j,i<2->j<2->β i=β j->i=j)(hv:Bts w w.heap.size x.A x.n (uv kn))(hvn:∀ad,x.A=some ad->ad.block ∉ ac β 2)(ht:Tens w) :
  Calls Tryz.prog 91 #[.pointer (some ⟨β 0,0,none⟩)] w fun e w'=>e=.returned .nilIface/\Below w.heap.size w w':=by
 obtain⟨nm,A0,n0,cc,sz,pth,tr⟩:=x
 dsimp only at hx hv hvn
 subst hx
 obtain⟨o1,o2,o3⟩:=dS ⟨(uv kn++(uv l.length++l)).toArray⟩ ((uv kn).length+(uv l.length).length) ⟨nm,A0,(uv kn).length,cc,sz,pth,tr⟩ kn (-1) yO (by simp[yO,SV.ok,be])
 have hst:=St.head (P:=Tryz.prog) (Q:=bH fun v w'=>v=.nilIface/\Below w.heap.size w w') o1 hlt hinj hat o2
 refine(fV (hk:=ju) (n:=3000) (args:=[.ptr 0 0]) (Q:=fun v w'=>v=.nilIface/\Below w.heap.size w w') hst ⟨by simp[SV.ok,SS.n],trivial⟩ ?_).mono ?_
 rotate_left
 ·rintro e w' ⟨v,rfl,rfl,h2⟩
  exact⟨rfl,h2⟩
 have hp:=fv kn
 have hu:=iP 9 l.length (Nat.lt_of_le_of_lt hl (by decide))
 have hL:(uv kn++(uv l.length++l)).length=(uv kn).length+((uv l.length).length+l.length):=by simp
 refine ah (vU _ _ _ kn w (ac β 2)) ?_
 have m1:min (uv kn).length ((uv kn).length+((uv l.length).length+l.length))=(uv kn).length:=by omega
 have t2:List.take ((uv kn).length+((uv l.length).length+l.length)) (uv kn++(uv l.length++l))=uv kn++(uv l.length++l):=List.take_of_length_le (by simp)
 have t6:List.take ((uv kn).length+(uv l.length).length+l.length) (uv kn++(uv l.length++l))=uv kn++(uv l.length++l):=List.take_of_length_le (by simp;omega)
 have d2:List.drop ((uv kn).length+(uv l.length).length) (uv kn++(uv l.length++l))=l:=by rw[<- List.drop_drop,List.drop_left,List.drop_left]
 have t3:(uv kn).length+((uv l.length).length+l.length)-((uv kn).length+(uv l.length).length)=l.length:=by omega
 have t4:(uv kn).length+(uv l.length).length+((uv kn).length+((uv l.length).length+l.length)-((uv kn).length+(uv l.length).length))=(uv kn).length+((uv l.length).length+l.length):=by omega
 have t5:((((uv kn).length+(uv l.length).length:Nat)):Int).toNat=(uv kn).length+(uv l.length).length:=rfl
 simp only[jo,jp,aC,hL,Int.toNat_natCast,t5,m1,t4,t3,t2,t6,d2,Nat.sub_zero,Nat.zero_add,List.drop_zero,List.take_left,List.drop_left,Nat.min_self,Nat.add_sub_cancel_left,Nat.add_sub_cancel' (Nat.le_add_right _ _)]
 have below:∀ {Γ:Ctx}{β':Nat->Nat}{s:SS}{w':World},Γ={ P:=Tryz.prog,β0:=β,n0:=2,Q:=bH fun v w'=>v=.nilIface/\Below w.heap.size w w' }->St Γ β' s w'->s.objs.take 2=vO ⟨(uv kn++(uv l.length++l)).toArray⟩ ((uv kn).length+(uv l.length).length) ⟨nm,A0,(uv kn).length,cc,sz,pth,tr⟩ kn (-1) yO->Keep (ac β 2) w w'->Below w.heap.size w w':=by
  rintro Γ β' s w' rfl hs ho hk
  exact bp hk hat (hs.objsAt ho o2) o1 o3
 refine ak (fun h=>by omega) (fun _=>ae (fun h=>by have:=eq_of_beq h;omega) (fun _=>ak (fun h=>by omega) (fun _=>aa (by omega) (aD ?_))))
 rintro c0 ⟨_,hc0⟩
 refine aa (by simp) (aa trivial (aa (by simp) (aa (hv.canBytesN (Nat.le_refl _) hvn) (ae (fun h=>?_) (fun _=>?_)))))
 ·rw[hv.bytesAt,iB]at h
  simp at h
 refine aa (by omega) (aD ?_)
 rintro c1 ⟨_,hc1⟩
 refine cj (w:=w) (bs:=ac β 2) (R:=fun(z:RV) _ _=>z=⟨l.length,(uv l.length).length⟩) ⟨rfl,Keep.refl _ _,fun b hb=>.inl hb⟩ (fun x=>⟨rfl,trivial,trivial,trivial,trivial⟩) (fun β' wc hs o hk=>?_) ?_
 ·have h3:=br (n:=(uv l.length).length+l.length) (hs.at_ 3 _ rfl) (by simp) (hs.lt 3 (by simp[SS.n]))
  refine(f6 _ _ _ l.length l _ wc h3 (Nat.le_refl _) hl).mono ?_
  rintro e w' ⟨v,rfl,rfl,hb'⟩
  exact⟨⟨_,_⟩,rfl,hb',rfl⟩
 rintro x2 wc2 w2' b2 hk2 rfl hb2 hkw2 hbs2
 refine aa (by omega) (ae (fun h=>by simp at h) (fun _=>ae (fun h=>?_) (fun _=>aa (by omega) (aD ?_))))
 ·dsimp only at h
  rw[show i64.wrap (((uv kn).length:Int)+((uv l.length).length:Int))=(((uv kn).length+(uv l.length).length:Nat):Int) by rw[aq (by omega) (by omega)];omega,aq (by omega) (by omega)]at h
  have:=bne_iff_ne.1 h
  omega
 rintro c3 ⟨_,hc3⟩
 refine aa trivial (aa trivial (aa trivial (aa trivial ?_)))
 refine cj (w:=w) (bs:=ac β 2) (R:=fun(_:ByteArray) _ _=>True) ⟨rfl,hkw2,hbs2⟩ (fun x=>⟨rfl,trivial,trivial,trivial⟩) (fun β' wc hs o hk=>?_) ?_
 ·have h4:=br (n:=l.length) (hs.at_ 4 _ rfl) rfl (hs.lt 4 (by simp[SS.n]))
  refine(BI _ _ _ l _ wc h4 (Nat.le_refl _)).mono ?_
  rintro e w' ⟨v,rfl,rfl,hb'⟩
  exact⟨_,rfl,hb',trivial⟩
 rintro x4 wc4 w4 b4 hk4 _ hb4 hkw4 hbs4
 refine aa (by omega) (aD ?_)
 rintro c5 ⟨_,hc5⟩
 refine aa trivial (aa trivial (aa trivial (aa trivial ?_)))
 refine cj (w:=w) (bs:=ac β 2) (R:=fun(_:Unit) _ _=>True) ⟨rfl,hkw4,hbs4⟩ (fun x=>⟨rfl,trivial⟩) (fun β' wc hs o hk=>?_) ?_
 ·have h6:=br (n:=l.length) (hs.at_ 6 _ rfl) rfl (hs.lt 6 (by simp[SS.n]))
  refine(jR (.func 199) (.func 200) _ wc fun w1 hw1=>(BK _ _ _ l _ w1 (h6.below hw1 (Nat.le_refl _)) hw1.size hn (by omega)).mono (by rintro e w' ⟨v,rfl,rfl,hb'⟩;exact⟨rfl,hb'⟩)).mono ?_
  rintro e w' ⟨rfl,hb'⟩
  exact⟨(),rfl,hb',trivial⟩
 rintro x6 wc6 w6 b6 hk6 _ hb6 hkw6 hbs6
 exact aJ (w:=w) (bs:=ac β 2) ⟨rfl,hkw6,hbs6⟩ fun β' w' hs hk=>⟨_,rfl,rfl,below rfl hs rfl hk⟩
end
section
open Go Go.Rx Go.RowKit
theorem Je{β:Nat->Nat}{w:World}(x:PV)(kn:Nat)(pre:List UInt8)(a b:UInt8)(hat:aH β (vO ⟨(pre++[a,b]).toArray⟩ pre.length x kn 16 tq) w)(hlt:∀i,i<2->β i<w.heap.size)(hinj:∀i j,i<2->j<2->β i=β j->i=j)(ht:Tens w) :
  Calls Tryz.prog 72 #[.pointer (some ⟨β 0,0,none⟩)] w fun en w'=>en=.returned (.tuple #[.string ⟨(Lib.decDigits (a.toNat*256+b.toNat)).toArray⟩,.nilIface])/\Below w.heap.size w w':=by
 obtain⟨o1,o2,o3⟩:=dS ⟨(pre++[a,b]).toArray⟩ pre.length x kn 16 tq (by simp[tq,SV.ok,be])
 have hst:=St.head (P:=Tryz.prog) (Q:=bH fun v w'=>v=.tuple #[.string ⟨(Lib.decDigits (a.toNat*256+b.toNat)).toArray⟩,.nilIface]/\Below w.heap.size w w') o1 hlt hinj hat o2
 refine(fV (hk:=ju) (n:=3000) (args:=[.ptr 0 0]) (Q:=fun v w'=>v=.tuple #[.string ⟨(Lib.decDigits (a.toNat*256+b.toNat)).toArray⟩,.nilIface]/\Below w.heap.size w w') hst ⟨by simp[SV.ok,SS.n],trivial⟩ ?_).mono ?_
 rotate_left
 ·rintro e w' ⟨v,rfl,rfl,h2⟩
  exact⟨rfl,h2⟩
 have hL:(pre++[a,b]).length=pre.length+2:=by simp
 refine ah (eP _ _ _ kn w (ac β 2)) ?_
 have t2:List.take (pre.length+2) (pre++[a,b])=pre++[a,b]:=List.take_of_length_le (by simp)
 simp only[jo,jp,aC,hL,Int.toNat_natCast,t2,Nat.sub_zero,Nat.zero_add,List.drop_zero,List.take_left,List.drop_left,Nat.min_self,Nat.add_sub_cancel_left,Nat.add_sub_cancel' (Nat.le_add_right _ _)]
 have below:∀ {Γ:Ctx}{β':Nat->Nat}{s:SS}{w':World},Γ={ P:=Tryz.prog,β0:=β,n0:=2,Q:=bH fun v w'=>v=.tuple #[.string ⟨(Lib.decDigits (a.toNat*256+b.toNat)).toArray⟩,.nilIface]/\Below w.heap.size w w' }->St Γ β' s w'->s.objs.take 2=vO ⟨(pre++[a,b]).toArray⟩ pre.length x kn 16 tq->Keep (ac β 2) w w'->Below w.heap.size w w':=by
  rintro Γ β' s w' rfl hs ho hk
  exact bp hk hat (hs.objsAt ho o2) o1 o3
 refine aa (by omega) (aD ?_)
 rintro c0 ⟨_,hc0⟩
 have hcut:2<=c0:=hc0 ▸ bf
 refine aa trivial (aa trivial (aa trivial (aa trivial ?_)))
 refine cj (w:=w) (bs:=ac β 2) (R:=fun(s:ByteArray) _ _=>s=⟨(Lib.decDigits (a.toNat*256+b.toNat)).toArray⟩) ⟨rfl,Keep.refl _ _,fun b hb=>.inl hb⟩ (fun x=>⟨rfl,trivial,trivial,trivial⟩) (fun β' wc hs o hk=>?_) ?_
 ·have hbw:=below rfl hs rfl hk
  have hb:=br (n:=2) (hs.at_ 2 _ rfl) rfl (hs.lt 2 (by simp[SS.n]))
  refine(Bv _ _ a b _ wc hb (Nat.le_refl _) (ht.below hbw ht.lt)).mono ?_
  rintro e w' ⟨v,rfl,rfl,hb'⟩
  exact⟨_,rfl,hb',rfl⟩
 rintro x2 wc2 w2' b2 hk2 rfl hb2 hkw2 hbs2
 exact aJ (w:=w) (bs:=ac β 2) ⟨rfl,hkw2,hbs2⟩ fun β' w' hs hk=>⟨_,rfl,rfl,below rfl hs rfl hk⟩
end
section
open Go Go.Rx Go.RowKit
theorem Jb{β:Nat->Nat}{w:World}(x:PV)(kn:Nat)(pre:List UInt8)(a b c d:UInt8)(hat:aH β (vO ⟨(pre++[a,b,c,d]).toArray⟩ pre.length x kn 32 yp) w)(hlt:∀i,i<2->β i<w.heap.size)(hinj:∀i j,i<2->j<2->β i=β j->i=j)(ht:Tens w) :
  Calls Tryz.prog 72 #[.pointer (some ⟨β 0,0,none⟩)] w fun en w'=>en=.returned (.tuple #[.string ⟨(aE a b c d).toArray⟩,.nilIface])/\Below w.heap.size w w':=by
 obtain⟨o1,o2,o3⟩:=dS ⟨(pre++[a,b,c,d]).toArray⟩ pre.length x kn 32 yp (by simp[yp,SV.ok,be])
 have hst:=St.head (P:=Tryz.prog) (Q:=bH fun v w'=>v=.tuple #[.string ⟨(aE a b c d).toArray⟩,.nilIface]/\Below w.heap.size w w') o1 hlt hinj hat o2
 refine(fV (hk:=ju) (n:=3000) (args:=[.ptr 0 0]) (Q:=fun v w'=>v=.tuple #[.string ⟨(aE a b c d).toArray⟩,.nilIface]/\Below w.heap.size w w') hst ⟨by simp[SV.ok,SS.n],trivial⟩ ?_).mono ?_
 rotate_left
 ·rintro e w' ⟨v,rfl,rfl,h2⟩
  exact⟨rfl,h2⟩
 have hL:(pre++[a,b,c,d]).length=pre.length+4:=by simp
 refine ah (eF _ _ _ kn w (ac β 2)) ?_
 have t2:List.take (pre.length+4) (pre++[a,b,c,d])=pre++[a,b,c,d]:=List.take_of_length_le (by simp)
 simp only[jo,jp,aC,hL,Int.toNat_natCast,t2,Nat.sub_zero,Nat.zero_add,List.drop_zero,List.take_left,List.drop_left,Nat.min_self,Nat.add_sub_cancel_left,Nat.add_sub_cancel' (Nat.le_add_right _ _)]
 have below:∀ {Γ:Ctx}{β':Nat->Nat}{s:SS}{w':World},Γ={ P:=Tryz.prog,β0:=β,n0:=2,Q:=bH fun v w'=>v=.tuple #[.string ⟨(aE a b c d).toArray⟩,.nilIface]/\Below w.heap.size w w' }->St Γ β' s w'->s.objs.take 2=vO ⟨(pre++[a,b,c,d]).toArray⟩ pre.length x kn 32 yp->Keep (ac β 2) w w'->Below w.heap.size w w':=by
  rintro Γ β' s w' rfl hs ho hk
  exact bp hk hat (hs.objsAt ho o2) o1 o3
 refine aa (by omega) (aD ?_)
 rintro c0 ⟨_,hc0⟩
 have hcut:4<=c0:=hc0 ▸ bf
 refine aa trivial (aa trivial (aa trivial (aa trivial ?_)))
 refine cj (w:=w) (bs:=ac β 2) (R:=fun(s:ByteArray) _ _=>s=⟨(aE a b c d).toArray⟩) ⟨rfl,Keep.refl _ _,fun b hb=>.inl hb⟩ (fun x=>⟨rfl,trivial,trivial,trivial⟩) (fun β' wc hs o hk=>?_) ?_
 ·have hbw:=below rfl hs rfl hk
  have hb:=br (n:=4) (hs.at_ 2 _ rfl) rfl (hs.lt 2 (by simp[SS.n]))
  refine(DI _ _ _ a b c d _ wc hb hcut (Nat.le_refl _) (ht.below hbw ht.lt)).mono ?_
  rintro e w' ⟨v,rfl,rfl,hb'⟩
  exact⟨_,rfl,hb',rfl⟩
 rintro x2 wc2 w2' b2 hk2 rfl hb2 hkw2 hbs2
 exact aJ (w:=w) (bs:=ac β 2) ⟨rfl,hkw2,hbs2⟩ fun β' w' hs hk=>⟨_,rfl,rfl,below rfl hs rfl hk⟩
end
section
open Go Go.Rx Go.RowKit
theorem Jf{β:Nat->Nat}{w:World}(x:PV)(kn:Nat)(pre:List UInt8)(l:List UInt8)(hl:l.length=16)(hat:aH β (vO ⟨(pre++l).toArray⟩ pre.length x kn 128 yr) w)(hlt:∀i,i<2->β i<w.heap.size)(hinj:∀i j,i<2->j<2->β i=β j->i=j)(ht:Tens w) :
  Calls Tryz.prog 72 #[.pointer (some ⟨β 0,0,none⟩)] w fun en w'=>en=.returned (.tuple #[.string ⟨(pK l).toArray⟩,.nilIface])/\Below w.heap.size w w':=by
 obtain⟨o1,o2,o3⟩:=dS ⟨(pre++l).toArray⟩ pre.length x kn 128 yr (by simp[yr,SV.ok,be])
 have hst:=St.head (P:=Tryz.prog) (Q:=bH fun v w'=>v=.tuple #[.string ⟨(pK l).toArray⟩,.nilIface]/\Below w.heap.size w w') o1 hlt hinj hat o2
 refine(fV (hk:=ju) (n:=3000) (args:=[.ptr 0 0]) (Q:=fun v w'=>v=.tuple #[.string ⟨(pK l).toArray⟩,.nilIface]/\Below w.heap.size w w') hst ⟨by simp[SV.ok,SS.n],trivial⟩ ?_).mono ?_
 rotate_left
 ·rintro e w' ⟨v,rfl,rfl,h2⟩
  exact⟨rfl,h2⟩
 have hL:(pre++l).length=pre.length+l.length:=by simp
 refine ah (eS _ _ _ kn w (ac β 2)) ?_
 have t2:List.take (pre.length+l.length) (pre++l)=pre++l:=List.take_of_length_le (by simp)
 simp only[jo,jp,aC,hL,Int.toNat_natCast,t2,Nat.sub_zero,Nat.zero_add,List.drop_zero,List.take_left,List.drop_left,Nat.min_self,Nat.add_sub_cancel_left,Nat.add_sub_cancel' (Nat.le_add_right _ _)]
 have below:∀ {Γ:Ctx}{β':Nat->Nat}{s:SS}{w':World},Γ={ P:=Tryz.prog,β0:=β,n0:=2,Q:=bH fun v w'=>v=.tuple #[.string ⟨(pK l).toArray⟩,.nilIface]/\Below w.heap.size w w' }->St Γ β' s w'->s.objs.take 2=vO ⟨(pre++l).toArray⟩ pre.length x kn 128 yr->Keep (ac β 2) w w'->Below w.heap.size w w':=by
  rintro Γ β' s w' rfl hs ho hk
  exact bp hk hat (hs.objsAt ho o2) o1 o3
 refine aa (by omega) (aD ?_)
 rintro c0 ⟨_,hc0⟩
 have hcut:l.length<=c0:=hc0 ▸ bf
 refine aa trivial (aa trivial (aa trivial (aa trivial ?_)))
 refine cj (w:=w) (bs:=ac β 2) (R:=fun(s:ByteArray) _ _=>s=⟨(pK l).toArray⟩) ⟨rfl,Keep.refl _ _,fun b hb=>.inl hb⟩ (fun x=>⟨rfl,trivial,trivial,trivial⟩) (fun β' wc hs o hk=>?_) ?_
 ·have hbw:=below rfl hs rfl hk
  have hb:=br (n:=l.length) (hs.at_ 2 _ rfl) rfl (hs.lt 2 (by simp[SS.n]))
  refine(DL _ _ _ l _ wc hb hl hcut (Nat.le_refl _) (ht.below hbw ht.lt)).mono ?_
  rintro e w' ⟨v,rfl,rfl,hb'⟩
  exact⟨_,rfl,hb',rfl⟩
 rintro x2 wc2 w2' b2 hk2 rfl hb2 hkw2 hbs2
 exact aJ (w:=w) (bs:=ac β 2) ⟨rfl,hkw2,hbs2⟩ fun β' w' hs hk=>⟨_,rfl,rfl,below rfl hs rfl hk⟩
end
section
open Go Go.Rx Go.RowKit
theorem I9{β:Nat->Nat}{w:World}(x:PV)(kn:Nat)(pre:List UInt8)(a:UInt8)(hat:aH β (vO ⟨(pre++[a]).toArray⟩ pre.length x kn 8 yn) w)(hlt:∀i,i<2->β i<w.heap.size)(hinj:∀i j,i<2->j<2->β i=β j->i=j)(ht:Tens w) :
  Calls Tryz.prog 72 #[.pointer (some ⟨β 0,0,none⟩)] w fun en w'=>en=.returned (.tuple #[.string ⟨(cU a.toNat).toArray⟩,.nilIface])/\Below w.heap.size w w':=by
 obtain⟨o1,o2,o3⟩:=dS ⟨(pre++[a]).toArray⟩ pre.length x kn 8 yn (by simp[yn,SV.ok,be])
 have hst:=St.head (P:=Tryz.prog) (Q:=bH fun v w'=>v=.tuple #[.string ⟨(cU a.toNat).toArray⟩,.nilIface]/\Below w.heap.size w w') o1 hlt hinj hat o2
 refine(fV (hk:=ju) (n:=3000) (args:=[.ptr 0 0]) (Q:=fun v w'=>v=.tuple #[.string ⟨(cU a.toNat).toArray⟩,.nilIface]/\Below w.heap.size w w') hst ⟨by simp[SV.ok,SS.n],trivial⟩ ?_).mono ?_
 rotate_left
 ·rintro e w' ⟨v,rfl,rfl,h2⟩
  exact⟨rfl,h2⟩
 have hL:(pre++[a]).length=pre.length+1:=by simp
 refine ah (eC _ _ _ kn w (ac β 2)) ?_
 have t2:List.take (pre.length+1) (pre++[a])=pre++[a]:=List.take_of_length_le (by simp)
 simp only[jo,jp,aC,hL,Int.toNat_natCast,t2,Nat.sub_zero,Nat.zero_add,List.drop_zero,List.take_left,List.drop_left,Nat.min_self,Nat.add_sub_cancel_left,Nat.add_sub_cancel' (Nat.le_add_right _ _)]
 have below:∀ {Γ:Ctx}{β':Nat->Nat}{s:SS}{w':World},Γ={ P:=Tryz.prog,β0:=β,n0:=2,Q:=bH fun v w'=>v=.tuple #[.string ⟨(cU a.toNat).toArray⟩,.nilIface]/\Below w.heap.size w w' }->St Γ β' s w'->s.objs.take 2=vO ⟨(pre++[a]).toArray⟩ pre.length x kn 8 yn->Keep (ac β 2) w w'->Below w.heap.size w w':=by
  rintro Γ β' s w' rfl hs ho hk
  exact bp hk hat (hs.objsAt ho o2) o1 o3
 refine aa (by omega) (aD ?_)
 rintro c0 ⟨_,hc0⟩
 have hcut:1<=c0:=hc0 ▸ bf
 refine aa trivial (aa trivial (aa trivial (aa trivial ?_)))
 refine cj (w:=w) (bs:=ac β 2) (R:=fun(s:ByteArray) _ _=>s=⟨(cU a.toNat).toArray⟩) ⟨rfl,Keep.refl _ _,fun b hb=>.inl hb⟩ (fun x=>⟨rfl,trivial,trivial,trivial⟩) (fun β' wc hs o hk=>?_) ?_
 ·have hbw:=below rfl hs rfl hk
  have hb:=br (n:=1) (hs.at_ 2 _ rfl) rfl (hs.lt 2 (by simp[SS.n]))
  refine(AW _ _ a _ wc hb (Nat.le_refl _) (ht.below hbw ht.lt)).mono ?_
  rintro e w' ⟨v,rfl,rfl,hb'⟩
  exact⟨_,rfl,hb',rfl⟩
 rintro x2 wc2 w2' b2 hk2 rfl hb2 hkw2 hbs2
 exact aJ (w:=w) (bs:=ac β 2) ⟨rfl,hkw2,hbs2⟩ fun β' w' hs hk=>⟨_,rfl,rfl,below rfl hs rfl hk⟩
end
section
open Go Go.Rx Go.RowKit
theorem Jc{β:Nat->Nat}{w:World}(x:PV)(kn:Nat)(pre:List UInt8)(a b c d e f g h:UInt8)(hat:aH β (vO ⟨(pre++[a,b,c,d,e,f,g,h]).toArray⟩ pre.length x kn 64 yq) w)(hlt:∀i,i<2->β i<w.heap.size)(hinj:∀i j,i<2->j<2->β i=β j->i=j)(ht:Tens w) :
  Calls Tryz.prog 72 #[.pointer (some ⟨β 0,0,none⟩)] w fun en w'=>en=.returned (.tuple #[.string ⟨(Lib.decDigits (ft a b c d e f g h)).toArray⟩,.nilIface])/\Below w.heap.size w w':=by
 obtain⟨o1,o2,o3⟩:=dS ⟨(pre++[a,b,c,d,e,f,g,h]).toArray⟩ pre.length x kn 64 yq (by simp[yq,SV.ok,be])
 have hst:=St.head (P:=Tryz.prog) (Q:=bH fun v w'=>v=.tuple #[.string ⟨(Lib.decDigits (ft a b c d e f g h)).toArray⟩,.nilIface]/\Below w.heap.size w w') o1 hlt hinj hat o2
 refine(fV (hk:=ju) (n:=3000) (args:=[.ptr 0 0]) (Q:=fun v w'=>v=.tuple #[.string ⟨(Lib.decDigits (ft a b c d e f g h)).toArray⟩,.nilIface]/\Below w.heap.size w w') hst ⟨by simp[SV.ok,SS.n],trivial⟩ ?_).mono ?_
 rotate_left
 ·rintro e w' ⟨v,rfl,rfl,h2⟩
  exact⟨rfl,h2⟩
 have hL:(pre++[a,b,c,d,e,f,g,h]).length=pre.length+8:=by simp
 refine ah (eM _ _ _ kn w (ac β 2)) ?_
 have t2:List.take (pre.length+8) (pre++[a,b,c,d,e,f,g,h])=pre++[a,b,c,d,e,f,g,h]:=List.take_of_length_le (by simp)
 simp only[jo,jp,aC,hL,Int.toNat_natCast,t2,Nat.sub_zero,Nat.zero_add,List.drop_zero,List.take_left,List.drop_left,Nat.min_self,Nat.add_sub_cancel_left,Nat.add_sub_cancel' (Nat.le_add_right _ _)]
 have below:∀ {Γ:Ctx}{β':Nat->Nat}{s:SS}{w':World},Γ={ P:=Tryz.prog,β0:=β,n0:=2,Q:=bH fun v w'=>v=.tuple #[.string ⟨(Lib.decDigits (ft a b c d e f g h)).toArray⟩,.nilIface]/\Below w.heap.size w w' }->St Γ β' s w'->s.objs.take 2=vO ⟨(pre++[a,b,c,d,e,f,g,h]).toArray⟩ pre.length x kn 64 yq->Keep (ac β 2) w w'->Below w.heap.size w w':=by
  rintro Γ β' s w' rfl hs ho hk
  exact bp hk hat (hs.objsAt ho o2) o1 o3
 refine aa (by omega) (aD ?_)
 rintro c0 ⟨_,hc0⟩
 have hcut:8<=c0:=hc0 ▸ bf
 refine aa trivial (aa trivial (aa trivial (aa trivial ?_)))
 refine cj (w:=w) (bs:=ac β 2) (R:=fun(s:ByteArray) _ _=>s=⟨(Lib.decDigits (ft a b c d e f g h)).toArray⟩) ⟨rfl,Keep.refl _ _,fun b hb=>.inl hb⟩ (fun x=>⟨rfl,trivial,trivial,trivial⟩) (fun β' wc hs o hk=>?_) ?_
 ·have hbw:=below rfl hs rfl hk
  have hb:=br (n:=8) (hs.at_ 2 _ rfl) rfl (hs.lt 2 (by simp[SS.n]))
  refine(Ef _ _ a b c d e f g h _ wc hb (Nat.le_refl _) (ht.below hbw ht.lt)).mono ?_
  rintro e w' ⟨v,rfl,rfl,hb'⟩
  exact⟨_,rfl,hb',rfl⟩
 rintro x2 wc2 w2' b2 hk2 rfl hb2 hkw2 hbs2
 exact aJ (w:=w) (bs:=ac β 2) ⟨rfl,hkw2,hbs2⟩ fun β' w' hs hk=>⟨_,rfl,rfl,below rfl hs rfl hk⟩
end
section
open Go Go.Rx Go.RowKit
theorem Ja{β:Nat->Nat}{w:World}(x:PV)(kn:Nat)(pre:List UInt8)(l:List UInt8)(hat:aH β (vO ⟨(pre++l).toArray⟩ pre.length x kn (-1) yN) w)(hlt:∀i,i<2->β i<w.heap.size)(hinj:∀i j,i<2->j<2->β i=β j->i=j)(ht:Tens w) :
  Calls Tryz.prog 72 #[.pointer (some ⟨β 0,0,none⟩)] w fun en w'=>en=.returned (.tuple #[.string ⟨(l).toArray⟩,.nilIface])/\Below w.heap.size w w':=by
 obtain⟨o1,o2,o3⟩:=dS ⟨(pre++l).toArray⟩ pre.length x kn (-1) yN (by simp[yN,SV.ok,be])
 have hst:=St.head (P:=Tryz.prog) (Q:=bH fun v w'=>v=.tuple #[.string ⟨(l).toArray⟩,.nilIface]/\Below w.heap.size w w') o1 hlt hinj hat o2
 refine(fV (hk:=ju) (n:=3000) (args:=[.ptr 0 0]) (Q:=fun v w'=>v=.tuple #[.string ⟨(l).toArray⟩,.nilIface]/\Below w.heap.size w w') hst ⟨by simp[SV.ok,SS.n],trivial⟩ ?_).mono ?_
 rotate_left
 ·rintro e w' ⟨v,rfl,rfl,h2⟩
  exact⟨rfl,h2⟩
 have hL:(pre++l).length=pre.length+l.length:=by simp
 refine ah (eD _ _ _ kn w (ac β 2)) ?_
 have t2:List.take (pre.length+l.length) (pre++l)=pre++l:=List.take_of_length_le (by simp)
 simp only[jo,jp,aC,hL,Int.toNat_natCast,t2,Nat.sub_zero,Nat.zero_add,List.drop_zero,List.take_left,List.drop_left,Nat.min_self,Nat.add_sub_cancel_left,Nat.add_sub_cancel' (Nat.le_add_right _ _)]
 have below:∀ {Γ:Ctx}{β':Nat->Nat}{s:SS}{w':World},Γ={ P:=Tryz.prog,β0:=β,n0:=2,Q:=bH fun v w'=>v=.tuple #[.string ⟨(l).toArray⟩,.nilIface]/\Below w.heap.size w w' }->St Γ β' s w'->s.objs.take 2=vO ⟨(pre++l).toArray⟩ pre.length x kn (-1) yN->Keep (ac β 2) w w'->Below w.heap.size w w':=by
  rintro Γ β' s w' rfl hs ho hk
  exact bp hk hat (hs.objsAt ho o2) o1 o3
 refine aa (by omega) (aD ?_)
 rintro c0 ⟨_,hc0⟩
 have hcut:l.length<=c0:=hc0 ▸ bf
 refine aa trivial (aa trivial (aa trivial (aa trivial ?_)))
 refine cj (w:=w) (bs:=ac β 2) (R:=fun(s:ByteArray) _ _=>s=⟨(l).toArray⟩) ⟨rfl,Keep.refl _ _,fun b hb=>.inl hb⟩ (fun x=>⟨rfl,trivial,trivial,trivial⟩) (fun β' wc hs o hk=>?_) ?_
 ·have hbw:=below rfl hs rfl hk
  have hb:=br (n:=l.length) (hs.at_ 2 _ rfl) rfl (hs.lt 2 (by simp[SS.n]))
  refine(Ds _ _ _ l _ wc hb (Nat.le_refl _)).mono ?_
  rintro e w' ⟨v,rfl,rfl,hb'⟩
  exact⟨_,rfl,hb',rfl⟩
 rintro x2 wc2 w2' b2 hk2 rfl hb2 hkw2 hbs2
 exact aJ (w:=w) (bs:=ac β 2) ⟨rfl,hkw2,hbs2⟩ fun β' w' hs hk=>⟨_,rfl,rfl,below rfl hs rfl hk⟩
end
section
open Go Go.Rx Go.RowKit
theorem Jh{β:Nat->Nat}{w:World}(x:PV)(kn:Nat)(pre:List UInt8)(l:List UInt8)(hn:Nm l)(hat:aH β (vO ⟨(pre++l).toArray⟩ pre.length x kn (-1) yP) w)(hlt:∀i,i<2->β i<w.heap.size)(hinj:∀i j,i<2->j<2->β i=β j->i=j)(ht:Tens w) :
  Calls Tryz.prog 72 #[.pointer (some ⟨β 0,0,none⟩)] w fun en w'=>en=.returned (.tuple #[.string ⟨(l).toArray⟩,.nilIface])/\Below w.heap.size w w':=by
 obtain⟨o1,o2,o3⟩:=dS ⟨(pre++l).toArray⟩ pre.length x kn (-1) yP (by simp[yP,SV.ok,be])
 have hst:=St.head (P:=Tryz.prog) (Q:=bH fun v w'=>v=.tuple #[.string ⟨(l).toArray⟩,.nilIface]/\Below w.heap.size w w') o1 hlt hinj hat o2
 refine(fV (hk:=ju) (n:=3000) (args:=[.ptr 0 0]) (Q:=fun v w'=>v=.tuple #[.string ⟨(l).toArray⟩,.nilIface]/\Below w.heap.size w w') hst ⟨by simp[SV.ok,SS.n],trivial⟩ ?_).mono ?_
 rotate_left
 ·rintro e w' ⟨v,rfl,rfl,h2⟩
  exact⟨rfl,h2⟩
 have hL:(pre++l).length=pre.length+l.length:=by simp
 refine ah (eZ _ _ _ kn w (ac β 2)) ?_
 have t2:List.take (pre.length+l.length) (pre++l)=pre++l:=List.take_of_length_le (by simp)
 simp only[jo,jp,aC,hL,Int.toNat_natCast,t2,Nat.sub_zero,Nat.zero_add,List.drop_zero,List.take_left,List.drop_left,Nat.min_self,Nat.add_sub_cancel_left,Nat.add_sub_cancel' (Nat.le_add_right _ _)]
 have below:∀ {Γ:Ctx}{β':Nat->Nat}{s:SS}{w':World},Γ={ P:=Tryz.prog,β0:=β,n0:=2,Q:=bH fun v w'=>v=.tuple #[.string ⟨(l).toArray⟩,.nilIface]/\Below w.heap.size w w' }->St Γ β' s w'->s.objs.take 2=vO ⟨(pre++l).toArray⟩ pre.length x kn (-1) yP->Keep (ac β 2) w w'->Below w.heap.size w w':=by
  rintro Γ β' s w' rfl hs ho hk
  exact bp hk hat (hs.objsAt ho o2) o1 o3
 refine aa (by omega) (aD ?_)
 rintro c0 ⟨_,hc0⟩
 have hcut:l.length<=c0:=hc0 ▸ bf
 refine aa trivial (aa trivial (aa trivial (aa trivial ?_)))
 refine cj (w:=w) (bs:=ac β 2) (R:=fun(s:ByteArray) _ _=>s=⟨(l).toArray⟩) ⟨rfl,Keep.refl _ _,fun b hb=>.inl hb⟩ (fun x=>⟨rfl,trivial,trivial,trivial⟩) (fun β' wc hs o hk=>?_) ?_
 ·have hbw:=below rfl hs rfl hk
  have hb:=br (n:=l.length) (hs.at_ 2 _ rfl) rfl (hs.lt 2 (by simp[SS.n]))
  refine(BZ _ _ _ l _ wc hb (Nat.le_refl _) hn).mono ?_
  rintro e w' ⟨v,rfl,rfl,hb'⟩
  exact⟨_,rfl,hb',rfl⟩
 rintro x2 wc2 w2' b2 hk2 rfl hb2 hkw2 hbs2
 exact aJ (w:=w) (bs:=ac β 2) ⟨rfl,hkw2,hbs2⟩ fun β' w' hs hk=>⟨_,rfl,rfl,below rfl hs rfl hk⟩
end
section
open Go Go.Rx Go.RowKit
theorem Jg{β:Nat->Nat}{w:World}(x:PV)(kn:Nat)(pre:List UInt8)(l:List UInt8)(hat:aH β (vO ⟨(pre++l).toArray⟩ pre.length x kn (-1) yO) w)(hlt:∀i,i<2->β i<w.heap.size)(hinj:∀i j,i<2->j<2->β i=β j->i=j)(ht:Tens w) :
  Calls Tryz.prog 72 #[.pointer (some ⟨β 0,0,none⟩)] w fun en w'=>en=.returned (.tuple #[.string ⟨(l).toArray⟩,.nilIface])/\Below w.heap.size w w':=by
 obtain⟨o1,o2,o3⟩:=dS ⟨(pre++l).toArray⟩ pre.length x kn (-1) yO (by simp[yO,SV.ok,be])
 have hst:=St.head (P:=Tryz.prog) (Q:=bH fun v w'=>v=.tuple #[.string ⟨(l).toArray⟩,.nilIface]/\Below w.heap.size w w') o1 hlt hinj hat o2
 refine(fV (hk:=ju) (n:=3000) (args:=[.ptr 0 0]) (Q:=fun v w'=>v=.tuple #[.string ⟨(l).toArray⟩,.nilIface]/\Below w.heap.size w w') hst ⟨by simp[SV.ok,SS.n],trivial⟩ ?_).mono ?_
 rotate_left
 ·rintro e w' ⟨v,rfl,rfl,h2⟩
  exact⟨rfl,h2⟩
 have hL:(pre++l).length=pre.length+l.length:=by simp
 refine ah (eU _ _ _ kn w (ac β 2)) ?_
 have t2:List.take (pre.length+l.length) (pre++l)=pre++l:=List.take_of_length_le (by simp)
 simp only[jo,jp,aC,hL,Int.toNat_natCast,t2,Nat.sub_zero,Nat.zero_add,List.drop_zero,List.take_left,List.drop_left,Nat.min_self,Nat.add_sub_cancel_left,Nat.add_sub_cancel' (Nat.le_add_right _ _)]
 have below:∀ {Γ:Ctx}{β':Nat->Nat}{s:SS}{w':World},Γ={ P:=Tryz.prog,β0:=β,n0:=2,Q:=bH fun v w'=>v=.tuple #[.string ⟨(l).toArray⟩,.nilIface]/\Below w.heap.size w w' }->St Γ β' s w'->s.objs.take 2=vO ⟨(pre++l).toArray⟩ pre.length x kn (-1) yO->Keep (ac β 2) w w'->Below w.heap.size w w':=by
  rintro Γ β' s w' rfl hs ho hk
  exact bp hk hat (hs.objsAt ho o2) o1 o3
 refine aa (by omega) (aD ?_)
 rintro c0 ⟨_,hc0⟩
 have hcut:l.length<=c0:=hc0 ▸ bf
 refine aa trivial (aa trivial (aa trivial (aa trivial ?_)))
 refine cj (w:=w) (bs:=ac β 2) (R:=fun(s:ByteArray) _ _=>s=⟨(l).toArray⟩) ⟨rfl,Keep.refl _ _,fun b hb=>.inl hb⟩ (fun x=>⟨rfl,trivial,trivial,trivial⟩) (fun β' wc hs o hk=>?_) ?_
 ·have hbw:=below rfl hs rfl hk
  have hb:=br (n:=l.length) (hs.at_ 2 _ rfl) rfl (hs.lt 2 (by simp[SS.n]))
  refine(BI _ _ _ l _ wc hb (Nat.le_refl _)).mono ?_
  rintro e w' ⟨v,rfl,rfl,hb'⟩
  exact⟨_,rfl,hb',rfl⟩
 rintro x2 wc2 w2' b2 hk2 rfl hb2 hkw2 hbs2
 exact aJ (w:=w) (bs:=ac β 2) ⟨rfl,hkw2,hbs2⟩ fun β' w' hs hk=>⟨_,rfl,rfl,below rfl hs rfl hk⟩
end
section
open Go Go.Rx Go.RowKit
inductive Simple (k:Int):List UInt8->List UInt8->Prop
 |N (hk:k∈bc) (hs:(ai k).size=0) (hp:(ai k).path=false) (ht:∀β,xq.den β=(ai k).tr):Simple k [] []
 |P (hk:k∈bc) (hs:(ai k).size=16) (hp:(ai k).path=false) (ht:∀β,tq.den β=(ai k).tr) (a b:UInt8):Simple k [a,b] (Lib.decDigits (a.toNat*256+b.toNat))
 |F (hk:k∈bc) (hs:(ai k).size=32) (hp:(ai k).path=false) (ht:∀β,yp.den β=(ai k).tr) (a b c d:UInt8):Simple k [a,b,c,d] (aE a b c d)
 |S (hk:k∈bc) (hs:(ai k).size=128) (hp:(ai k).path=false) (ht:∀β,yr.den β=(ai k).tr) (l:List UInt8) (hl:l.length=16):Simple k l (pK l)
 |C (hk:k∈bc) (hs:(ai k).size=8) (hp:(ai k).path=false) (ht:∀β,yn.den β=(ai k).tr) (a:UInt8):Simple k [a] (cU a.toNat)
 |M (hk:k∈bc) (hs:(ai k).size=64) (hp:(ai k).path=false) (ht:∀β,yq.den β=(ai k).tr) (a b c d e f g h:UInt8):Simple k [a,b,c,d,e,f,g,h] (Lib.decDigits (ft a b c d e f g h))
 |D (hk:k∈bc) (hs:(ai k).size = -1) (hp:(ai k).path=false) (ht:∀β,yN.den β=(ai k).tr) (l:List UInt8) (hn:Nm l):Simple k l l
 |Z (hk:k∈bc) (hs:(ai k).size = -1) (hp:(ai k).path=false) (ht:∀β,yP.den β=(ai k).tr) (l:List UInt8) (hn:Nm l):Simple k l l
 |U (hk:k∈bc) (hs:(ai k).size = -1) (hp:(ai k).path=true) (ht:∀β,yO.den β=(ai k).tr) (l:List UInt8) (hn:Pth l):Simple k l l
theorem Simple.tab{k:Int}{val txt:List UInt8}(h:Simple k val txt):k∈bc:=by cases h <;> assumption
theorem tn:∀k∈bc,0<=k:=by decide
theorem rG:∀k∈bc,(ai k).vc=uv k.toNat:=by
 intro k hk
 simp only[bc,List.mem_cons,List.not_mem_nil,or_false]at hk
 rcases hk with rfl |rfl |rfl |rfl |rfl |rfl |rfl |rfl |rfl |rfl |rfl |rfl |rfl |rfl |rfl |rfl |rfl |rfl |rfl |rfl |rfl |rfl |rfl |rfl |rfl |rfl |rfl |rfl |rfl |rfl |rfl |rfl |rfl |rfl |rfl |rfl |rfl |rfl
 all_goals first
  |(rw[bO (by decide)];rfl)
  |(rw[cx (by decide),bO (by decide)];rfl)
  |(rw[cx (by decide),cx (by decide),cx (by decide),bO (by decide)];rfl)
def KV:Value->Bool
 | .int _ _=>true
 |_=>false
theorem MB:∀k∈bc,KV (ai k).tr=false:=by decide
theorem d6(k:Int)(hk:k∈bc):(uv k.toNat).length<20:=by
 rw[<- rG k hk]
 have:=dh k hk
 omega
theorem kj{k:Int}{val:List UInt8}(hk:k∈bc){n:Int}(hs:(ai k).size=n)(hn:0<=n):bW k val=uv k.toNat:=by
 unfold bW
 rw[hs,if_neg (by omega),List.append_nil,rG k hk]
theorem ud{k:Int}{val:List UInt8}(hk:k∈bc)(hs:(ai k).size = -1):bW k val=uv k.toNat++uv val.length:=by
 unfold bW
 rw[hs,if_pos (by omega),rG k hk]
def CAt(w:World)(B p:Nat)(k:Int)(val:List UInt8):Prop:=
 p<B/\∃b,w.heap[p]?=some (.cells #[.string ⟨(bW k val++val).toArray⟩,.pointer (some ⟨b,0,none⟩),.int .i64 ((bW k val).length:Int)] 64 (0,0))/\ProtB w B b k
theorem CAt.below{w w':World}{B B' p:Nat}{k:Int}{val:List UInt8}(h:CAt w B p k val)(hb:Below B w w')(hB:B<=B'):CAt w' B' p k val:=by
 obtain⟨h1,b,h2,h3⟩:=h
 exact⟨by omega,b,by rw[hb.block p h1];exact h2,h3.below hb hB⟩
theorem CAt.vO{w:World}{B p:Nat}{k:Int}{val:List UInt8}(h:CAt w B p k val)(hB:B<=w.heap.size)(hk:k∈bc){tr:SV}{n:Int}(hs:(ai k).size=n)(ht:∀β,tr.den β=(ai k).tr) :
  ∃(β:Nat->Nat) (x:PV),β 0=p/\x.n=(uv k.toNat).length/\aH β (vO ⟨(bW k val++val).toArray⟩ (bW k val).length x (k.toNat:Nat) n tr) w/\(∀i,i<2->β i<w.heap.size)/\(∀i j,i<2->j<2->β i=β j->i=j) /\
   Bts w w.heap.size x.A x.n (uv k.toNat)/\∀ad,x.A=some ad->ad.block ∉ ac β 2:=by
 obtain⟨h1,b,h2,hb,A,c,h3,h4,h5⟩:=h
 have hkk:((k.toNat:Nat):Int)=k:=Int.toNat_of_nonneg (tn k hk)
 have hne:b≠p:=fun e=>by
  subst e
  rw[h2]at h3
  have:=congrArg (fun o:Option Obj=>match o with |some (.cells cs _ _)=>cs.size |_=>0) h3
  simp at this
 have hlen:0<(ai k).vc.length:=(dh k hk).1
 refine⟨fun i=>if i=0 then p else b,⟨⟨(ai k).name.toArray⟩,A,(ai k).vc.length,c,(ai k).size,(ai k).path,⟨.nilIface,rfl⟩⟩,rfl,by rw[rG k hk],?_,?_,?_,?_,?_⟩
 ·intro i o hi
  match i,hi with
  |0,hi=>
   simp only[List.getElem?_cons_zero,Option.some.injEq]at hi
   subst hi
   exact⟨[],by simpa [af,SV.den] using h2,rfl⟩
  |1,hi=>
   simp only[List.getElem?_cons_succ,List.getElem?_cons_zero,Option.some.injEq]at hi
   subst hi
   refine⟨[],?_,rfl⟩
   rw[hs]at h3
   simpa [af,SV.den,ht,hkk] using h3
  |i+2,hi=>simp at hi
 ·intro i hi
  match i,hi with
  |0,_=>show p<_;omega
  |1,_=>show b<_;omega
  |i+2,hi=>omega
 ·intro i j hi hj he
  match i,j,hi,hj with
  |0,0,_,_=>rfl
  |1,1,_,_=>rfl
  |0,1,_,_=>exact absurd he.symm hne
  |1,0,_,_=>exact absurd he hne
  |i+2,_,hi,_=>omega
  |_,j+2,_,hj=>omega
 ·have:=h4.mono hB
  rw[rG k hk]at this ⊢
  exact this
 ·intro ad ha hm
  obtain⟨a,x,ha',_,_,hR⟩:=h4.get hlen
  have ha2:A=some ad:=ha
  rw[ha2]at ha'
  cases ha'
  have hR':w.cell? (ad.add 0)=some (.int .u8 (x.toNat:Int)):=hR
  rw[Rx.add_zero]at hR'
  have hm':ad.block=p∨ad.block=b:=by
   simp only[ac,List.mem_map,List.mem_range]at hm
   obtain⟨i,hi,e⟩:=hm
   match i,hi,e with
   |0,_,e=>exact .inl e.symm
   |1,_,e=>exact .inr e.symm
  have key:∀(cs:Array Value) (e:TypeId) (fr:Nat×Nat),w.heap[ad.block]?=some (.cells cs e fr)->(∃i:Nat,cs[i]?=some (.int .u8 (x.toNat:Int))):=by
   intro cs e fr hh
   simp only[World.cell?,hh]at hR'
   split at hR'
   ·cases hR'
   ·exact⟨_,hR'⟩
  rcases hm' with e |e
  ·rw[e]at key
   obtain⟨i,hi⟩:=key _ _ _ h2
   match i,hi with
   |0,hi=>simp at hi
   |1,hi=>simp at hi
   |2,hi=>simp at hi
   |i+3,hi=>simp at hi
  ·rw[e]at key
   obtain⟨i,hi⟩:=key _ _ _ h3
   match i,hi with
   |0,hi=>simp at hi
   |1,hi=>simp at hi
   |2,hi=>simp at hi
   |3,hi=>simp at hi
   |4,hi=>simp at hi
   |5,hi=>
    have hi':(ai k).tr=.int .u8 (x.toNat:Int):=by simpa using hi
    have:=MB k hk
    rw[hi']at this
    cases this
   |i+6,hi=>simp at hi
theorem Jd{β:Nat->Nat}{w:World}(x:PV)(kn:Nat)(pre:List UInt8)(hat:aH β (vO ⟨(pre++[]).toArray⟩ pre.length x kn 0 xq) w)(hlt:∀i,i<2->β i<w.heap.size)(hinj:∀i j,i<2->j<2->β i=β j->i=j) :
  Calls Tryz.prog 72 #[.pointer (some ⟨β 0,0,none⟩)] w fun en w'=>en=.returned (.tuple #[.string ⟨([]:List UInt8).toArray⟩,.nilIface])/\Below w.heap.size w w':=by
 obtain⟨o1,o2,o3⟩:=dS ⟨(pre++[]).toArray⟩ pre.length x kn 0 xq (by simp[xq,SV.ok,be])
 have hst:=St.head (P:=Tryz.prog) (Q:=bH fun v w'=>v=.tuple #[.string ⟨([]:List UInt8).toArray⟩,.nilIface]/\Below w.heap.size w w') o1 hlt hinj hat o2
 refine(fV (hk:=ju) (n:=3000) (args:=[.ptr 0 0]) (Q:=fun v w'=>v=.tuple #[.string ⟨([]:List UInt8).toArray⟩,.nilIface]/\Below w.heap.size w w') hst ⟨by simp[SV.ok,SS.n],trivial⟩ ?_).mono ?_
 rotate_left
 ·rintro e w' ⟨v,rfl,rfl,h2⟩
  exact⟨rfl,h2⟩
 refine ah (eN _ _ _ kn w (ac β 2)) ?_
 exact aJ (w:=w) (bs:=ac β 2) ⟨rfl,Keep.refl _ _,fun b hb=>.inl hb⟩ fun β' w' hs hk=>⟨_,rfl,rfl,bp hk hat (hs.objsAt rfl o2) o1 o3⟩
theorem BL{w:World}{B p:Nat}{k:Int}{val txt:List UInt8}(h:Simple k val txt)(hl:val.length<=2147483647)(hc:CAt w B p k val)(hB:B<=w.heap.size)(ht:Tens w) :
  Calls Tryz.prog 91 #[.pointer (some ⟨p,0,none⟩)] w fun e w'=>e=.returned .nilIface/\Below w.heap.size w w':=by
 cases h with
 |N hk hs hp htr=>
  obtain⟨β,x,rfl,h1,h2,h3,h4,h5,h6⟩:=hc.vO hB hk hs htr
  rw[kj hk hs (by decide)]at h2
  exact JT x k.toNat h1 (d6 k hk) h2 h3 h4 h5 h6 ht
 |P hk hs hp htr a b=>
  obtain⟨β,x,rfl,h1,h2,h3,h4,h5,h6⟩:=hc.vO hB hk hs htr
  rw[kj hk hs (by decide)]at h2
  exact JU x k.toNat a b h1 (d6 k hk) h2 h3 h4 h5 h6 ht
 |F hk hs hp htr a b c d=>
  obtain⟨β,x,rfl,h1,h2,h3,h4,h5,h6⟩:=hc.vO hB hk hs htr
  rw[kj hk hs (by decide)]at h2
  exact JR x k.toNat a b c d h1 (d6 k hk) h2 h3 h4 h5 h6 ht
 |S hk hs hp htr _ hl16=>
  obtain⟨β,x,rfl,h1,h2,h3,h4,h5,h6⟩:=hc.vO hB hk hs htr
  rw[kj hk hs (by decide)]at h2
  exact JV x k.toNat val hl16 h1 (d6 k hk) h2 h3 h4 h5 h6 ht
 |C hk hs hp htr a=>
  obtain⟨β,x,rfl,h1,h2,h3,h4,h5,h6⟩:=hc.vO hB hk hs htr
  rw[kj hk hs (by decide)]at h2
  exact JP x k.toNat a h1 (d6 k hk) h2 h3 h4 h5 h6 ht
 |M hk hs hp htr a b c d e f g h=>
  obtain⟨β,x,rfl,h1,h2,h3,h4,h5,h6⟩:=hc.vO hB hk hs htr
  rw[kj hk hs (by decide)]at h2
  exact JS x k.toNat a b c d e f g h h1 (d6 k hk) h2 h3 h4 h5 h6 ht
 |D hk hs hp htr _ hn=>
  obtain⟨β,x,rfl,h1,h2,h3,h4,h5,h6⟩:=hc.vO hB hk hs htr
  rw[ud hk hs,List.append_assoc,List.length_append]at h2
  exact JQ x k.toNat val hn hl h1 (d6 k hk) h2 h3 h4 h5 h6 ht
 |Z hk hs hp htr _ hn=>
  obtain⟨β,x,rfl,h1,h2,h3,h4,h5,h6⟩:=hc.vO hB hk hs htr
  rw[ud hk hs,List.append_assoc,List.length_append]at h2
  exact JX x k.toNat val hn hl h1 (d6 k hk) h2 h3 h4 h5 h6 ht
 |U hk hs hp htr _ hn=>
  obtain⟨β,x,rfl,h1,h2,h3,h4,h5,h6⟩:=hc.vO hB hk hs htr
  rw[ud hk hs,List.append_assoc,List.length_append]at h2
  exact JW x k.toNat val hn hl h1 (d6 k hk) h2 h3 h4 h5 h6 ht
theorem FV{w:World}{B p:Nat}{k:Int}{val txt:List UInt8}(h:Simple k val txt)(hc:CAt w B p k val)(hB:B<=w.heap.size)(ht:Tens w) :
  Calls Tryz.prog 72 #[.pointer (some ⟨p,0,none⟩)] w fun e w'=>e=.returned (.tuple #[.string ⟨txt.toArray⟩,.nilIface])/\Below w.heap.size w w':=by
 cases h with
 |N hk hs hp htr=>
  obtain⟨β,x,rfl,h1,h2,h3,h4,h5,h6⟩:=hc.vO hB hk hs htr
  exact Jd x k.toNat (bW k _) h2 h3 h4
 |P hk hs hp htr a b=>
  obtain⟨β,x,rfl,h1,h2,h3,h4,h5,h6⟩:=hc.vO hB hk hs htr
  exact Je x k.toNat (bW k _) a b h2 h3 h4 ht
 |F hk hs hp htr a b c d=>
  obtain⟨β,x,rfl,h1,h2,h3,h4,h5,h6⟩:=hc.vO hB hk hs htr
  exact Jb x k.toNat (bW k _) a b c d h2 h3 h4 ht
 |S hk hs hp htr _ hl16=>
  obtain⟨β,x,rfl,h1,h2,h3,h4,h5,h6⟩:=hc.vO hB hk hs htr
  exact Jf x k.toNat (bW k _) val hl16 h2 h3 h4 ht
 |C hk hs hp htr a=>
  obtain⟨β,x,rfl,h1,h2,h3,h4,h5,h6⟩:=hc.vO hB hk hs htr
  exact I9 x k.toNat (bW k _) a h2 h3 h4 ht
 |M hk hs hp htr a b c d e f g h=>
  obtain⟨β,x,rfl,h1,h2,h3,h4,h5,h6⟩:=hc.vO hB hk hs htr
  exact Jc x k.toNat (bW k _) a b c d e f g h h2 h3 h4 ht
 |D hk hs hp htr _ hn=>
  obtain⟨β,x,rfl,h1,h2,h3,h4,h5,h6⟩:=hc.vO hB hk hs htr
  exact Ja x k.toNat (bW k _) val h2 h3 h4 ht
 |Z hk hs hp htr _ hn=>
  obtain⟨β,x,rfl,h1,h2,h3,h4,h5,h6⟩:=hc.vO hB hk hs htr
  exact Jh x k.toNat (bW k _) val hn h2 h3 h4 ht
 |U hk hs hp htr _ hn=>
  obtain⟨β,x,rfl,h1,h2,h3,h4,h5,h6⟩:=hc.vO hB hk hs htr
  exact Jg x k.toNat (bW k _) val h2 h3 h4 ht
end
section
open Go Go.RowKit
theorem OJ:Tryz.prog.underlying 91=some (.pointer 93):=by kernel_rfl
theorem ME:Tryz.prog.underlying 143=some .unsafePointer:=by kernel_rfl
theorem qG(b:Nat)(w:World)(h0:w.cell? ⟨b,0,none⟩=some (.pointer (some ⟨b,0,none⟩))) :
  Calls Tryz.prog 135 #[.pointer (some ⟨b,0,none⟩)] w fun e w'=>e=.returned (.tuple #[])/\w'=w:=by
 obtain⟨j,hj⟩:∃j,Tryz.prog.info? 93=some j:=⟨_,rfl⟩
 go_enter Tryz.func135,Tryz.ntmps135
 go_wp2
 rw[Lib.run_neq_ptr_same w _ OJ hj]
 go_wp2
 simp[bodyPost,results,Tryz.results135,go_sem]
theorem pm(b:Nat)(w:World)(h0:w.cell? ⟨b,0,none⟩=some (.pointer none))(hsh:w.shape? b=some (93,2))(hfz:w.frozen? ⟨b,0,none⟩=false) :
  Calls Tryz.prog 135 #[.pointer (some ⟨b,0,none⟩)] w fun e w'=>e=.returned (.tuple #[])/\w'=w.setCell ⟨b,0,none⟩ (.pointer (some ⟨b,0,none⟩)):=by
 obtain⟨j,hj,hjs⟩:∃j,Tryz.prog.info? 93=some j/\j.size≠0:=⟨_,rfl,by decide⟩
 go_enter Tryz.func135,Tryz.ntmps135
 go_wp2
 rw[Lib.run_to_unsafe w ⟨b,0,none⟩ OJ ME hj hjs hsh (Nat.zero_lt_succ 1)]
 simp only[Result.andThen]
 rw[Oper.upon_value]
 go_wp2
 rw[run_callFunc_extern Tryz.func159 (by kernel_rfl) (by kernel_rfl) (by kernel_rfl) (e:=Extern.AbiNoEscape.same) (by kernel_rfl)]
 rw[Lib.run_noEscape]
 simp only[Result.andThen]
 rw[Oper.upon_value]
 go_wp2
 rw[Lib.run_from_unsafe w ⟨b,0,none⟩ ME OJ hj hsh (by kernel_rfl)]
 simp only[Result.andThen]
 rw[Oper.upon_value]
 go_wp2
 simp[bodyPost,results,Tryz.results135,go_sem]
theorem oJ(B b:Nat)(bs:List Value)(w:World)(h:Lib.IsBuilder 93 5 B b bs w) :
  Calls Tryz.prog 135 #[.pointer (some ⟨b,0,none⟩)] w fun e w'=>e=.returned (.tuple #[])/\(Lib.BuilderAt 93 5 B b (.pointer (some ⟨b,0,none⟩)) bs w'/\Below B w w'):=by
 rcases h with h |h
 ·refine(pm b w h.cell0 h.shape h.frozen0).mono ?_
  rintro e w' ⟨rfl,rfl⟩
  exact⟨rfl,h.used _,(Below.refl B w).setCell (p:=⟨b,0,none⟩) h.1 _⟩
 ·refine(qG b w h.cell0).mono ?_
  rintro e w' ⟨rfl,rfl⟩
  exact⟨rfl,h,Below.refl B _⟩
theorem xH:(Tryz.prog.info? 5).map (fun i=>(i.zero,i.size,i.bytes))=some (some (.int .u8 0),1,1):=by kernel_rfl
theorem o9(B b:Nat)(bs:List Value)(c:Int)(w:World)(h:Lib.IsBuilder 93 5 B b bs w)(hlen:bs.length+1<=140737488355328)(hBw:B<=w.heap.size) :
  Calls Tryz.prog 86 #[.pointer (some ⟨b,0,none⟩),.int .u8 c] w fun e w'=>e=.returned .nilIface/\(Lib.BuilderAt 93 5 B b (.pointer (some ⟨b,0,none⟩)) (bs++[.int .u8 c]) w'/\Below B w w'):=by
 obtain⟨i0,hi,hz0,hz1,hz2⟩:=info_parts xH
 go_enter Tryz.func86,Tryz.ntmps86
 go_wp2_with fail
 refine(oJ B b bs _ h).mono ?_
 rintro e w1 ⟨rfl,h1,hb1⟩
 obtain⟨hB,v,hbk,hown,hne⟩:=h1
 have c0:w1.cell? ⟨b,0,none⟩=some (.pointer (some ⟨b,0,none⟩)):=by rw[Lib.cell_of_heap hbk];rfl
 have c1:w1.cell? ⟨b,1,none⟩=some v:=by rw[Lib.cell_of_heap hbk];rfl
 go_wp2_with (at_builtin;refine wpList_append_own _ rfl _ _ 22 rfl B 5 i0 (.int .u8 0) 1 1 Tryz.underlying22 hi hz0 hz1 hz2 rfl (by decide) _ _ _ rfl (hown.alloc _) ⟨w1.heap.size,0,none⟩ 1 1 [.int .u8 c] rfl rfl ?c1 ?c2 ?c3 ?c4 ?c5 ?_)
 case c1=>
  intro j u hj
  match j,hj with
  |0,hj=>simp at hj;subst hj;simp[Addr.add]
 case c2=>intro u hu;simp at hu;subst hu;rfl
 case c3=>unfold maxLen;omega
 case c4=>omega
 case c5=>have:=hb1.size;simp;omega
 intro v' w2 hown' hgrow _
 have hlt:b<w1.heap.size:=by
  rcases Nat.lt_or_ge b w1.heap.size with h' |h'
  ·exact h'
  ·simp[Array.getElem?_eq_none h']at hbk
 have hb2:w2.heap[b]?=some (.cells #[.pointer (some ⟨b,0,none⟩),v] 93 (0,0)):=by
  rw[hgrow.block b (by simp;omega) (fun e=>hne e.symm),Lib.alloc_old w1 _ b hlt]
  exact hbk
 have d0:w2.cell? ⟨b,0,none⟩=some (.pointer (some ⟨b,0,none⟩)):=by rw[Lib.cell_of_heap hb2];rfl
 have d1:w2.cell? ⟨b,1,none⟩=some v:=by rw[Lib.cell_of_heap hb2];rfl
 have f1:w2.frozen? ⟨b,1,none⟩=false:=Lib.frozen_of_heap hb2 1
 obtain⟨g,cap,rfl⟩:∃g cap,v'=.slice (some ⟨g,0,none⟩) (bs.length+1) cap:=by
  rcases hown'.2 with⟨_,h0⟩ |⟨g,cap,cur,hv,_⟩
  ·omega
  ·exact⟨g,cap,hv⟩
 go_wp2
 go_ret
 refine⟨rfl,?_,?_⟩
 ·exact Lib.BuilderAt.put (T:=93) (e:=5) hB hb2 (bs':=bs++[.int .u8 c]) (by simpa using hown') (by decide)
 ·exact((hb1.alloc (by have:=hb1.size;omega) _).grown hgrow (by have:=hb1.size;simp;omega) (fun k hk=>(hown.lt k hk).1)).setCell (p:=⟨b,1,none⟩) hB _
theorem gU(B b:Nat)(bs:List Value)(s:ByteArray)(w:World)(h:Lib.IsBuilder 93 5 B b bs w)(hlen:bs.length+s.size<=140737488355328)(hBw:B<=w.heap.size) :
  Calls Tryz.prog 87 #[.pointer (some ⟨b,0,none⟩),.string s] w fun e w'=>e=.returned (.tuple #[.int .i64 s.size,.nilIface])/\(Lib.BuilderAt 93 5 B b (.pointer (some ⟨b,0,none⟩)) (bs++Lib.strCells s) w'/\Below B w w'):=by
 obtain⟨i0,hi,hz0,hz1,hz2⟩:=info_parts xH
 go_enter Tryz.func87,Tryz.ntmps87
 go_wp2_with fail
 refine(oJ B b bs _ h).mono ?_
 rintro e w1 ⟨rfl,h1,hb1⟩
 obtain⟨hB,v,hbk,hown,hne⟩:=h1
 have c0:w1.cell? ⟨b,0,none⟩=some (.pointer (some ⟨b,0,none⟩)):=by rw[Lib.cell_of_heap hbk];rfl
 have c1:w1.cell? ⟨b,1,none⟩=some v:=by rw[Lib.cell_of_heap hbk];rfl
 go_wp2_with (at_builtin;refine Lib.wpList_append_own_string _ rfl _ _ 22 9 rfl B 5 i0 Tryz.underlying22 Tryz.underlying9 hi hz0 hz1 hz2 _ _ _ rfl hown s rfl ?c3 ?c4 ?c5 ?_)
 case c3=>unfold maxLen;omega
 case c4=>omega
 case c5=>have:=hb1.size;omega
 intro v' w2 hown' hgrow _
 have hlt:b<w1.heap.size:=by
  rcases Nat.lt_or_ge b w1.heap.size with h' |h'
  ·exact h'
  ·simp[Array.getElem?_eq_none h']at hbk
 have hb2:w2.heap[b]?=some (.cells #[.pointer (some ⟨b,0,none⟩),v] 93 (0,0)):=by
  rw[hgrow.block b hlt (fun e=>hne e.symm)]
  exact hbk
 have d0:w2.cell? ⟨b,0,none⟩=some (.pointer (some ⟨b,0,none⟩)):=by rw[Lib.cell_of_heap hb2];rfl
 have d1:w2.cell? ⟨b,1,none⟩=some v:=by rw[Lib.cell_of_heap hb2];rfl
 have f1:w2.frozen? ⟨b,1,none⟩=false:=Lib.frozen_of_heap hb2 1
 obtain⟨ao,n',cap,rfl⟩:∃ao n' cap,v'=.slice ao n' cap:=by
  rcases hown'.2 with⟨hv,_⟩ |⟨g,cap,cur,hv,_⟩
  ·exact⟨_,_,_,hv⟩
  ·exact⟨_,_,_,hv⟩
 go_wp2
 go_ret2
 refine⟨rfl,?_,?_⟩
 ·exact Lib.BuilderAt.put (T:=93) (e:=5) hB hb2 (bs':=bs++Lib.strCells s) (by simpa [Lib.strCells_length] using hown') (by decide)
 ·exact(hb1.grown hgrow (by have:=hb1.size;omega) (fun k hk=>(hown.lt k hk).1)).setCell (p:=⟨b,1,none⟩) hB _
end
section
open Go Go.RowKit Go.Rx
theorem uo{w:World}{B:Nat}{v:Value}{l:List UInt8}(h:w.ownsRow B 5 1 v l.length (l.map fun b=>Value.int .u8 (b.toNat:Int)))(hl:l≠[]):∃b c,v=.slice (some ⟨b,0,none⟩) l.length c/\l.length<=c/\Bts w w.heap.size (some ⟨b,0,none⟩) l.length l/\B<=b:=by
 rcases h.2 with⟨_,h0⟩ |⟨b,c,cur,rfl,hB,hg,hc,_,hsz,htk⟩
 ·exact absurd (List.eq_nil_of_length_eq_zero h0) hl
 ·have hblt:b<w.heap.size:=by
   rcases Nat.lt_or_ge b w.heap.size with h' |h'
   ·exact h'
   ·rw[Array.getElem?_eq_none h']at hg;cases hg
  refine⟨b,c,rfl,hc,⟨rfl,fun _=>⟨_,rfl,hblt,fun i x hi=>?_⟩⟩,hB⟩
  have ha:(Addr.add ⟨b,0,none⟩ (i*1))=⟨b,i,none⟩:=by unfold Addr.add;split <;> simp_all
  have hil:i<l.length:=(List.getElem?_eq_some_iff.1 hi).1
  rw[ha]
  show w.cell? _=_
  rw[Lib.cell_of_heap hg]
  have e1:(cur.toList.take (l.length*1))[i]?=cur.toList[i]?:=by rw[List.getElem?_take,if_pos (by omega)]
  rw[<- Array.getElem?_toList,<- e1,htk,List.getElem?_map,hi]
  rfl
theorem CZ(n:Nat)(hn:n<2^63):(uv n).length<=10:=by
 have h:∀(r n:Nat),n<128^r->(uv n).length<=r+1:=by
  intro r
  induction r with
  |zero=>intro n hn;rw[bO (by simpa using Nat.lt_of_lt_of_le hn (by decide:128^0<=128))];simp
  |succ r ih=>
   intro n hn
   by_cases h:n<128
   ·rw[bO h];simp
   ·rw[cx h]
    have:=ih (n/128) (Nat.div_lt_of_lt_mul (by rw[Nat.pow_succ]at hn;omega))
    simp only[List.length_cons]
    omega
 exact h 9 n (Nat.lt_of_lt_of_le hn (by decide))
theorem Eo{m:Nat}{l bs:List UInt8}{w:World}{B:Nat}{v:Value}(hm:m<128)(huv:l=bs++uv m)(h:w.ownsRow B 5 1 v (bs.length+1) (bs.map (fun b=>Value.int .u8 (b.toNat:Int))++[.int .u8 (m:Int)])) :
  ∃b c,v=.slice (some ⟨b,0,none⟩) l.length c/\l.length<=c/\Bts w w.heap.size (some ⟨b,0,none⟩) l.length l/\B<=b:=by
 rw[bO hm]at huv
 refine uo ?_ (by rw[huv];simp)
 rw[huv,List.map_append,List.length_append]
 have e:(UInt8.ofNat m).toNat=m:=by rw[UInt8.toNat_ofNat'];omega
 simp only[List.map_cons,List.map_nil,List.length_cons,List.length_nil,e]
 exact h
theorem Ep{m n:Nat}{bs:List UInt8}{w w0:World}{B:Nat}{v:Value}(hm:¬m<128)(hmn:m<=n)(huv:uv n=bs++uv m)(h:w.ownsRow B 5 1 v (bs.length+1) (bs.map (fun b=>Value.int .u8 (b.toNat:Int))++[.int .u8 ((m:Int)%128+128)]))(hb:Below B w0 w) :
  ∃(m':Nat) (bs':List UInt8),Value.int .u64 ((m:Int)/128)=.int .u64 (m':Int)/\m'<=n/\uv n=bs'++uv m'/\w.ownsRow B 5 1 v bs'.length (bs'.map fun b=>Value.int .u8 (b.toNat:Int))/\Below B w0 w:=by
 refine⟨m/128,bs++[UInt8.ofNat (m%128+128)],rfl,by omega,by rw[huv,cx hm];simp,?_,hb⟩
 have e:(UInt8.ofNat (m%128+128)).toNat=m%128+128:=by rw[UInt8.toNat_ofNat'];omega
 simp only[List.map_append,List.length_append,List.map_cons,List.map_nil,List.length_cons,List.length_nil,e]
 exact h
theorem rd(n:Nat)(hn:n<2^63)(w:World):Calls Tryz.prog 51 #[.int .u64 (n:Int)] w (bB (fun v w'=>∃b c,v=.slice (some ⟨b,0,none⟩) (uv n).length c/\(uv n).length<=c/\Bts w' w'.heap.size (some ⟨b,0,none⟩) (uv n).length (uv n)/\w.heap.size<=b) w):=by
 obtain⟨i0,hi,hz0,hz1,hz2⟩:=info_parts xH
 go_enter Tryz.func51,Tryz.ntmps51
 go_wp2
 go_loopw [0,3] (fun k v wr=>∃(m:Nat) (bs:List UInt8),k=.int .u64 (m:Int)/\m<=n/\uv n=bs++uv m/\wr.ownsRow w.heap.size 5 1 v bs.length (bs.map fun b=>Value.int .u8 (b.toNat:Int))/\Below w.heap.size w wr)
  (fun k _ _=>(intOf k).toNat)
 case atStart=>exact⟨n,[],rfl,Nat.le_refl _,rfl,World.ownsRow_nil _ _ _ _,Below.refl _ _⟩
 case round=>
  obtain⟨m,bs,rfl,hmn,huv,hown,hnx⟩:=hrel
  have hz:=hnx.size
  have hbl:bs.length<=(uv n).length:=by rw[huv];simp
  have hl10:=CZ n hn
  by_cases hm:m<128
  ·have hmi:((m:Int)<128):=by omega
   go_wp2_with (at_builtin;refine wpList_append_own _ rfl _ _ 22 rfl w.heap.size 5 i0 (.int .u8 0) 1 1 Tryz.underlying22 hi hz0 hz1 hz2 rfl (by decide) _ _ _ rfl (hown.alloc _) ⟨wr.heap.size,0,none⟩ 1 1 [.int .u8 (m:Int)] rfl rfl ?c1 ?c2 ?c3 ?c4 ?c5 ?_)
   case c1=>
    intro j u hj
    match j,hj with
    |0,hj=>simp at hj;subst hj;simp[Addr.add]
   case c2=>intro u hu;simp at hu;subst hu;rfl
   case c3=>unfold maxLen;omega
   case c4=>omega
   case c5=>simp;omega
   intro v' w2 hown' hgrow _
   go_wp2
   go_ret
   exact⟨_,rfl,Eo hm huv hown',(hnx.alloc (by omega) _).grown hgrow (by simp;omega) (fun k hk=>(hown.lt k hk).1)⟩
  ·have hmi:¬((m:Int)<128):=by omega
   go_wp2_with (at_builtin;refine wpList_append_own _ rfl _ _ 22 rfl w.heap.size 5 i0 (.int .u8 0) 1 1 Tryz.underlying22 hi hz0 hz1 hz2 rfl (by decide) _ _ _ rfl (hown.alloc _) ⟨wr.heap.size,0,none⟩ 1 1 [.int .u8 ((m:Int)%128+128)] rfl rfl ?c1 ?c2 ?c3 ?c4 ?c5 ?_)
   case c2=>rfl
   case c3=>unfold maxLen;omega
   case c4=>omega
   case c5=>omega
   intro v' w2 hown' hgrow _
   go_wp2
   go_roundw
   case rel=>exact Ep hm hmn huv hown' ((hnx.alloc (by omega) _).grown hgrow (by simp;omega) (fun k hk=>(hown.lt k hk).1))
   case measure=>
    show((m:Int)/128).toNat<(m:Int).toNat
    omega
end
section
open Go Go.Rx Go.RowKit
def Dd:SE->List Nat
 | .normal=>[0,3]
 | .exit _=>[3]
 |_=>[]
def xQ:LoopHook:=cl 25 ByteArray (.exit 0) [3] (fun s=>[.str s false]) Unit .ret [] (fun _=>[])
def GX:Hooks:={ calls:=fun _=>none,loops:=fun _ _=>some xQ }
def Df:SE->List Nat
 | .normal=>[3,6,7,8]
 | .exit _=>[3]
 |_=>[]
def xS:LoopHook:=cl 19 Nat (.exit 0) [3] (fun n=>[.int .u64 n false]) Unit .ret [] (fun _=>[])
def G4:Hooks:={ calls:=fun _=>none,loops:=fun _ _=>some xS }
def xx:SE->List Nat
 | .normal=>[3,6,7,8]
 | .exit _=>[3]
 |_=>[]
def qY:LoopHook:=cl 24 ByteArray (.exit 0) [3] (fun s=>[.str s false]) Unit .ret [] (fun _=>[])
def uf:Hooks:={ calls:=fun f=>if f=49 then some aR else none,loops:=fun _ _=>some qY }
def De:SE->List Nat
 | .normal=>[0,3,4]
 | .exit _=>[3]
 |_=>[]
def xR:LoopHook:=cl 21 ByteArray (.exit 0) [3] (fun s=>[.str s false]) Unit .ret [] (fun _=>[])
def GY:Hooks:={ calls:=fun _=>none,loops:=fun _ _=>some xR }
noncomputable abbrev iX(n:Nat):Int:=(u64.wrap ((48:Int)+(↑n:Int).tmod (10:Int)))
noncomputable abbrev m4(n:Nat):SV:=(.int .u64 (u64.wrap ((↑n:Int).tdiv (10:Int))) false)
noncomputable abbrev uW(n:Nat):List SV:=([(m4 n),(.tup []),(.str (ByteArray.mk #[]) true),(.str (bytesOf [u8.wrap (iX n)]) false),(.int .u64 ((↑n:Int)) false),(.int .u64 ((↑n:Int).tmod (10:Int)) false),(.int .u64 (iX n) false),(.int .u8 (u8.wrap (iX n)) false),(.slc 0 0 1 1 true true),(.str (bytesOf [u8.wrap (iX n)]) false),(.int .u64 ((↑n:Int)) false),(m4 n)]++List.replicate 13 az)
noncomputable abbrev ka(n:Nat):SObj:=(.cells [(.int .u8 (u8.wrap (iX n)) false)] 1 5 0 0)
theorem Ir(n:Nat)(w:World):al Tryz.prog GX 1000 49 [.int .u64 n false] (SS.at w) =
(.loop 49 (av Tryz.prog 49 4) (uW n) (SS.mk [(ka n)] [] true w []) (LoopHook.X (xQ)) (LoopHook.out (xQ) (uW n) (SS.mk [(ka n)] [] true w [])) (fun x0 w0 b0=>(.leaf .ret [(.str x0.fst false)] (SS.mk [(ka n)] [] true w0 b0))) (LoopHook.Y (xQ)) (LoopHook.out' (xQ) (uW n) (SS.mk [(ka n)] [] true w [])) (fun x0 w0 b0=>(.leaf .ret [(.raw (x0.snd 2))] (SS.mk [(ka n)] [] true w0 b0)))):=by kernel_rfl
theorem OC(n:Nat)(w:World):(by have h:=Ir n w;unfold ka uW m4 iX at h;exact type_of% h):=Ir n w
theorem Ib(n:Nat)(s:ByteArray)(w:World)(g:Nat->Value):aO Tryz.prog ar 1000 49 (av Tryz.prog 49 4) (ay ((Dd .normal).zip [.int .u64 n false,.str s false]) g 25 0) (fun e a s=>.leaf e (fG Dd e a) s) (SS.at w) =
(.split (decide ((↑n:Int) > (0:Int))) (.need ((↑((bytesOf [u8.wrap (iX n)]).size+s.size):Int)<=i64.max) (.leaf .normal [(m4 n),(.str (bytesOf [u8.wrap (iX n)]++s) false)] (SS.mk [(ka n)] [] true w []))) (.leaf (.exit 0) [(.str s false)] (SS.mk [] [] true w []))):=by kernel_rfl
theorem Og(n:Nat)(s:ByteArray)(w:World)(g:Nat->Value):(by have h:=Ib n s w g;unfold m4 ka iX at h;exact type_of% h):=Ib n s w g
noncomputable abbrev uZ(A:Option Addr)(n c:Nat):List SV:=([(.xs A n c),(.tup []),(.int .u64 0 true),(.int .u64 0 true),(.tup []),(.tup []),(.xs A n c),(.int .i64 ((↑n:Int)) false),(.int .i64 0 true)]++List.replicate 10 az)
theorem Iv(A:Option Addr)(n c:Nat)(w:World):al Tryz.prog G4 1000 50 [.xs A n c] (SS.at w) =
(.loop 50 (av Tryz.prog 50 4) (uZ A n c) (SS.mk [] [] true w []) (LoopHook.X (xS)) (LoopHook.out (xS) (uZ A n c) (SS.mk [] [] true w [])) (fun x0 w0 b0=>(.leaf .ret [(.int .u64 ((↑x0.fst:Int)) false)] (SS.mk [] [] true w0 b0))) (LoopHook.Y (xS)) (LoopHook.out' (xS) (uZ A n c) (SS.mk [] [] true w [])) (fun x0 w0 b0=>(.leaf .ret [(.raw (x0.snd 2))] (SS.mk [] [] true w0 b0)))):=by kernel_rfl
theorem OG(A:Option Addr)(n c:Nat)(w:World):(by have h:=Iv A n c w;unfold uZ at h;exact type_of% h):=Iv A n c w
noncomputable abbrev lJ(w:World)(A:Option Addr)(i:Nat):Int:=(aj w (((A.getD default).add ((↑i:Int).toNat*1)).add 0))
noncomputable abbrev rY(i:Nat):SV:=(.int .i64 (i64.wrap ((↑i:Int)+(1:Int))) false)
theorem Ie(A:Option Addr)(n c i m:Nat)(w:World)(g:Nat->Value):aO Tryz.prog ar 1000 50 (av Tryz.prog 50 4) (ay ((Df .normal).zip [.int .u64 m false,.xs A n c,.int .i64 n false,.int .i64 i false]) g 19 0) (fun e a s=>.leaf e (fG Df e a) s) (SS.at w) =
(.split (decide ((↑i:Int)<(↑n:Int))) (.need ((0:Int)<=(↑i:Int)/\(↑i:Int)<(↑n:Int)) (.need (A.isSome=true) (.need (canRead w [] ((A.getD default).add ((↑i:Int).toNat*1)) [SV.int u8 (lJ w A i) false]) (.leaf .normal [(.int .u64 (u64.wrap (↑(BitVec.ofInt 64 (u64.wrap ((↑m:Int)*(2:Int)^8)) |||BitVec.ofInt 64 (u64.wrap (lJ w A i))).toNat:Int)) false),(.xs A n c),(.int .i64 ((↑n:Int)) false),(rY i)] (SS.mk [] [] true w []))))) (.leaf (.exit 0) [(.int .u64 ((↑m:Int)) false)] (SS.mk [] [] true w []))):=by kernel_rfl
theorem Oi(A:Option Addr)(n c i m:Nat)(w:World)(g:Nat->Value):(by have h:=Ie A n c i m w g;unfold rY lJ at h;exact type_of% h):=Ie A n c i m w g
noncomputable abbrev uY(A:Option Addr)(n c:Nat):List SV:=([(.xs A n c),(.tup []),(.str (ByteArray.mk #[]) true),(.str (ByteArray.mk #[]) true),(.tup []),(.tup []),(.xs A n c),(.int .i64 ((↑n:Int)) false),(.int .i64 0 true)]++List.replicate 15 az)
theorem EU(A:Option Addr)(n c:Nat)(w:World):al Tryz.prog uf 1000 47 [.xs A n c] (SS.at w) =
(.loop 47 (av Tryz.prog 47 4) (uY A n c) (SS.mk [] [] true w []) (LoopHook.X (qY)) (LoopHook.out (qY) (uY A n c) (SS.mk [] [] true w [])) (fun x0 w0 b0=>(.leaf .ret [(.str x0.fst false)] (SS.mk [] [] true w0 b0))) (LoopHook.Y (qY)) (LoopHook.out' (qY) (uY A n c) (SS.mk [] [] true w [])) (fun x0 w0 b0=>(.leaf .ret [(.raw (x0.snd 2))] (SS.mk [] [] true w0 b0)))):=by kernel_rfl
theorem Mr(A:Option Addr)(n c:Nat)(w:World):(by have h:=EU A n c w;unfold uY at h;exact type_of% h):=EU A n c w
theorem EG(A:Option Addr)(n c i:Nat)(s:ByteArray)(w:World)(g:Nat->Value):aO Tryz.prog uf 1000 47 (av Tryz.prog 47 4) (ay ((xx .normal).zip [.str s false,.xs A n c,.int .i64 n false,.int .i64 i false]) g 24 0) (fun e a s=>.leaf e (fG xx e a) s) (SS.at w) =
(.split (decide ((↑i:Int)<(↑n:Int))) (.need ((0:Int)<=(↑i:Int)/\(↑i:Int)<(↑n:Int)) (.need (A.isSome=true) (.need (canRead w [] ((A.getD default).add ((↑i:Int).toNat*1)) [SV.int u8 (lJ w A i) false]) (.split (decide ((↑i:Int) > (0:Int))) (.need ((↑(s.size+1):Int)<=i64.max) (.hc 49 [(.int .u64 (u64.wrap (lJ w A i)) false)] (SS.mk [] [] true w []) (aR) fun x0 w0 b0=>(.need ((↑((s++ByteArray.mk #[(46:UInt8)]).size+ByteArray.size x0):Int)<=i64.max) (.leaf .normal [(.str (s++ByteArray.mk #[(46:UInt8)]++x0) false),(.xs A n c),(.int .i64 ((↑n:Int)) false),(rY i)] (SS.mk [] [] true w0 b0))))) (.hc 49 [(.int .u64 (u64.wrap (lJ w A i)) false)] (SS.mk [] [] true w []) (aR) fun x0 w0 b0=>(.need ((↑(s.size+ByteArray.size x0):Int)<=i64.max) (.leaf .normal [(.str (s++x0) false),(.xs A n c),(.int .i64 ((↑n:Int)) false),(rY i)] (SS.mk [] [] true w0 b0)))))))) (.leaf (.exit 0) [(.str s false)] (SS.mk [] [] true w []))):=by kernel_rfl
theorem L0(A:Option Addr)(n c i:Nat)(s:ByteArray)(w:World)(g:Nat->Value):(by have h:=EG A n c i s w g;unfold rY lJ at h;exact type_of% h):=EG A n c i s w g
noncomputable abbrev u0(n:Nat):List SV:=([(.int .i64 ((↑n:Int)) false),(.tup []),(.str (ByteArray.mk #[]) true),(.str (ByteArray.mk #[]) true),(.bool true true)]++List.replicate 16 az)
theorem It(n:Nat)(w:World):al Tryz.prog GY 1000 76 [.int .i64 n false] (SS.at w) =
(.loop 76 (av Tryz.prog 76 4) (u0 n) (SS.mk [] [] true w []) (LoopHook.X (xR)) (LoopHook.out (xR) (u0 n) (SS.mk [] [] true w [])) (fun x0 w0 b0=>(.leaf .ret [(.str x0.fst false)] (SS.mk [] [] true w0 b0))) (LoopHook.Y (xR)) (LoopHook.out' (xR) (u0 n) (SS.mk [] [] true w [])) (fun x0 w0 b0=>(.leaf .ret [(.raw (x0.snd 2))] (SS.mk [] [] true w0 b0)))):=by kernel_rfl
theorem OD(n:Nat)(w:World):(by have h:=It n w;unfold u0 at h;exact type_of% h):=It n w
noncomputable abbrev uX:ByteArray:=(ByteArray.mk #[(48:UInt8),(49:UInt8),(50:UInt8),(51:UInt8),(52:UInt8),(53:UInt8),(54:UInt8),(55:UInt8),(56:UInt8),(57:UInt8),(97:UInt8),(98:UInt8),(99:UInt8),(100:UInt8),(101:UInt8),(102:UInt8)])
noncomputable abbrev kF(n:Nat):Int:=((↑n:Int).tmod (16:Int)+(1:Int))
noncomputable abbrev zV(n:Nat)(s:ByteArray)(w:World):T:=(.need ((0:Int)<=i64.wrap (kF n)/\i64.wrap (kF n)<=(↑(16:Nat):Int)) (.need ((0:Int)<=(↑n:Int).tmod (16:Int)/\(↑n:Int).tmod (16:Int)<=(↑(i64.wrap (kF n)).toNat:Int)) (.need ((↑((uX.extract ((↑n:Int).tmod (16:Int)).toNat (i64.wrap (kF n)).toNat).size+s.size):Int)<=i64.max) (.leaf .normal [(.int .i64 (i64.wrap ((↑n:Int).tdiv (16:Int))) false),(.str (uX.extract ((↑n:Int).tmod (16:Int)).toNat (i64.wrap (kF n)).toNat++s) false),(.bool false true)] (SS.mk [] [] true w [])))))
theorem Ic(n:Nat)(s:ByteArray)(b:Bool)(w:World)(g:Nat->Value):aO Tryz.prog ar 1000 76 (av Tryz.prog 76 4) (ay ((De .normal).zip [.int .i64 n false,.str s false,.bool b false]) g 21 0) (fun e a s=>.leaf e (fG De e a) s) (SS.at w) =
(.split b (zV n s w) (.split (decide ((↑n:Int) > (0:Int))) (zV n s w) (.leaf (.exit 0) [(.str s false)] (SS.mk [] [] true w [])))):=by kernel_rfl
theorem Oh(n:Nat)(s:ByteArray)(b:Bool)(w:World)(g:Nat->Value):(by have h:=Ic n s b w g;unfold zV kF uX at h;exact type_of% h):=Ic n s b w g
theorem b1{m:Nat}(h:m<2^64):bytesOf [u8.wrap (u64.wrap (48+((m:Nat):Int).tmod 10))]=⟨#[UInt8.ofNat (48+m%10)]⟩:=by
 have e1:((m:Nat):Int).tmod 10=((m%10:Nat):Int):=rfl
 have e2:(48:Int)+((m%10:Nat):Int)=((48+m%10:Nat):Int):=by omega
 rw[e1,e2,rD (by omega),fL (by omega),gz]
 rfl
theorem OO{m:Nat}(h:m<2^64):u64.wrap (((m:Nat):Int).tdiv 10)=((m/10:Nat):Int):=by
 have e1:((m:Nat):Int).tdiv 10=((m/10:Nat):Int):=rfl
 rw[e1,rD (by omega)]
def Kc(n:Nat)(z:Nat×ByteArray):Prop:=z.1<2^64/\∃l,z.2=⟨l.toArray⟩/\Lib.decDigits n=(if z.1=0 then[] else Lib.decDigits z.1)++l
theorem sQ{n m:Nat}{l:List UInt8}(hm:m<2^64)(h:Lib.decDigits n=Lib.decDigits m++l):Kc n (m/10,⟨(UInt8.ofNat (48+m%10) :: l).toArray⟩):=by
 refine⟨by show m/10<_;omega,_,rfl,?_⟩
 show Lib.decDigits n=(if m/10=0 then[] else Lib.decDigits (m/10))++UInt8.ofNat (48+m%10) :: l
 rw[h]
 by_cases h10:m<10
 ·rw[Lib.decDigits_one h10,if_pos (by omega),show m%10=m by omega]
  rfl
 ·rw[Lib.decDigits,dif_neg h10,if_neg (by omega)]
  simp
theorem qZ(n:Nat)(hn:n<2^64)(w:World):Calls Tryz.prog 49 #[.int .u64 n] w (bB (fun v _=>v=.string ⟨(Lib.decDigits n).toArray⟩) w):=by
 refine aF (hk:=GX) (n:=1000) (args:=[.int .u64 n false]) ⟨trivial,trivial⟩ ?_
 refine ah (OC n w) ?_
 have hmax:=pA n hn
 rw[aC]at hmax
 rw[b1 hn,OO hn]
 refine ii (w:=w) (Fine.start w _) Dd (α:=Nat×ByteArray) (fun z=>[.int .u64 z.1 false,.str z.2 false]) (fun z=>z.1) (fun _ z _=>Kc n z)
  (fun _ e lv _=>e=.exit 0/\lv=[.string ⟨(Lib.decDigits n).toArray⟩]) (fun _=>ar) 1000 (by simp) (by simp[Dd]) (by simp[Dd]) (fun _=>⟨trivial,trivial,trivial⟩) rfl rfl rfl
  (by simp) (by simp) (fun _=>⟨trivial,trivial⟩) (fun _=>trivial) ?_ ?_ ?_
 ·rintro w0 ⟨m,t⟩ w1 g _ ⟨hm,l,rfl,hd⟩ hb0 _
  dsimp only at hm hd
  refine ah (Og m _ w1 g) (ak (fun hpos=>?_) (fun h0=>?_))
  ·rw[if_neg (by omega)]at hd
   have hlen:=congrArg List.length hd
   rw[List.length_append]at hlen
   have:0<(Lib.decDigits m).length:=by
    have:=t7 m
    rw[aC]at this
    omega
   rw[b1 hm,OO hm]
   refine aa (by rw[aC,bj];show((1+l.length:Nat):Int)<=_;omega) ?_
   refine fY (Fine.mk' hb0 (by simp)) fun β w' _ _=>⟨(m/10,⟨(UInt8.ofNat (48+m%10) :: l).toArray⟩),by show m/10<m;omega,?_,sQ hm hd⟩
   show[Value.int .u64 _,.string ((⟨[UInt8.ofNat (48+m%10)].toArray⟩:ByteArray)++⟨l.toArray⟩)]=_
   rw[dt]
   rfl
  ·rw[if_pos (by omega),List.nil_append]at hd
   exact dp (Fine.mk' hb0 (by simp)) (by simp) fun β w' _ _=>⟨rfl,by rw[hd];rfl⟩
 ·intro β w0 hst hb
  exact⟨(n/10,_),rfl,by
   have:=sQ (n:=n) (l:=[]) hn (by rw[List.append_nil])
   exact this⟩
 ·rintro β w0 hst hb e lv w' ⟨rfl,rfl⟩ hb0 hb1
  exact .inl ⟨_,rfl,rfl,fun g bs hbs=>aQ (Fine.mk' hb1 hbs) fun β w' _ _=>rfl⟩
def yM(l:List UInt8):Nat:=l.foldl (fun n x=>n*256+x.toNat) 0
theorem El(l:List UInt8)(x:UInt8):yM (l++[x])=yM l*256+x.toNat:=by simp[yM]
theorem Bq:∀(l:List UInt8) (a:Nat),l.foldl (fun n x=>n*256+x.toNat) a<(a+1)*256^l.length
 |[],a=>by simp
 |x :: l,a=>by
  have h1:=Bq l (a*256+x.toNat)
  have h2:=x.toNat_lt
  have h3:(a*256+x.toNat+1)*256^l.length<=((a+1)*256)*256^l.length:=Nat.mul_le_mul_right _ (by omega)
  rw[List.length_cons,Nat.pow_succ,Nat.mul_comm (256^l.length) 256,<- Nat.mul_assoc]
  exact Nat.lt_of_lt_of_le h1 h3
theorem zl(l:List UInt8):yM l<256^l.length:=by
 have:=Bq l 0
 simpa [yM] using this
theorem zf(A:Option Addr)(n c:Nat)(l:List UInt8)(B:Nat)(w:World)(h:Bts w B A n l)(hB:B<=w.heap.size)(hn:l.length<=8):Calls Tryz.prog 50 #[.slice A n c] w (bB (fun v _=>v=.int .u64 (yM l:Int)) w):=by
 have hlen:=h.1
 refine aF (hk:=G4) (n:=1000) (args:=[.xs A n c]) ⟨trivial,trivial⟩ ?_
 refine ah (OG A n c w) ?_
 refine ii (w:=w) (Fine.start w _) Df (α:=Nat×Nat) (fun z=>[.int .u64 z.2 false,.xs A n c,.int .i64 n false,.int .i64 z.1 false]) (fun z=>n-z.1) (fun _ z _=>z.1<=n/\z.2=yM (l.take z.1))
  (fun _ e lv _=>e=.exit 0/\lv=[.int .u64 (yM l:Int)]) (fun _=>ar) 1000 (by simp) (by simp[Df]) (by simp[Df]) (fun _=>⟨trivial,trivial,trivial,trivial,trivial⟩) rfl rfl rfl
  (by simp) (by simp) (fun _=>⟨trivial,trivial⟩) (fun _=>trivial) ?_ ?_ ?_
 ·rintro w0 ⟨i,m⟩ w1 g _ ⟨hi,hm⟩ hb0 hbw
  dsimp only at hi hm
  refine ah (Oi A n c i m w1 g) (ak (fun hlt=>?_) (fun hge=>?_))
  ·have hlt':i<n:=by omega
   obtain⟨b1,b2,b3⟩:=nq (bs:=[]) h hB hbw (by simp) (z:=(i:Int)) rfl hlt'
   refine aa (by omega) (aa b1 (aa b2 ?_))
   rw[b3]
   have hx:=(l.getD i 0).toNat_lt
   have htk:l.take (i+1)=l.take i++[l.getD i 0]:=by
    rw[List.take_add_one,List.getD_eq_getElem?_getD,List.getElem?_eq_getElem (by omega)]
    rfl
   have hnum:=zl (l.take i)
   have hm2:m<256^7:=by
    rw[hm]
    refine Nat.lt_of_lt_of_le hnum (Nat.pow_le_pow_right (by omega) ?_)
    rw[List.length_take]
    omega
   have e1:u64.wrap ((m:Int)*2^8)=((m*2^8:Nat):Int):=by
    rw[show(m:Int)*2^8=((m*2^8:Nat):Int) by rw[Int.natCast_mul];rfl]
    exact rD (by omega)
   have e2:u64.wrap ((l.getD i 0).toNat:Int)=((l.getD i 0).toNat:Int):=rD (by omega)
   have e3:(BitVec.ofInt 64 ((m*2^8:Nat):Int) |||BitVec.ofInt 64 ((l.getD i 0).toNat:Int)).toNat=m*2^8+(l.getD i 0).toNat:=by
    have:=M4 (W:=64) (s:=8) (x:=(l.getD i 0).toNat) (y:=m) hx (by omega)
    rw[BitVec.or_comm]
    exact this
   rw[e1,e2,e3,rD (by omega)]
   refine fY (Fine.nil hb0) fun β w' _ _=>⟨(i+1,m*2^8+(l.getD i 0).toNat),by show n-(i+1)<n-i;omega,?_,by show i+1<=n;omega,?_⟩
   ·rw[show i64.wrap ((i:Int)+1)=((i+1:Nat):Int) by rw[aq (by omega) (by omega)];omega]
    rfl
   ·show _=yM (l.take (i+1))
    rw[htk,El,<- hm]
  ·refine dp (Fine.nil hb0) (by simp) fun β w' _ _=>⟨rfl,?_⟩
   rw[hm,List.take_of_length_le (by omega)]
   rfl
 ·intro β w0 hst hb
  exact⟨(0,0),rfl,Nat.zero_le _,rfl⟩
 ·rintro β w0 hst hb e lv w' ⟨rfl,rfl⟩ hb0 hb1
  exact .inl ⟨yM l,rfl,rfl,fun g bs hbs=>aQ (Fine.mk' hb1 hbs) fun β w' _ _=>rfl⟩
def er:List UInt8->List UInt8
 |[]=>[]
 |[x]=>Lib.decDigits x.toNat
 |x :: r=>Lib.decDigits x.toNat++46 :: er r
theorem nu:∀(l:List UInt8) (x:UInt8),er (l++[x])=er l++(if l=[] then[] else[46])++Lib.decDigits x.toNat
 |[],x=>by simp[er]
 |[y],x=>by simp[er]
 |y :: z :: r,x=>by
  have ih:=nu (z :: r) x
  have e1:er (y :: z :: r++[x])=Lib.decDigits y.toNat++46 :: er (z :: r++[x]):=rfl
  have e2:er (y :: z :: r)=Lib.decDigits y.toNat++46 :: er (z :: r):=rfl
  rw[e1,e2,ih]
  simp
theorem MX{x:UInt8}:(Lib.decDigits x.toNat).length<=3:=by
 have h:=x.toNat_lt
 by_cases h1:x.toNat<10
 ·rw[Lib.decDigits_one h1];simp
 ·by_cases h2:x.toNat<100
  ·rw[Lib.decDigits_two h1 h2];simp
  ·rw[Lib.decDigits,dif_neg h1,Lib.decDigits_two (i:=x.toNat/10) (by omega) (by omega)]
   simp
theorem xE:∀l:List UInt8,(er l).length<=4*l.length
 |[]=>by simp[er]
 |[x]=>by have:=@MX x;simp[er];omega
 |x :: y :: r=>by
  have ih:=xE (y :: r)
  have e2:er (x :: y :: r)=Lib.decDigits x.toNat++46 :: er (y :: r):=rfl
  have:=@MX x
  rw[e2]
  simp at *
  omega
theorem xT(A:Option Addr)(n c:Nat)(l:List UInt8)(B:Nat)(w:World)(h:Bts w B A n l)(hB:B<=w.heap.size)(hn:l.length<=1000):Calls Tryz.prog 47 #[.slice A n c] w (bB (fun v _=>v=.string ⟨(er l).toArray⟩) w):=by
 have hlen:=h.1
 refine aF (hk:=uf) (n:=1000) (args:=[.xs A n c]) ⟨trivial,trivial⟩ ?_
 refine ah (Mr A n c w) ?_
 refine ii (w:=w) (Fine.start w _) xx (α:=Nat×ByteArray) (fun z=>[.str z.2 false,.xs A n c,.int .i64 n false,.int .i64 z.1 false]) (fun z=>n-z.1) (fun _ z _=>z.1<=n/\z.2=⟨(er (l.take z.1)).toArray⟩)
  (fun _ e lv _=>e=.exit 0/\lv=[.string ⟨(er l).toArray⟩]) (fun _=>uf) 1000 (by simp) (by simp[xx]) (by simp[xx]) (fun _=>⟨trivial,trivial,trivial,trivial,trivial⟩) rfl rfl rfl
  (by simp) (by simp) (fun _=>⟨trivial,trivial⟩) (fun _=>trivial) ?_ ?_ ?_
 ·rintro w0 ⟨i,t⟩ w1 g _ ⟨hi,ht⟩ hb0 hbw
  dsimp only at hi ht
  subst ht
  refine ah (L0 A n c i _ w1 g) (ak (fun hlt=>?_) (fun hge=>?_))
  ·have hlt':i<n:=by omega
   obtain⟨b1,b2,b3⟩:=nq (bs:=[]) h hB hbw (by simp) (z:=(i:Int)) rfl hlt'
   refine aa (by omega) (aa b1 (aa b2 ?_))
   rw[b3]
   have hx:=(l.getD i 0).toNat_lt
   have hdl:=xE (l.take i)
   rw[List.length_take]at hdl
   have htk:l.take (i+1)=l.take i++[l.getD i 0]:=by
    rw[List.take_add_one,List.getD_eq_getElem?_getD,List.getElem?_eq_getElem (by omega)]
    rfl
   have e2:u64.wrap ((l.getD i 0).toNat:Int)=((l.getD i 0).toNat:Int):=rD (by omega)
   have hdx:=@MX (l.getD i 0)
   have hi1:i64.wrap ((i:Int)+1)=((i+1:Nat):Int):=by rw[aq (by omega) (by omega)];omega
   rw[e2,hi1]
   refine ak (fun hpos=>aa (by rw[aC,bj];omega) ?_) (fun hz=>?_)
   all_goals
    refine ff (Γ:=c8 Tryz.prog _) (w:=w0) (R:=fun(x:ByteArray) _ _=>x=⟨(Lib.decDigits (l.getD i 0).toNat).toArray⟩) (Fine.nil hb0) (fun x=>⟨rfl,trivial⟩) (fun β w2 hst ho hb=>?_) ?_
    ·refine(qZ _ (by omega) w2).mono ?_
     rintro e w' ⟨v,rfl,rfl,hb'⟩
     exact⟨_,rfl,hb',rfl⟩
    rintro x w2 w3 b3 _ rfl _ hb3 hbs3
   ·refine aa (by rw[ByteArray.size_append,aC (er (l.take i)),aC (Lib.decDigits _),bj];show(((er (l.take i)).length+1+_:Nat):Int)<=_;omega) (fY (Fine.mk' hb3 hbs3) fun β w' _ _=>⟨(i+1,⟨(er (l.take (i+1))).toArray⟩),by show n-(i+1)<n-i;omega,?_,by show i+1<=n;omega,rfl⟩)
    have hne:l.take i≠[]:=fun h0=>by
     have:=congrArg List.length h0
     rw[List.length_take,List.length_nil]at this
     omega
    rw[htk,nu,if_neg hne]
    show[Value.string ((⟨(er (l.take i)).toArray⟩:ByteArray)++⟨[46].toArray⟩++⟨(Lib.decDigits (l.getD i 0).toNat).toArray⟩),_,_,_]=_
    rw[dt,dt]
    rfl
   ·refine aa (by rw[aC,aC,bj];omega) (fY (Fine.mk' hb3 hbs3) fun β w' _ _=>⟨(i+1,⟨(er (l.take (i+1))).toArray⟩),by show n-(i+1)<n-i;omega,?_,by show i+1<=n;omega,rfl⟩)
    have hi0:i=0:=by omega
    rw[htk,nu]
    subst hi0
    show[Value.string ((⟨(er (l.take 0)).toArray⟩:ByteArray)++⟨(Lib.decDigits (l.getD 0 0).toNat).toArray⟩),_,_,_]=_
    rw[dt]
    simp[er]
    rfl
  ·refine dp (Fine.nil hb0) (by simp) fun β w' _ _=>⟨rfl,?_⟩
   rw[List.take_of_length_le (by omega)]
   rfl
 ·intro β w0 hst hb
  exact⟨(0,⟨#[]⟩),rfl,Nat.zero_le _,rfl⟩
 ·rintro β w0 hst hb e lv w' ⟨rfl,rfl⟩ hb0 hb1
  exact .inl ⟨_,rfl,rfl,fun g bs hbs=>aQ (Fine.mk' hb1 hbs) fun β w' _ _=>rfl⟩
theorem I8(m:Nat):(ByteArray.mk #[(48:UInt8),(49:UInt8),(50:UInt8),(51:UInt8),(52:UInt8),(53:UInt8),(54:UInt8),(55:UInt8),(56:UInt8),(57:UInt8),(97:UInt8),(98:UInt8),(99:UInt8),(100:UInt8),(101:UInt8),(102:UInt8)]).extract (((m:Nat):Int).tmod 16).toNat (i64.wrap (((m:Nat):Int).tmod 16+1)).toNat=⟨#[ca (m%16)]⟩:=by
 have e1:((m:Nat):Int).tmod 16=((m%16:Nat):Int):=rfl
 have e2:i64.wrap (((m%16:Nat):Int)+1)=((m%16+1:Nat):Int):=by rw[aq (by omega) (by omega)];omega
 rw[e1,e2,Int.toNat_natCast,Int.toNat_natCast]
 exact A5 _ (by omega)
def IJ(n:Nat)(z:Nat×ByteArray×Bool):Prop:=z.1<2^62/\∃l,z.2.1=⟨l.toArray⟩/\ax n=(if z.2.2=false/\z.1=0 then[] else ax z.1)++l
theorem Cs{n m:Nat}{l:List UInt8}(hm:m<2^62)(h:ax n=ax m++l):IJ n (m/16,⟨(ca (m%16) :: l).toArray⟩,false):=by
 refine⟨by show m/16<_;omega,_,rfl,?_⟩
 show ax n=(if false=false/\m/16=0 then[] else ax (m/16))++ca (m%16) :: l
 rw[h]
 by_cases h10:m<16
 ·rw[eL h10,if_pos ⟨rfl,by omega⟩,show m%16=m by omega]
  rfl
 ·rw[fK h10,if_neg (fun h=>by omega)]
  simp
theorem Gb(n:Nat)(hn:n<2^20)(w:World):Calls Tryz.prog 76 #[.int .i64 n] w (bB (fun v _=>v=.string ⟨(ax n).toArray⟩) w):=by
 refine aF (hk:=GY) (n:=1000) (args:=[.int .i64 n false]) ⟨trivial,trivial⟩ ?_
 refine ah (OD n w) ?_
 have hmax:=cO n
 refine ii (w:=w) (Fine.start w _) De (α:=Nat×ByteArray×Bool) (fun z=>[.int .i64 z.1 false,.str z.2.1 false,.bool z.2.2 false]) (fun z=>2*z.1+(if z.2.2 then 1 else 0)) (fun _ z _=>IJ n z)
  (fun _ e lv _=>e=.exit 0/\lv=[.string ⟨(ax n).toArray⟩]) (fun _=>ar) 1000 (by simp) (by simp[De]) (by simp[De]) (fun _=>⟨trivial,trivial,trivial,trivial⟩) rfl rfl rfl
  (by simp) (by simp) (fun _=>⟨trivial,trivial⟩) (fun _=>trivial) ?_ ?_ ?_
 ·rintro w0 ⟨m,t,b⟩ w1 g _ ⟨hm,l,ht,hd⟩ hb0 _
  dsimp only at hm hd ht
  subst ht
  have e5:((m:Nat):Int).tmod 16=((m%16:Nat):Int):=rfl
  have e6:i64.wrap (((m%16:Nat):Int)+1)=((m%16+1:Nat):Int):=by rw[aq (by omega) (by omega)];omega
  have e4:i64.wrap (((m:Nat):Int).tdiv 16)=((m/16:Nat):Int):=by
   have:((m:Nat):Int).tdiv 16=((m/16:Nat):Int):=rfl
   rw[this,aq (by omega) (by omega)]
  have go:ax n=ax m++l->(0<m∨b=true)->(T.need (0<=i64.wrap (((m:Nat):Int).tmod 16+1)/\i64.wrap (((m:Nat):Int).tmod 16+1)<=((16:Nat):Int)) (T.need (0<=((m:Nat):Int).tmod 16/\((m:Nat):Int).tmod 16<=(((i64.wrap (((m:Nat):Int).tmod 16+1)).toNat:Nat):Int))
    (T.need ((((((ByteArray.mk #[(48:UInt8),(49:UInt8),(50:UInt8),(51:UInt8),(52:UInt8),(53:UInt8),(54:UInt8),(55:UInt8),(56:UInt8),(57:UInt8),(97:UInt8),(98:UInt8),(99:UInt8),(100:UInt8),(101:UInt8),(102:UInt8)]).extract (((m:Nat):Int).tmod 16).toNat (i64.wrap (((m:Nat):Int).tmod 16+1)).toNat).size+(⟨l.toArray⟩:ByteArray).size:Nat):Int))<=i64.max)
    (T.leaf .normal [(.int .i64 (i64.wrap (((m:Nat):Int).tdiv 16)) false),(.str ((ByteArray.mk #[(48:UInt8),(49:UInt8),(50:UInt8),(51:UInt8),(52:UInt8),(53:UInt8),(54:UInt8),(55:UInt8),(56:UInt8),(57:UInt8),(97:UInt8),(98:UInt8),(99:UInt8),(100:UInt8),(101:UInt8),(102:UInt8)]).extract (((m:Nat):Int).tmod 16).toNat (i64.wrap (((m:Nat):Int).tmod 16+1)).toNat++⟨l.toArray⟩) false),(.bool false true)] (SS.mk [] [] true w1 []))))).holds
    (c8 Tryz.prog (rQ (fun z:Nat×ByteArray×Bool=>[.int .i64 z.1 false,.str z.2.1 false,.bool z.2.2 false]) (fun z=>2*z.1+(if z.2.2 then 1 else 0)) (fun z _=>IJ n z) (fun e lv _=>e=.exit 0/\lv=[.string ⟨(ax n).toArray⟩]) w0 (m,⟨l.toArray⟩,b))):=by
   intro hd' hmb
   have hlen:=congrArg List.length hd'
   rw[List.length_append]at hlen
   rw[I8,e4,e5,e6]
   refine aa (by omega) (aa (by rw[Int.toNat_natCast];omega) (aa (by rw[aC,bj];show((1+l.length:Nat):Int)<=_;omega) ?_))
   refine fY (Fine.nil hb0) fun β w' _ _=>⟨(m/16,⟨(ca (m%16) :: l).toArray⟩,false),?_,?_,Cs hm hd'⟩
   ·show 2*(m/16)+0<2*m+(if b then 1 else 0)
    rcases hmb with h |h
    ·omega
    ·rw[h];simp;omega
   ·show[_,Value.string ((⟨[ca (m%16)].toArray⟩:ByteArray)++⟨l.toArray⟩),_]=_
    rw[dt]
    rfl
  refine ah (Oh m _ b w1 g) (ae (fun hb=>?_) (fun hb=>ak (fun hpos=>?_) (fun h0=>?_)))
  ·rw[if_neg (fun h=>by rw[hb]at h;cases h.1)]at hd
   exact go hd (.inr hb)
  ·rw[if_neg (fun h=>by omega)]at hd
   exact go hd (.inl (by omega))
  ·rw[if_pos ⟨hb,by omega⟩,List.nil_append]at hd
   exact dp (Fine.nil hb0) (by simp) fun β w' _ _=>⟨rfl,by rw[hd];rfl⟩
 ·intro β w0 hst hb
  exact⟨(n,⟨#[]⟩,true),rfl,by show n<_;omega,[],rfl,by simp⟩
 ·rintro β w0 hst hb e lv w' ⟨rfl,rfl⟩ hb0 hb1
  exact .inl ⟨_,rfl,rfl,fun g bs hbs=>aQ (Fine.mk' hb1 hbs) fun β w' _ _=>rfl⟩
end
section
open Go Go.Rx Go.RowKit
@[reducible] def bV(l:List Int):List SObj:=[.ints .i64 l 100 0 0]
structure S6 where
 at_:Int
 most:Nat
 i:Nat
structure S6i where
 at_:Int
 most:Nat
 i:Nat
 n:Nat
structure S6s where
 at_:Int
 most:Nat
 s:ByteArray
 i:Nat
def J6:SE->List Nat
 | .normal=>[0,3,12]
 | .exit _=>[0,3]
 |_=>[]
def J7:SE->List Nat
 | .normal=>[3,5,6,57]
 | .exit _=>[3,5,6]
 |_=>[]
def Kj:SE->List Nat
 | .normal=>[3,5,6,7,8,57]
 | .exit _=>[3,5,6,7,8,57]
 |_=>[]
def J8:SE->List Nat
 | .normal=>[3,5,6,9,10]
 | .exit _=>[9]
 |_=>[]
@[reducible] def BE(v:IV)(i:Nat):List SV:=[.xs v.A v.n v.c,.ptr 0 0,.int .i64 i false]
@[reducible] def yf(z:S6):List SV:=[.ptr 0 0,.int .i64 z.at_ false,.int .i64 z.most false,.int .i64 z.i false]
@[reducible] def th(z:S6i):List SV:=[.ptr 0 0,.int .i64 z.at_ false,.int .i64 z.most false,.int .i64 z.i false,.int .i64 z.n false,.int .i64 z.i false]
@[reducible] def rq(z:S6s):List SV:=[.ptr 0 0,.int .i64 z.at_ false,.int .i64 z.most false,.str z.s false,.int .i64 z.i false]
def kN(v:IV):LoopHook:=bE 115 (List Int) (.exit 0) [0,3] (fun _=>[.xs v.A v.n v.c,.ptr 0 0]) bV Unit .ret [] (fun _=>[]) (fun _=>bV [])
def lk(l:List Int):LoopHook:=bE 115 (Int×Nat) (.exit 2) [3,5,6] (fun p=>[.ptr 0 0,.int .i64 p.1 false,.int .i64 p.2 false]) (fun _=>bV l) Unit .ret [] (fun _=>[]) (fun _=>bV [])
def D8(l:List Int)(z:S6):LoopHook:=bE 115 Nat (.exit 4) [3,5,6,7,8,57] (fun n=>th ⟨z.at_,z.most,z.i,n⟩) (fun _=>bV l) Unit .ret [] (fun _=>[]) (fun _=>bV [])
def uh(l:List Int):LoopHook:=bE 115 ByteArray (.exit 6) [9] (fun s=>[.str s false]) (fun _=>bV l) Unit .ret [] (fun _=>[]) (fun _=>bV [])
def MJ(v:IV)(l:List Int):Hooks:={ calls:=fun f=>if f=47∨f=76 then some aR else none,loops:=fun _ k=>if k=4 then some (kN v) else if k=12 then some (lk l) else some (uh l) }
def KO(l:List Int)(z:S6):Hooks:={ calls:=fun _=>none,loops:=fun _ _=>some (D8 l z) }
noncomputable abbrev u1(l:List Int)(x1:(LoopHook.X (lk l))):List SV:=[(.raw (x1.snd 0)),(.raw (x1.snd 1)),(.raw (x1.snd 2)),(.ptr 0 0),(.raw (x1.snd 4)),(.int .i64 x1.fst.fst false),(.int .i64 ((↑x1.fst.snd:Int)) false),(.raw (x1.snd 7)),(.raw (x1.snd 8)),(.str (ByteArray.mk #[]) true),(.int .i64 0 true),(.raw (x1.snd 11)),(.raw (x1.snd 12)),(.raw (x1.snd 13)),(.raw (x1.snd 14)),(.raw (x1.snd 15)),(.raw (x1.snd 16)),(.raw (x1.snd 17)),(.raw (x1.snd 18)),(.raw (x1.snd 19)),(.raw (x1.snd 20)),(.raw (x1.snd 21)),(.raw (x1.snd 22)),(.raw (x1.snd 23)),(.raw (x1.snd 24)),(.raw (x1.snd 25)),(.raw (x1.snd 26)),(.raw (x1.snd 27)),(.raw (x1.snd 28)),(.raw (x1.snd 29)),(.raw (x1.snd 30)),(.raw (x1.snd 31)),(.raw (x1.snd 32)),(.raw (x1.snd 33)),(.raw (x1.snd 34)),(.raw (x1.snd 35)),(.raw (x1.snd 36)),(.raw (x1.snd 37)),(.raw (x1.snd 38)),(.raw (x1.snd 39)),(.raw (x1.snd 40)),(.raw (x1.snd 41)),(.raw (x1.snd 42)),(.raw (x1.snd 43)),(.raw (x1.snd 44)),(.raw (x1.snd 45)),(.raw (x1.snd 46)),(.raw (x1.snd 47)),(.raw (x1.snd 48)),(.raw (x1.snd 49)),(.raw (x1.snd 50)),(.raw (x1.snd 51)),(.raw (x1.snd 52)),(.raw (x1.snd 53)),(.raw (x1.snd 54)),(.raw (x1.snd 55)),(.raw (x1.snd 56)),(.raw (x1.snd 57)),(.raw (x1.snd 58)),(.raw (x1.snd 59)),(.raw (x1.snd 60)),(.raw (x1.snd 61)),(.raw (x1.snd 62)),(.raw (x1.snd 63)),(.raw (x1.snd 64)),(.raw (x1.snd 65)),(.raw (x1.snd 66)),(.raw (x1.snd 67)),(.raw (x1.snd 68)),(.raw (x1.snd 69)),(.raw (x1.snd 70)),(.raw (x1.snd 71)),(.raw (x1.snd 72)),(.raw (x1.snd 73)),(.raw (x1.snd 74)),(.raw (x1.snd 75)),(.raw (x1.snd 76)),(.raw (x1.snd 77)),(.raw (x1.snd 78)),(.raw (x1.snd 79)),(.raw (x1.snd 80)),(.raw (x1.snd 81)),(.raw (x1.snd 82)),(.raw (x1.snd 83)),(.raw (x1.snd 84)),(.raw (x1.snd 85)),(.raw (x1.snd 86)),(.raw (x1.snd 87)),(.raw (x1.snd 88)),(.raw (x1.snd 89)),(.raw (x1.snd 90)),(.raw (x1.snd 91)),(.raw (x1.snd 92)),(.raw (x1.snd 93)),(.raw (x1.snd 94)),(.raw (x1.snd 95)),(.raw (x1.snd 96)),(.raw (x1.snd 97)),(.raw (x1.snd 98)),(.raw (x1.snd 99)),(.raw (x1.snd 100)),(.raw (x1.snd 101)),(.raw (x1.snd 102)),(.raw (x1.snd 103)),(.raw (x1.snd 104)),(.raw (x1.snd 105)),(.raw (x1.snd 106)),(.raw (x1.snd 107)),(.raw (x1.snd 108)),(.raw (x1.snd 109)),(.raw (x1.snd 110)),(.raw (x1.snd 111)),(.raw (x1.snd 112)),(.raw (x1.snd 113)),(.raw (x1.snd 114))]
noncomputable abbrev m5(v:IV)(x0:(LoopHook.X (kN v))):Int:=(i64.wrap (↑(BitVec.ofInt 64 (x0.fst.getD 0 (0:Int)) |||BitVec.ofInt 64 (x0.fst.getD 1 (0:Int))).toNat:Int))
noncomputable abbrev qe(v:IV)(x0:(LoopHook.X (kN v))):Int:=(i64.wrap (↑(BitVec.ofInt 64 (i64.wrap (↑(BitVec.ofInt 64 (m5 v x0) |||BitVec.ofInt 64 (x0.fst.getD 2 (0:Int))).toNat:Int)) |||BitVec.ofInt 64 (x0.fst.getD 3 (0:Int))).toNat:Int))
noncomputable abbrev u2(v:IV)(x0:(LoopHook.X (kN v))):SV:=(.int .i64 (i64.wrap (↑(BitVec.ofInt 64 (m5 v x0) |||BitVec.ofInt 64 (x0.fst.getD 2 (0:Int))).toNat:Int)) false)
noncomputable abbrev kG(v:IV)(x0:(LoopHook.X (kN v))):Int:=(↑(BitVec.ofInt 64 (qe v x0) |||BitVec.ofInt 64 (x0.fst.getD 4 (0:Int))).toNat:Int)
noncomputable abbrev u4(v:IV)(x0:(LoopHook.X (kN v))):List SV:=[(.xs v.A v.n v.c),(.raw (x0.snd 1)),(.raw (x0.snd 2)),(.ptr 0 0),(.raw (x0.snd 4)),(.int .i64 (-1) true),(.int .i64 1 true),(.raw (x0.snd 7)),(.raw (x0.snd 8)),(.raw (x0.snd 9)),(.raw (x0.snd 10)),(.raw (x0.snd 11)),(.raw (x0.snd 12)),(.raw (x0.snd 13)),(.raw (x0.snd 14)),(.raw (x0.snd 15)),(.raw (x0.snd 16)),(.raw (x0.snd 17)),(.raw (x0.snd 18)),(.raw (x0.snd 19)),(.raw (x0.snd 20)),(.raw (x0.snd 21)),(.raw (x0.snd 22)),(.raw (x0.snd 23)),(.raw (x0.snd 24)),(.raw (x0.snd 25)),(.raw (x0.snd 26)),(.raw (x0.snd 27)),(.raw (x0.snd 28)),(.raw (x0.snd 29)),(.raw (x0.snd 30)),(.raw (x0.snd 31)),(.raw (x0.snd 32)),(.ptr 0 0),(.int .i64 (x0.fst.getD 0 (0:Int)) false),(.ptr 0 1),(.int .i64 (x0.fst.getD 1 (0:Int)) false),(.int .i64 (m5 v x0) false),(.ptr 0 2),(.int .i64 (x0.fst.getD 2 (0:Int)) false),(u2 v x0),(.ptr 0 3),(.int .i64 (x0.fst.getD 3 (0:Int)) false),(.int .i64 (qe v x0) false),(.ptr 0 4),(.int .i64 (x0.fst.getD 4 (0:Int)) false),(.int .i64 (i64.wrap (kG v x0)) false),(.bool (i64.wrap (kG v x0) == (0:Int)) false),(.bool true true),(.ptr 0 5),(.int .i64 (x0.fst.getD 5 (0:Int)) false),(.bool (x0.fst.getD 5 (0:Int) == (65535:Int)) false),(.bool false true),(.raw (x0.snd 53)),(.raw (x0.snd 54)),(.raw (x0.snd 55)),(.raw (x0.snd 56)),(.int .i64 0 true),(.raw (x0.snd 58)),(.raw (x0.snd 59)),(.raw (x0.snd 60)),(.raw (x0.snd 61)),(.raw (x0.snd 62)),(.raw (x0.snd 63)),(.raw (x0.snd 64)),(.raw (x0.snd 65)),(.raw (x0.snd 66)),(.raw (x0.snd 67)),(.raw (x0.snd 68)),(.raw (x0.snd 69)),(.raw (x0.snd 70)),(.raw (x0.snd 71)),(.raw (x0.snd 72)),(.raw (x0.snd 73)),(.raw (x0.snd 74)),(.raw (x0.snd 75)),(.raw (x0.snd 76)),(.raw (x0.snd 77)),(.raw (x0.snd 78)),(.raw (x0.snd 79)),(.raw (x0.snd 80)),(.raw (x0.snd 81)),(.raw (x0.snd 82)),(.raw (x0.snd 83)),(.raw (x0.snd 84)),(.raw (x0.snd 85)),(.raw (x0.snd 86)),(.raw (x0.snd 87)),(.raw (x0.snd 88)),(.raw (x0.snd 89)),(.raw (x0.snd 90)),(.raw (x0.snd 91)),(.raw (x0.snd 92)),(.raw (x0.snd 93)),(.raw (x0.snd 94)),(.raw (x0.snd 95)),(.raw (x0.snd 96)),(.raw (x0.snd 97)),(.raw (x0.snd 98)),(.raw (x0.snd 99)),(.raw (x0.snd 100)),(.raw (x0.snd 101)),(.raw (x0.snd 102)),(.raw (x0.snd 103)),(.raw (x0.snd 104)),(.raw (x0.snd 105)),(.raw (x0.snd 106)),(.raw (x0.snd 107)),(.raw (x0.snd 108)),(.raw (x0.snd 109)),(.raw (x0.snd 110)),(.raw (x0.snd 111)),(.raw (x0.snd 112)),(.raw (x0.snd 113)),(.raw (x0.snd 114))]
noncomputable abbrev u6(v:IV)(x0:(LoopHook.X (kN v))):List SV:=[(.xs v.A v.n v.c),(.raw (x0.snd 1)),(.raw (x0.snd 2)),(.ptr 0 0),(.raw (x0.snd 4)),(.int .i64 (-1) true),(.int .i64 1 true),(.raw (x0.snd 7)),(.raw (x0.snd 8)),(.raw (x0.snd 9)),(.raw (x0.snd 10)),(.raw (x0.snd 11)),(.raw (x0.snd 12)),(.raw (x0.snd 13)),(.raw (x0.snd 14)),(.raw (x0.snd 15)),(.raw (x0.snd 16)),(.raw (x0.snd 17)),(.raw (x0.snd 18)),(.raw (x0.snd 19)),(.raw (x0.snd 20)),(.raw (x0.snd 21)),(.raw (x0.snd 22)),(.raw (x0.snd 23)),(.raw (x0.snd 24)),(.raw (x0.snd 25)),(.raw (x0.snd 26)),(.raw (x0.snd 27)),(.raw (x0.snd 28)),(.raw (x0.snd 29)),(.raw (x0.snd 30)),(.raw (x0.snd 31)),(.raw (x0.snd 32)),(.ptr 0 0),(.int .i64 (x0.fst.getD 0 (0:Int)) false),(.ptr 0 1),(.int .i64 (x0.fst.getD 1 (0:Int)) false),(.int .i64 (m5 v x0) false),(.ptr 0 2),(.int .i64 (x0.fst.getD 2 (0:Int)) false),(u2 v x0),(.ptr 0 3),(.int .i64 (x0.fst.getD 3 (0:Int)) false),(.int .i64 (qe v x0) false),(.ptr 0 4),(.int .i64 (x0.fst.getD 4 (0:Int)) false),(.int .i64 (i64.wrap (kG v x0)) false),(.bool (i64.wrap (kG v x0) == (0:Int)) false),(.bool false true),(.tup []),(.tup []),(.tup []),(.bool false true),(.raw (x0.snd 53)),(.raw (x0.snd 54)),(.raw (x0.snd 55)),(.raw (x0.snd 56)),(.int .i64 0 true),(.raw (x0.snd 58)),(.raw (x0.snd 59)),(.raw (x0.snd 60)),(.raw (x0.snd 61)),(.raw (x0.snd 62)),(.raw (x0.snd 63)),(.raw (x0.snd 64)),(.raw (x0.snd 65)),(.raw (x0.snd 66)),(.raw (x0.snd 67)),(.raw (x0.snd 68)),(.raw (x0.snd 69)),(.raw (x0.snd 70)),(.raw (x0.snd 71)),(.raw (x0.snd 72)),(.raw (x0.snd 73)),(.raw (x0.snd 74)),(.raw (x0.snd 75)),(.raw (x0.snd 76)),(.raw (x0.snd 77)),(.raw (x0.snd 78)),(.raw (x0.snd 79)),(.raw (x0.snd 80)),(.raw (x0.snd 81)),(.raw (x0.snd 82)),(.raw (x0.snd 83)),(.raw (x0.snd 84)),(.raw (x0.snd 85)),(.raw (x0.snd 86)),(.raw (x0.snd 87)),(.raw (x0.snd 88)),(.raw (x0.snd 89)),(.raw (x0.snd 90)),(.raw (x0.snd 91)),(.raw (x0.snd 92)),(.raw (x0.snd 93)),(.raw (x0.snd 94)),(.raw (x0.snd 95)),(.raw (x0.snd 96)),(.raw (x0.snd 97)),(.raw (x0.snd 98)),(.raw (x0.snd 99)),(.raw (x0.snd 100)),(.raw (x0.snd 101)),(.raw (x0.snd 102)),(.raw (x0.snd 103)),(.raw (x0.snd 104)),(.raw (x0.snd 105)),(.raw (x0.snd 106)),(.raw (x0.snd 107)),(.raw (x0.snd 108)),(.raw (x0.snd 109)),(.raw (x0.snd 110)),(.raw (x0.snd 111)),(.raw (x0.snd 112)),(.raw (x0.snd 113)),(.raw (x0.snd 114))]
noncomputable abbrev rZ:List SV:=[(.int .i64 0 true),(.int .i64 0 true),(.int .i64 0 true),(.int .i64 0 true),(.int .i64 0 true),(.int .i64 0 true),(.int .i64 0 true),(.int .i64 0 true)]
noncomputable abbrev iY(w2:World)(b2:List Nat):SS:=(SS.mk [(.ints .i64 [] 100 0 0)] [] true w2 b2)
noncomputable abbrev bF(l:List Int)(w1:World)(b1:List Nat):SS:=(SS.mk [(.ints .i64 l 100 0 0)] [] true w1 b1)
noncomputable abbrev qf(v:IV):List SV:=([(.xs v.A v.n v.c),(.tup []),(.str (ByteArray.mk #[]) true),(.ptr 0 0),(.tup []),(.tup []),(.tup []),(.tup []),(.tup []),(.tup []),(.tup []),(.agg rZ),(.int .i64 0 true)]++List.replicate 102 az)
noncomputable abbrev fN(v:IV)(x0:(LoopHook.X (kN v)))(w0:World)(b0:List Nat):SS:=(SS.mk [(.ints .i64 x0.fst 100 0 0)] [] true w0 b0)
noncomputable abbrev u5(l:List Int)(x1:(LoopHook.X (lk l)))(w1:World)(b1:List Nat):T:=(.loop 48 (av Tryz.prog 48 22) (u1 l x1) (bF l w1 b1) (LoopHook.X (uh l)) (LoopHook.out (uh l) (u1 l x1) (bF l w1 b1)) (fun x2 w2 b2=>(.leaf .ret [(.str x2.fst false)] (bF l w2 b2))) (LoopHook.Y (uh l)) (LoopHook.out' (uh l) (u1 l x1) (bF l w1 b1)) (fun x2 w2 b2=>(.leaf .ret [(.raw (x2.snd 2))] (iY w2 b2))))
theorem Iw(v:IV)(l:List Int)(w:World):al Tryz.prog (MJ v l) 1000 48 [.xs v.A v.n v.c] (SS.mk [] [] true w []) =
(.loop 48 (av Tryz.prog 48 4) (qf v) (SS.mk [(.cells rZ 8 100 0 0)] [] true w []) (LoopHook.X (kN v)) (LoopHook.out (kN v) (qf v) (SS.mk [(.cells rZ 8 100 0 0)] [] true w [])) (fun x0 w0 b0=>(.need (0<x0.fst.length) (.need (1<x0.fst.length) (.need (2<x0.fst.length) (.need (3<x0.fst.length) (.need (4<x0.fst.length) (.split (i64.wrap (kG v x0) == (0:Int)) (.need (5<x0.fst.length) (.split (x0.fst.getD 5 (0:Int) == (65535:Int)) (.need ((0:Int)<=(12:Int)/\(12:Int)<=(↑v.n:Int)) (.hc 47 [(.xs (if v.c=12 then v.A else Option.map (fun x=>x.add 12) v.A) (v.n-12) (v.c-12))] (fN v x0 w0 b0) (aR) fun x1 w1 b1=>(.need ((↑(7+ByteArray.size x1):Int)<=i64.max) (.leaf .ret [(.str (ByteArray.mk #[(58:UInt8),(58:UInt8),(102:UInt8),(102:UInt8),(102:UInt8),(102:UInt8),(58:UInt8)]++x1) false)] (fN v x0 w1 b1))))) (.loop 48 (av Tryz.prog 48 12) (u4 v x0) (fN v x0 w0 b0) (LoopHook.X (lk l)) (LoopHook.out (lk l) (u4 v x0) (fN v x0 w0 b0)) (fun x1 w1 b1=>(u5 l x1 w1 b1)) (LoopHook.Y (lk l)) (LoopHook.out' (lk l) (u4 v x0) (fN v x0 w0 b0)) (fun x1 w1 b1=>(.leaf .ret [(.raw (x1.snd 2))] (iY w1 b1)))))) (.loop 48 (av Tryz.prog 48 12) (u6 v x0) (fN v x0 w0 b0) (LoopHook.X (lk l)) (LoopHook.out (lk l) (u6 v x0) (fN v x0 w0 b0)) (fun x1 w1 b1=>(u5 l x1 w1 b1)) (LoopHook.Y (lk l)) (LoopHook.out' (lk l) (u6 v x0) (fN v x0 w0 b0)) (fun x1 w1 b1=>(.leaf .ret [(.raw (x1.snd 2))] (iY w1 b1))))))))))) (LoopHook.Y (kN v)) (LoopHook.out' (kN v) (qf v) (SS.mk [(.cells rZ 8 100 0 0)] [] true w [])) (fun x0 w0 b0=>(.leaf .ret [(.raw (x0.snd 2))] (iY w0 b0)))):=by kernel_rfl
theorem OI(v:IV)(l:List Int)(w:World):(by have h:=Iw v l w;unfold u5 fN qf bF iY rZ u6 u4 kG u2 qe m5 u1 at h;exact type_of% h):=Iw v l w
noncomputable abbrev nR(i:Nat):Int:=(i64.wrap ((2:Int)*(↑i:Int))+(1:Int))
theorem EH(v:IV)(l:List Int)(i:Nat)(w:World)(bs:List Nat)(g:Nat->Value):aO Tryz.prog ar 1000 48 (av Tryz.prog 48 4) (ay ((J6 .normal).zip (BE v i)) g 115 0) (fun e a s=>.leaf e (fG J6 e a) s) (SS.mk (bV l) [] true w bs) =
(.split (decide ((↑i:Int)<(8:Int))) (.need ((0:Int)<=i64.wrap ((2:Int)*(↑i:Int))/\i64.wrap ((2:Int)*(↑i:Int))<(↑v.n:Int)) (.need (v.A.isSome=true) (.need (canRead w bs ((v.A.getD default).add ((i64.wrap ((2:Int)*(↑i:Int))).toNat*1)) [SV.int u8 (aj w (((v.A.getD default).add ((i64.wrap ((2:Int)*(↑i:Int))).toNat*1)).add 0)) false]) (.need ((0:Int)<=i64.wrap (nR i)/\i64.wrap (nR i)<(↑v.n:Int)) (.need (v.A.isSome=true) (.need (canRead w bs ((v.A.getD default).add ((i64.wrap (nR i)).toNat*1)) [SV.int u8 (aj w (((v.A.getD default).add ((i64.wrap (nR i)).toNat*1)).add 0)) false]) (.need ((0:Int)<=(↑i:Int)/\(↑i:Int)<(↑(8:Nat):Int)) (.need (0+(↑i:Int).toNat*1<l.length) (.need (an 0 0 (0+(↑i:Int).toNat*1) 1=true) (.leaf .normal [(.xs v.A v.n v.c),(.ptr 0 0),(.int .i64 (i64.wrap ((↑i:Int)+(1:Int))) false)] (SS.mk [(.ints .i64 (l.set (0+(↑i:Int).toNat*1) (i64.wrap (↑(BitVec.ofInt 64 (i64.wrap (i64.wrap (aj w (((v.A.getD default).add ((i64.wrap ((2:Int)*(↑i:Int))).toNat*1)).add 0))*(2:Int)^8)) |||BitVec.ofInt 64 (i64.wrap (aj w (((v.A.getD default).add ((i64.wrap (nR i)).toNat*1)).add 0)))).toNat:Int))) 100 0 0)] [] true w bs))))))))))) (.leaf (.exit 0) [(.xs v.A v.n v.c),(.ptr 0 0)] (bF l w bs))):=by kernel_rfl
theorem L4(v:IV)(l:List Int)(i:Nat)(w:World)(bs:List Nat)(g:Nat->Value):(by have h:=EH v l i w bs g;unfold bF nR at h;exact type_of% h):=EH v l i w bs g
noncomputable abbrev u7(g:Nat->Value)(z:S6):List SV:=[(.raw (g 0)),(.raw (g 1)),(.raw (g 2)),(.ptr 0 0),(.raw (g 4)),(.int .i64 z.at_ false),(.int .i64 ((↑z.most:Int)) false),(.int .i64 ((↑z.i:Int)) false),(.int .i64 0 true),(.raw (g 9)),(.raw (g 10)),(.raw (g 11)),(.raw (g 12)),(.raw (g 13)),(.raw (g 14)),(.raw (g 15)),(.raw (g 16)),(.raw (g 17)),(.raw (g 18)),(.raw (g 19)),(.raw (g 20)),(.raw (g 21)),(.raw (g 22)),(.raw (g 23)),(.raw (g 24)),(.raw (g 25)),(.raw (g 26)),(.raw (g 27)),(.raw (g 28)),(.raw (g 29)),(.raw (g 30)),(.raw (g 31)),(.raw (g 32)),(.raw (g 33)),(.raw (g 34)),(.raw (g 35)),(.raw (g 36)),(.raw (g 37)),(.raw (g 38)),(.raw (g 39)),(.raw (g 40)),(.raw (g 41)),(.raw (g 42)),(.raw (g 43)),(.raw (g 44)),(.raw (g 45)),(.raw (g 46)),(.raw (g 47)),(.raw (g 48)),(.raw (g 49)),(.raw (g 50)),(.raw (g 51)),(.raw (g 52)),(.raw (g 53)),(.raw (g 54)),(.raw (g 55)),(.raw (g 56)),(.int .i64 ((↑z.i:Int)) false),(.bool true true),(.int .i64 ((↑z.i:Int)) false),(.raw (g 60)),(.raw (g 61)),(.raw (g 62)),(.raw (g 63)),(.raw (g 64)),(.raw (g 65)),(.raw (g 66)),(.raw (g 67)),(.raw (g 68)),(.raw (g 69)),(.raw (g 70)),(.raw (g 71)),(.raw (g 72)),(.raw (g 73)),(.raw (g 74)),(.raw (g 75)),(.raw (g 76)),(.raw (g 77)),(.raw (g 78)),(.raw (g 79)),(.raw (g 80)),(.raw (g 81)),(.raw (g 82)),(.raw (g 83)),(.raw (g 84)),(.raw (g 85)),(.raw (g 86)),(.raw (g 87)),(.raw (g 88)),(.raw (g 89)),(.raw (g 90)),(.raw (g 91)),(.raw (g 92)),(.raw (g 93)),(.raw (g 94)),(.raw (g 95)),(.raw (g 96)),(.raw (g 97)),(.raw (g 98)),(.raw (g 99)),(.raw (g 100)),(.raw (g 101)),(.raw (g 102)),(.raw (g 103)),(.raw (g 104)),(.raw (g 105)),(.raw (g 106)),(.raw (g 107)),(.raw (g 108)),(.raw (g 109)),(.raw (g 110)),(.raw (g 111)),(.raw (g 112)),(.raw (g 113)),(.raw (g 114))]
theorem EI(l:List Int)(z:S6)(w:World)(bs:List Nat)(g:Nat->Value):aO Tryz.prog (KO l z) 1000 48 (av Tryz.prog 48 12) (ay ((J7 .normal).zip (yf z)) g 115 0) (fun e a s=>.leaf e (fG J7 e a) s) (SS.mk (bV l) [] true w bs) =
(.split (decide ((↑z.i:Int)<(8:Int))) (.loop 48 (av Tryz.prog 48 15) (u7 g z) (bF l w bs) (LoopHook.X (D8 l z)) (LoopHook.out (D8 l z) (u7 g z) (bF l w bs)) (fun x0 w0 b0=>(.split (decide ((↑x0.fst:Int) > (↑z.most:Int))) (.leaf .normal [(.ptr 0 0),(.int .i64 ((↑z.i:Int)) false),(.int .i64 ((↑x0.fst:Int)) false),(.int .i64 (i64.wrap ((↑z.i:Int)+(1:Int))) false)] (bF l w0 b0)) (.leaf .normal [(.ptr 0 0),(.int .i64 z.at_ false),(.int .i64 ((↑z.most:Int)) false),(.int .i64 (i64.wrap ((↑z.i:Int)+(1:Int))) false)] (bF l w0 b0)))) (LoopHook.Y (D8 l z)) (LoopHook.out' (D8 l z) (u7 g z) (bF l w bs)) (fun x0 w0 b0=>(.leaf .ret [] (iY w0 b0)))) (.leaf (.exit 2) [(.ptr 0 0),(.int .i64 z.at_ false),(.int .i64 ((↑z.most:Int)) false)] (bF l w bs))):=by kernel_rfl
theorem L5(l:List Int)(z:S6)(w:World)(bs:List Nat)(g:Nat->Value):(by have h:=EI l z w bs g;unfold bF iY u7 at h;exact type_of% h):=EI l z w bs g
noncomputable abbrev zY(z:S6i)(l:List Int)(w:World)(bs:List Nat):T:=(.leaf (.exit 4) [(.ptr 0 0),(.int .i64 z.at_ false),(.int .i64 ((↑z.most:Int)) false),(.int .i64 ((↑z.i:Int)) false),(.int .i64 ((↑z.n:Int)) false),(.int .i64 ((↑z.i:Int)) false)] (bF l w bs))
theorem EJ(l:List Int)(z:S6i)(w:World)(bs:List Nat)(g:Nat->Value):aO Tryz.prog ar 1000 48 (av Tryz.prog 48 15) (ay ((Kj .normal).zip (th z)) g 115 0) (fun e a s=>.leaf e (fG Kj e a) s) (SS.mk (bV l) [] true w bs) =
(.split (decide (i64.wrap ((↑z.i:Int)+(↑z.n:Int))<(8:Int))) (.need ((0:Int)<=i64.wrap ((↑z.i:Int)+(↑z.n:Int))/\i64.wrap ((↑z.i:Int)+(↑z.n:Int))<(↑(8:Nat):Int)) (.need (0+(i64.wrap ((↑z.i:Int)+(↑z.n:Int))).toNat*1<l.length) (.split (l.getD (0+(i64.wrap ((↑z.i:Int)+(↑z.n:Int))).toNat*1) (0:Int) == (0:Int)) (.leaf .normal [(.ptr 0 0),(.int .i64 z.at_ false),(.int .i64 ((↑z.most:Int)) false),(.int .i64 ((↑z.i:Int)) false),(.int .i64 (i64.wrap ((↑z.n:Int)+(1:Int))) false),(.int .i64 ((↑z.i:Int)) false)] (bF l w bs)) (zY z l w bs)))) (zY z l w bs)):=by kernel_rfl
theorem L6(l:List Int)(z:S6i)(w:World)(bs:List Nat)(g:Nat->Value):(by have h:=EJ l z w bs g;unfold zY bF at h;exact type_of% h):=EJ l z w bs g
noncomputable abbrev u3(l:List Int)(z:S6s):SV:=(.int .i64 (l.getD (0+(↑z.i:Int).toNat*1) (0:Int)) false)
noncomputable abbrev qg(z:S6s):Prop:=((0:Int)<=(↑z.i:Int)/\(↑z.i:Int)<(↑(8:Nat):Int))
noncomputable abbrev zW(z:S6s)(l:List Int)(w:World)(bs:List Nat):T:=(.need ((↑(z.s.size+1):Int)<=i64.max) (.need (qg z) (.need (0+(↑z.i:Int).toNat*1<l.length) (.hc 76 [(u3 l z)] (bF l w bs) (aR) fun x0 w0 b0=>(.need ((↑((z.s++ByteArray.mk #[(58:UInt8)]).size+ByteArray.size x0):Int)<=i64.max) (.leaf .normal [(.ptr 0 0),(.int .i64 z.at_ false),(.int .i64 ((↑z.most:Int)) false),(.str (z.s++ByteArray.mk #[(58:UInt8)]++x0) false),(.int .i64 (i64.wrap ((↑z.i:Int)+(1:Int))) false)] (bF l w0 b0)))))))
noncomputable abbrev zX(z:S6s)(l:List Int)(w:World)(bs:List Nat):T:=(.need (0+(↑z.i:Int).toNat*1<l.length) (.hc 76 [(u3 l z)] (bF l w bs) (aR) fun x0 w0 b0=>(.need ((↑(z.s.size+ByteArray.size x0):Int)<=i64.max) (.leaf .normal [(.ptr 0 0),(.int .i64 z.at_ false),(.int .i64 ((↑z.most:Int)) false),(.str (z.s++x0) false),(.int .i64 (i64.wrap ((↑z.i:Int)+(1:Int))) false)] (bF l w0 b0)))))
theorem EK(v:IV)(l:List Int)(z:S6s)(w:World)(bs:List Nat)(g:Nat->Value):aO Tryz.prog (MJ v l) 1000 48 (av Tryz.prog 48 22) (ay ((J8 .normal).zip (rq z)) g 115 0) (fun e a s=>.leaf e (fG J8 e a) s) (SS.mk (bV l) [] true w bs) =
(.split (decide ((↑z.i:Int)<(8:Int))) (.split ((↑z.i:Int) == z.at_) (.need ((↑(z.s.size+2):Int)<=i64.max) (.leaf .normal [(.ptr 0 0),(.int .i64 z.at_ false),(.int .i64 ((↑z.most:Int)) false),(.str (z.s++ByteArray.mk #[(58:UInt8),(58:UInt8)]) false),(.int .i64 (i64.wrap (i64.wrap ((↑z.i:Int)+i64.wrap ((↑z.most:Int)-(1:Int)))+(1:Int))) false)] (bF l w bs))) (.split (decide ((↑z.i:Int) > (0:Int))) (.split (decide (z.at_<(0:Int))) (zW z l w bs) (.split ((↑z.i:Int) != i64.wrap (z.at_+(↑z.most:Int))) (zW z l w bs) (.need (qg z) (zX z l w bs)))) (.need (qg z) (zX z l w bs)))) (.leaf (.exit 6) [(.str z.s false)] (bF l w bs))):=by kernel_rfl
theorem L8(v:IV)(l:List Int)(z:S6s)(w:World)(bs:List Nat)(g:Nat->Value):(by have h:=EK v l z w bs g;unfold zX zW qg u3 bF at h;exact type_of% h):=EK v l z w bs g
end
section
open Go Go.Rx Go.RowKit
def ck:List UInt8->List (List UInt8)
 |[]=>[[]]
 |x :: r=>if x=47 then[] :: ck r else match ck r with
  |[]=>[[x]]
  |f :: fs=>(x :: f) :: fs
theorem tX:∀l:List UInt8,ck l≠[]
 |[]=>by simp[ck]
 |x :: r=>by
  rw[ck]
  split
  ·simp
  ·split <;> simp
theorem qI(r:List UInt8):ck (47 :: r)=[] :: ck r:=by rw[ck,if_pos rfl]
theorem iy:∀ {a:List UInt8},(∀x∈a,x≠47)->ck a=[a]
 |[],_=>rfl
 |x :: r,h=>by
  rw[ck,if_neg (h x List.mem_cons_self),iy fun y hy=>h y (List.mem_cons_of_mem _ hy)]
theorem ia:∀ {a:List UInt8}(r:List UInt8),(∀x∈a,x≠47)->ck (a++47 :: r)=a :: ck r
 |[],r,_=>qI r
 |x :: a,r,h=>by
  rw[List.cons_append,ck,if_neg (h x List.mem_cons_self),ia r fun y hy=>h y (List.mem_cons_of_mem _ hy)]
def sW:List (List UInt8)->List UInt8
 |[]=>[]
 |[f]=>f
 |f :: fs=>f++47 :: sW fs
theorem lj(f:List UInt8){fs:List (List UInt8)}(h:fs≠[]):sW (f :: fs)=f++47 :: sW fs:=by
 cases fs with
 |nil=>exact absurd rfl h
 |cons g r=>rfl
theorem sX:∀l:List UInt8,sW (ck l)=l
 |[]=>rfl
 |x :: r=>by
  have ih:=sX r
  have hn:=tX r
  rw[ck]
  split
  ·rename_i h
   rw[lj _ hn,ih,h]
   rfl
  ·cases hc:ck r with
   |nil=>exact absurd hc hn
   |cons f fs=>
    rw[hc]at ih
    show sW ((x :: f) :: fs)=_
    cases fs with
    |nil=>show x :: f=x :: r;rw[<- ih];rfl
    |cons g gs=>
     rw[lj _ (by simp)]at ih ⊢
     rw[<- ih]
     rfl
def bz(k:Int)(txt:List UInt8):List UInt8:=47 :: ((ai k).name++(if(ai k).size≠0/\(ai k).path=false then 47 :: txt else txt))
def tR(k:Int)(txt:List UInt8):List (List UInt8):=(ai k).name :: (if(ai k).size=0 then[] else if(ai k).path then ck (txt.drop 1) else[txt])
theorem oV:∀k∈bc,(∀x∈(ai k).name,x≠47)/\(ai k).name≠[]:=by decide
theorem sP:∀x:Nat,x<256->∀y∈cU x,y≠47:=by decide +kernel
theorem oL:∀d:Nat,d<10->UInt8.ofNat (48+d)≠47:=by decide
theorem jb(n:Nat):∀y∈Lib.decDigits n,y≠47:=by
 induction n using Nat.strongRecOn with
 |_ n ih=>
  intro y hy
  rw[Lib.decDigits]at hy
  split at hy
  ·rename_i h
   simp only[List.mem_singleton]at hy
   subst hy
   exact oL n h
  ·rename_i h
   rcases List.mem_append.1 hy with h1 |h1
   ·exact ih _ (by omega) y h1
   ·simp only[List.mem_singleton]at h1
    subst h1
    exact oL _ (by omega)
theorem kR(n:Nat):∀y∈ax n,y≠47:=by
 intro y hy
 rw[cE]at hy
 obtain⟨d,hd,rfl⟩:=List.mem_map.1 hy
 have:∀d:Nat,d<16->ca d≠47:=by decide
 exact this d (mn n d hd)
theorem mq:∀G:List Nat,∀y∈jn G,y≠47
 |[],y,hy=>by simp[jn]at hy
 |[g],y,hy=>kR g y hy
 |g :: g' :: r,y,hy=>by
  have e:jn (g :: g' :: r)=ax g++[58]++jn (g' :: r):=rfl
  rw[e]at hy
  simp only[List.mem_append,List.mem_singleton]at hy
  rcases hy with(h |rfl) |h
  ·exact kR g y h
  ·decide
  ·exact mq (g' :: r) y h
theorem o8(a b c d:UInt8):∀y∈aE a b c d,y≠47:=by
 intro y hy
 simp only[aE,List.mem_append,List.mem_singleton]at hy
 have h:=fun x:UInt8=>sP x.toNat x.toNat_lt
 rcases hy with(((((hy |rfl) |hy) |rfl) |hy) |rfl) |hy
 all_goals first
  |exact h _ _ hy
  |decide
theorem CR(l:List UInt8):∀y∈pK l,y≠47:=by
 intro y hy
 unfold pK at hy
 split at hy
 ·rcases List.mem_append.1 hy with h |h
  ·exact(by decide:∀y∈([58,58,102,102,102,102,58]:List UInt8),y≠47) y h
  ·exact o8 _ _ _ _ y h
 ·unfold jw gS at hy
  split at hy
  ·exact mq _ y hy
  ·simp only[List.mem_append]at hy
   rcases hy with(h |h) |h
   ·exact mq _ y h
   ·exact(by decide:∀y∈([58,58]:List UInt8),y≠47) y h
   ·exact mq _ y h
theorem fJ(n:Nat):Lib.decDigits n≠[]:=by
 rw[Lib.decDigits]
 split
 ·simp
 ·simp
theorem FU(n:Nat):cU n≠[]:=by
 unfold cU
 split
 ·simp
 ·split <;> simp
theorem EY(a b c d:UInt8):aE a b c d≠[]:=by simp[aE]
theorem y7(n:Nat):ax n≠[]:=by
 rw[cE]
 have:=ny n
 intro h
 rw[List.map_eq_nil_iff]at h
 rw[h]at this
 simp at this
theorem KW:∀ {G:List Nat},G≠[]->jn G≠[]
 |[],h=>absurd rfl h
 |[g],_=>y7 g
 |g :: g' :: r,_=>by
  have e:jn (g :: g' :: r)=ax g++[58]++jn (g' :: r):=rfl
  rw[e]
  simp
theorem JL(l:List UInt8):pK l≠[]:=by
 unfold pK
 split
 ·simp
 ·unfold jw gS
  split
  ·exact KW (rt l (by omega))
  ·simp
theorem Pth.head{l:List UInt8}(h:Pth l):∃r,l=47 :: r:=by
 obtain⟨h1,h2,_⟩:=h
 cases l with
 |nil=>simp at h1
 |cons x r=>exact⟨r,by rw[show x=47 from h2]⟩
theorem Simple.facts{k:Int}{val txt:List UInt8}(h:Simple k val txt):(txt=[]/\(ai k).size=0/\(ai k).path=false/\bz k txt=47 :: (ai k).name)∨(txt≠[]/\(ai k).size≠0/\(ai k).path=false/\bz k txt=47 :: ((ai k).name++47 :: txt)) ∨
  (∃r,txt=47 :: r/\(ai k).size≠0/\(ai k).path=true/\Pth txt/\bz k txt=47 :: ((ai k).name++txt)):=by
 unfold bz
 cases h with
 |N _ hz hp=>exact .inl ⟨rfl,hz,hp,by rw[if_neg (fun h=>h.1 hz),List.append_nil]⟩
 |P _ hz hp=>exact .inr (.inl ⟨fJ _,by rw[hz];decide,hp,by rw[if_pos ⟨by rw[hz];decide,hp⟩]⟩)
 |F _ hz hp=>exact .inr (.inl ⟨EY _ _ _ _,by rw[hz];decide,hp,by rw[if_pos ⟨by rw[hz];decide,hp⟩]⟩)
 |S _ hz hp=>exact .inr (.inl ⟨JL _,by rw[hz];decide,hp,by rw[if_pos ⟨by rw[hz];decide,hp⟩]⟩)
 |C _ hz hp=>exact .inr (.inl ⟨FU _,by rw[hz];decide,hp,by rw[if_pos ⟨by rw[hz];decide,hp⟩]⟩)
 |M _ hz hp=>exact .inr (.inl ⟨fJ _,by rw[hz];decide,hp,by rw[if_pos ⟨by rw[hz];decide,hp⟩]⟩)
 |D _ hz hp _ _ hn=>exact .inr (.inl ⟨hn.1,by rw[hz];decide,hp,by rw[if_pos ⟨by rw[hz];decide,hp⟩]⟩)
 |Z _ hz hp _ _ hn=>exact .inr (.inl ⟨hn.1,by rw[hz];decide,hp,by rw[if_pos ⟨by rw[hz];decide,hp⟩]⟩)
 |U _ hz hp _ _ hn=>
  obtain⟨r,hr⟩:=hn.head
  exact .inr (.inr ⟨r,hr,by rw[hz];decide,hp,hn,by rw[if_neg (fun h=>by rw[hp]at h;cases h.2)]⟩)
theorem Simple.plain{k:Int}{val txt:List UInt8}(h:Simple k val txt)(hp:(ai k).path=false):∀y∈txt,y≠47:=by
 cases h with
 |N=>intro y hy;simp at hy
 |P=>exact jb _
 |F=>exact o8 _ _ _ _
 |S=>exact CR _
 |C _ _ _ _ a=>exact sP _ a.toNat_lt
 |M=>exact jb _
 |D _ _ _ _ _ hn=>exact hn.2
 |Z _ _ _ _ _ hn=>exact hn.2
 |U _ _ hp'=>rw[hp']at hp;cases hp
end
section
open Go Go.Rx Go.RowKit
def IC(n r:Nat):Prop:=n<2^r/\r<=64/\(0<n->1<=r/\2^(r-1)<=n)/\(n=0->r=0)
theorem gC{w:World}{s:SS}(hf:Fine w s){n c m:Nat}{C X:Int}{tab:List UInt8}(hC:C=c)(hX:X=m)(hm:m<256)(hn:n/2^c=m)(hc:c<=56)
  (htab:((List.range 256).all fun k=>decide (k<2^(tab.getD k 0).toNat/\(tab.getD k 0).toNat<=8/\(0<k->1<=(tab.getD k 0).toNat/\2^((tab.getD k 0).toNat-1)<=k)/\(k=0->(tab.getD k 0).toNat=0)))=true) (hm1:0<m∨c=0) :
  (T.need (0<=u8.wrap X/\u8.wrap X<((256:Nat):Int)) (.leaf .ret [.int .i64 (i64.wrap (C+i64.wrap ((tab.getD (u8.wrap X).toNat 0).toNat:Int))) false] s)).holds
   (c8 Tryz.prog (bH fun v w'=>yS (IC n) v w'/\Below w.heap.size w w')):=by
 subst hC hX
 rw[fL hm]
 rw[List.all_eq_true]at htab
 obtain⟨h1,h8,h3,h4⟩:=of_decide_eq_true (htab m (List.mem_range.2 hm))
 rw[show((m:Nat):Int).toNat=m from rfl]
 generalize (tab.getD m 0).toNat=t at *
 have h2:n<2^c*(m+1):=by
  have:=Nat.lt_mul_div_succ n (show 0<2^c from Nat.pow_pos (by omega))
  rw[hn]at this
  exact this
 have h5:2^c*m<=n:=by
  rw[<- hn]
  exact Nat.mul_div_le n (2^c)
 refine aa (by omega) (aQ hf fun β w' _ _=>⟨c+t,?_,?_,by omega,fun hpos=>?_,fun h0=>?_⟩)
 ·show Value.int .i64 (i64.wrap (_+i64.wrap (t:Int)))=_
  rw[aq (n:=(t:Int)) (by omega) (by omega),aq (by omega) (by omega)]
  simp
 ·rw[Nat.pow_add]
  exact Nat.lt_of_lt_of_le h2 (Nat.mul_le_mul_left _ (by omega))
 ·have hmp:0<m:=by
   rcases hm1 with h |h
   ·exact h
   ·subst h
    simp at hn
    omega
  obtain⟨g1,g2⟩:=h3 hmp
  refine⟨by omega,?_⟩
  rw[show c+t-1=c+(t-1) by omega,Nat.pow_add]
  exact Nat.le_trans (Nat.mul_le_mul_left _ g2) h5
 ·subst h0
  have hm0:m=0:=by rw[<- hn];simp
  rcases hm1 with h |h
  ·omega
  ·have:=h4 hm0
   omega
theorem F9(n:Nat)(w:World)(hn:n<2^64):Calls Tryz.prog 136 #[.int .u64 n] w (bB (yS (IC n)) w):=by
 refine aF (hk:=ar) (n:=200) (args:=[.int .u64 n false]) ⟨trivial,trivial⟩ ?_
 rw[Mb]
 refine ae (fun h1=>?_) (fun h1=>?_) <;> simp only[decide_eq_true_eq,decide_eq_false_iff_not]at h1
 ·refine ae (fun h2=>?_) (fun h2=>?_) <;> simp only[decide_eq_true_eq,decide_eq_false_iff_not,sO]at h2
  ·refine ae (fun h3=>?_) (fun h3=>?_) <;> simp only[decide_eq_true_eq,decide_eq_false_iff_not,sO,sN]at h3
   ·exact gC (Fine.start _ _) (c:=56) (m:=n/4294967296/65536/256) (by decide) (by simp only[sO,sN,d8]) (by omega) (by omega) (by omega) (by decide +kernel) (by omega)
   ·exact gC (Fine.start _ _) (c:=48) (m:=n/4294967296/65536) (by decide) (by simp only[sO,sN,d8]) (by omega) (by omega) (by omega) (by decide +kernel) (by omega)
  ·refine ae (fun h3=>?_) (fun h3=>?_) <;> simp only[decide_eq_true_eq,decide_eq_false_iff_not,sO,sN]at h3
   ·exact gC (Fine.start _ _) (c:=40) (m:=n/4294967296/256) (by decide) (by simp only[sO,sN,d8]) (by omega) (by omega) (by omega) (by decide +kernel) (by omega)
   ·exact gC (Fine.start _ _) (c:=32) (m:=n/4294967296) (by decide) (by simp only[sO,sN,d8]) (by omega) (by omega) (by omega) (by decide +kernel) (by omega)
 ·refine ae (fun h2=>?_) (fun h2=>?_) <;> simp only[decide_eq_true_eq,decide_eq_false_iff_not]at h2
  ·refine ae (fun h3=>?_) (fun h3=>?_) <;> simp only[decide_eq_true_eq,decide_eq_false_iff_not,sN]at h3
   ·exact gC (Fine.start _ _) (c:=24) (m:=n/65536/256) (by decide) (by simp only[sO,sN,d8]) (by omega) (by omega) (by omega) (by decide +kernel) (by omega)
   ·exact gC (Fine.start _ _) (c:=16) (m:=n/65536) (by decide) (by simp only[sO,sN,d8]) (by omega) (by omega) (by omega) (by decide +kernel) (by omega)
  ·refine ae (fun h3=>?_) (fun h3=>?_) <;> simp only[decide_eq_true_eq,decide_eq_false_iff_not]at h3
   ·exact gC (Fine.start _ _) (c:=8) (m:=n/256) (by decide) (by simp only[sO,sN,d8]) (by omega) (by omega) (by omega) (by decide +kernel) (by omega)
   ·exact gC (Fine.start _ _) (c:=0) (m:=n) (by decide) rfl (by omega) (by omega) (by omega) (by decide +kernel) (by omega)
theorem kA:∀(r n:Nat),1<=r->n<128^r->(r=1∨128^(r-1)<=n)->(uv n).length=r
 |0,n,h,_,_=>absurd h (by omega)
 |1,n,_,h,_=>by rw[bO (by simpa using h)];rfl
 |r+2,n,_,h,h2=>by
  have h3:128^(r+1)<=n:=by
   rcases h2 with h2 |h2
   ·omega
   ·exact h2
  have h4:128<=128^(r+1):=by
   rw[Nat.pow_succ]
   have:=Nat.pow_pos (n:=r) (show 0<128 by omega)
   omega
  rw[cx (by omega),List.length_cons,kA (r+1) (n/128) (by omega) (Nat.div_lt_of_lt_mul (by rw[Nat.pow_succ,Nat.mul_comm]at h;exact h)) ?_]
  by_cases hr:r=0
  ·exact .inl (by omega)
  ·refine .inr ?_
   rw[Nat.le_div_iff_mul_le (by omega)]
   have:128^(r+1-1)*128=128^(r+1):=by rw[Nat.add_sub_cancel,Nat.pow_succ]
   rw[this]
   exact h3
theorem E3(n:Nat)(w:World)(hn:n<2^64):Calls Tryz.prog 89 #[.int .u64 n] w (bB (yS fun r=>r=(uv n).length) w):=by
 refine aF (hk:=DB) (n:=200) (args:=[.int .u64 n false]) ⟨trivial,trivial⟩ ?_
 rw[Ma]
 refine mt (IC n) (Fine.start _ _) rfl (fun β w0 _=>F9 n w0 hn) ?_
 rintro x w1 bs ⟨hx,hx6,hpos,hzero⟩ hb hbs
 have hp:∀r,x<=7*r->n<128^r:=fun r hr=>by
  have:(128:Nat)^r=2^(7*r):=by rw[Nat.pow_mul]
  rw[this]
  exact Nat.lt_of_lt_of_le hx (Nat.pow_le_pow_right (by omega) hr)
 have hq:∀r,7*r<=x-1->0<n->128^r<=n:=fun r hr h0=>by
  have:(128:Nat)^r=2^(7*r):=by rw[Nat.pow_mul]
  rw[this]
  exact Nat.le_trans (Nat.pow_le_pow_right (by omega) hr) (hpos h0).2
 have hx0:0<x->0<n:=fun h=>Nat.pos_of_ne_zero fun h0=>by have:=hzero h0;omega
 have e1:((x:Int).tmod 7)=((x%7:Nat):Int):=rfl
 have e2:((x:Int).tdiv 7)=((x/7:Nat):Int):=rfl
 rw[e1,e2,aq (n:=((x/7:Nat):Int)) (by omega) (by omega),aq (n:=((x/7:Nat):Int)+1) (by omega) (by omega)]
 refine ae (fun h1=>?_) (fun h1=>ae (fun h2=>?_) (fun h2=>?_))
 ·refine aQ (Fine.mk' hb hbs) fun β w' _ _=>⟨x/7+1,rfl,(kA _ n (by omega) (hp _ (by omega)) ?_).symm⟩
  simp at h1
  by_cases h7:x/7=0
  ·exact .inl (by omega)
  ·exact .inr (hq _ (by omega) (hx0 (by omega)))
 ·refine aQ (Fine.mk' hb hbs) fun β w' _ _=>⟨x/7+1,rfl,(kA _ n (by omega) (hp _ (by omega)) ?_).symm⟩
  simp at h2
  exact .inl (by omega)
 ·simp at h1 h2
  refine aQ (Fine.mk' hb hbs) fun β w' _ _=>⟨x/7,rfl,(kA _ n (by omega) (hp _ (by omega)) ?_).symm⟩
  exact .inr (hq _ (by omega) (hx0 (by omega)))
end
section
open Go Go.Rx Go.RowKit
@[reducible] def vO1(s:ByteArray)(off:Nat)(x:PV)(k:Int):List SObj:=vO s off x k x.size (.one x.tr.1 x.tr.2)
theorem OB(s:ByteArray)(off:Nat)(x:PV)(k:Int)(w:World)(bs:List Nat):al Tryz.prog ar 3000 43 [.ptr 0 0] (SS.mk (vO1 s off x k) [] true w bs) =
 (.choose (.appendCap s.size 0 5) fun c0=>
 (.leaf .ret [(.slc 2 0 s.size c0 false false)] (SS.mk [(.cells [(.str s false),(.ptr 1 0),(.int .i64 ((↑off:Int)) false)] 3 64 0 0),(.cells [(.str x.name false),(.int .i64 k false),(.xs x.A x.n x.c),(.int .i64 x.size true),(.bool x.path false),(.one (x.tr).1 (x.tr).2)] 6 88 0 0),(.ints .u8 (List.map (fun b=>(↑b.toNat:Int)) s.data.toList++List.replicate (c0-s.size) (0:Int)) 5 c0 (c0+(1:Nat)))] [] true w bs))):=by kernel_rfl
theorem OH(s:ByteArray)(off:Nat)(x:PV)(k:Int)(w:World)(bs:List Nat):al Tryz.prog ar 3000 44 [.ptr 0 0] (SS.mk (vO1 s off x k) [] true w bs) =
 (.need ((0:Int)<=(↑off:Int)/\(↑off:Int)<=(↑s.size:Int))
 (.choose (.appendCap ((s.extract (↑off:Int).toNat s.size).size) 0 5) fun c0=>
 (.leaf .ret [(.slc 2 0 ((s.extract (↑off:Int).toNat s.size).size) c0 false false)] (SS.mk [(.cells [(.str s false),(.ptr 1 0),(.int .i64 ((↑off:Int)) false)] 3 64 0 0),(.cells [(.str x.name false),(.int .i64 k false),(.xs x.A x.n x.c),(.int .i64 x.size true),(.bool x.path false),(.one (x.tr).1 (x.tr).2)] 6 88 0 0),(.ints .u8 (List.map (fun b=>(↑b.toNat:Int)) (#[].extract (0:Nat) (0:Nat)++s.data.extract (↑off:Int).toNat ((↑off:Int).toNat+(s.size-(↑off:Int).toNat))++#[].extract ((0:Nat)+min (s.size-(↑off:Int).toNat) (s.data.size-(↑off:Int).toNat)) (0:Nat)).toList++List.replicate (c0-(s.extract (↑off:Int).toNat s.size).size) (0:Int)) 5 c0 (c0+(1:Nat)))] [] true w bs)))):=by kernel_rfl
end
section
open Go Go.Rx Go.RowKit
def GD(l:List UInt8)(w:World)(v:Value)(w':World):Prop:=∃b c,v=.slice (some ⟨b,0,none⟩) l.length c/\l.length<=c/\Bts w' w'.heap.size (some ⟨b,0,none⟩) l.length l/\w.heap.size<=b
theorem fu:∀k∈bc,(ai k).tr.oneCell'=true:=by decide
theorem CAt.vO1{w:World}{B p:Nat}{k:Int}{val:List UInt8}(h:CAt w B p k val)(hB:B<=w.heap.size)(hk:k∈bc) :
  ∃(β:Nat->Nat) (x:PV),β 0=p/\aH β (vO1 ⟨(bW k val++val).toArray⟩ (bW k val).length x (k.toNat:Nat)) w/\(∀i,i<2->β i<w.heap.size)/\(∀i j,i<2->j<2->β i=β j->i=j):=by
 obtain⟨β,x,h1,_,h2,h3,h4,_⟩:=h.vO hB hk (tr:=.one (ai k).tr (fu k hk)) rfl (fun _=>rfl)
 exact⟨β,{ x with size:=(ai k).size,tr:=⟨(ai k).tr,fu k hk⟩ },h1,h2,h3,h4⟩
theorem Ce{w:World}{B p:Nat}{k:Int}{val:List UInt8}(hk:k∈bc)(hc:CAt w B p k val)(hB:B<=w.heap.size) :
  Calls Tryz.prog 43 #[.pointer (some ⟨p,0,none⟩)] w (bB (GD (bW k val++val) w) w):=by
 obtain⟨β,x,rfl,hat,hlt,hinj⟩:=hc.vO1 hB hk
 generalize hL:bW k val++val=L at *
 generalize (bW k val).length=off at *
 obtain⟨o1,o2,o3⟩:=dS ⟨L.toArray⟩ off x (k.toNat:Nat) x.size (.one x.tr.1 x.tr.2) trivial
 have hst:=St.head (P:=Tryz.prog) (Q:=bH fun v w'=>GD L w v w'/\Below w.heap.size w w') o1 hlt hinj hat o2
 refine(fV (hk:=ar) (n:=3000) (args:=[.ptr 0 0]) (Q:=fun v w'=>GD L w v w'/\Below w.heap.size w w') hst ⟨by simp[SV.ok,SS.n],trivial⟩ ?_).mono ?_
 rotate_left
 ·rintro e w' ⟨v,rfl,h1,h2⟩
  exact⟨v,rfl,h1,h2⟩
 refine ah (OB _ _ x (k.toNat:Nat) w (ac β 2)) ?_
 refine aD ?_
 rintro c0 ⟨_,hc0⟩
 have hcut:L.length<=c0:=by
  have:(⟨L.toArray⟩:ByteArray).size<=c0:=hc0 ▸ bf
  simpa [ByteArray.size] using this
 refine aJ (w:=w) (bs:=ac β 2) ⟨rfl,Keep.refl _ _,fun b hb=>.inl hb⟩ fun β' w' hs hk=>⟨_,rfl,⟨β' 2,c0,?_,hcut,?_,?_⟩,bp hk hat (hs.objsAt rfl o2) o1 o3⟩
 ·simp only[SV.den,aC]
 ·exact br (hs.at_ 2 _ rfl) rfl (hs.lt 2 (by simp[SS.n]))
 ·exact(hs.old rfl).new 2 (by simp[ac]) (by simp[SS.n])
theorem Gl{w:World}{B p:Nat}{k:Int}{val:List UInt8}(hk:k∈bc)(hc:CAt w B p k val)(hB:B<=w.heap.size) :
  Calls Tryz.prog 44 #[.pointer (some ⟨p,0,none⟩)] w (bB (GD val w) w):=by
 obtain⟨β,x,rfl,hat,hlt,hinj⟩:=hc.vO1 hB hk
 generalize bW k val=pre at *
 obtain⟨o1,o2,o3⟩:=dS ⟨(pre++val).toArray⟩ pre.length x (k.toNat:Nat) x.size (.one x.tr.1 x.tr.2) trivial
 have hst:=St.head (P:=Tryz.prog) (Q:=bH fun v w'=>GD val w v w'/\Below w.heap.size w w') o1 hlt hinj hat o2
 refine(fV (hk:=ar) (n:=3000) (args:=[.ptr 0 0]) (Q:=fun v w'=>GD val w v w'/\Below w.heap.size w w') hst ⟨by simp[SV.ok,SS.n],trivial⟩ ?_).mono ?_
 rotate_left
 ·rintro e w' ⟨v,rfl,h1,h2⟩
  exact⟨v,rfl,h1,h2⟩
 refine ah (OH _ _ x (k.toNat:Nat) w (ac β 2)) ?_
 have hLs:(pre++val).length=pre.length+val.length:=by simp
 have t2:List.take (pre.length+val.length) (pre++val)=pre++val:=List.take_of_length_le (by simp)
 simp only[jo,jp,aC,hLs,Int.toNat_natCast,t2,Nat.sub_zero,Nat.zero_add,List.drop_zero,List.take_left,List.drop_left,Nat.min_self,Nat.add_sub_cancel_left,Nat.add_sub_cancel' (Nat.le_add_right _ _)]
 refine aa (by omega) (aD ?_)
 rintro c0 ⟨_,hc0⟩
 have hcut:val.length<=c0:=hc0 ▸ bf
 refine aJ (w:=w) (bs:=ac β 2) ⟨rfl,Keep.refl _ _,fun b hb=>.inl hb⟩ fun β' w' hs hk=>⟨_,rfl,⟨β' 2,c0,rfl,hcut,?_,?_⟩,bp hk hat (hs.objsAt rfl o2) o1 o3⟩
 ·exact br (hs.at_ 2 _ rfl) rfl (hs.lt 2 (by simp[SS.n]))
 ·exact(hs.old rfl).new 2 (by simp[ac]) (by simp[SS.n])
end
section
open Go Go.Rx Go.RowKit
theorem pj{T e:TypeId}{B b:Nat}{p:Value}{bs:List Value}{w w':World}(h:Lib.BuilderAt T e B b p bs w)(hb:Below w.heap.size w w'):Lib.BuilderAt T e B b p bs w':=by
 obtain⟨hB,v,hbk,hown,hne⟩:=h
 have lt:∀ {i:Nat}{o:Obj},w.heap[i]?=some o->w'.heap[i]?=some o:=fun{i o} hi=>by
  rw[hb.block i (Array.getElem?_eq_some_iff.1 hi).1]
  exact hi
 refine⟨hB,v,lt hbk,⟨hown.1,?_⟩,hne⟩
 rcases hown.2 with h1 |⟨g,cap,cur,hv,h2,h3,h4⟩
 ·exact .inl h1
 ·exact .inr ⟨g,cap,cur,hv,h2,lt h3,h4⟩
theorem CAt.cells{w:World}{B p:Nat}{k:Int}{val:List UInt8}(h:CAt w B p k val):p<B/\∃q,q<B/\w.cell? ⟨p,0,none⟩=some (.string ⟨(bW k val++val).toArray⟩)/\w.cell? ⟨p,1,none⟩=some (.pointer (some ⟨q,0,none⟩))/\w.cell? ⟨p,2,none⟩=some (.int .i64 ((bW k val).length:Int)) /\
  w.cell? ⟨q,0,none⟩=some (.string ⟨(ai k).name.toArray⟩)/\w.cell? ⟨q,1,none⟩=some (.int .i64 k)/\w.cell? ⟨q,4,none⟩=some (.bool (ai k).path)/\w.cell? ⟨q,5,none⟩=some (ai k).tr:=by
 obtain⟨h1,b,h2,h3,A,c,h4,_⟩:=h
 exact⟨h1,b,h3,by simp[World.cell?,h2],by simp[World.cell?,h2],by simp[World.cell?,h2],by simp[World.cell?,h4],by simp[World.cell?,h4],by simp[World.cell?,h4],by simp[World.cell?,h4]⟩
theorem tt{w:World}{B p:Nat}{k:Int}{val txt:List UInt8}(h:Simple k val txt)(hc:CAt w B p k val)(hB:B<=w.heap.size)(ht:Tens w) :
  Calls Tryz.prog 42 #[.pointer (some ⟨p,0,none⟩)] w fun e w'=>e=.returned (.string ⟨txt.toArray⟩)/\Below w.heap.size w w':=by
 have h1:=FV h hc hB ht
 go_enter Tryz.func42,Tryz.ntmps42
 go_wp2_with fail
 refine h1.mono ?_
 rintro e w' ⟨rfl,hb⟩
 go_wp2
 simp[bodyPost,results,Tryz.results42,go_sem]
 exact hb
theorem C2{w:World}{B p b:Nat}{k:Int}{val txt:List UInt8}{bs:List Value}(hs:Simple k val txt)(hc:CAt w B p k val)(hB:B<=w.heap.size)(hBT:∀w',Below B w w'->Tens w')(hI:Lib.IsBuilder 93 5 B b bs w)(hlen:bs.length+(bz k txt).length<=140737488355328) :
  Calls Tryz.prog 70 #[.pointer (some ⟨p,0,none⟩),.pointer (some ⟨b,0,none⟩)] w fun e w'=>e=.returned (.tuple #[])/\Lib.BuilderAt 93 5 B b (.pointer (some ⟨b,0,none⟩)) (bs++Lib.byteCells (bz k txt)) w'/\Below B w w':=by
 obtain⟨hp,q,hq,_,c1,_,n0,_,n4,_⟩:=hc.cells
 have keep:∀ {w':World},Below B w w'->w'.cell? ⟨p,1,none⟩=some (.pointer (some ⟨q,0,none⟩))/\w'.cell? ⟨q,0,none⟩=some (.string ⟨(ai k).name.toArray⟩)/\w'.cell? ⟨q,4,none⟩=some (.bool (ai k).path):=fun hb=>
  ⟨by rw[cg hb hp];exact c1,by rw[cg hb hq];exact n0,by rw[cg hb hq];exact n4⟩
 have hnm:(ai k).name.length+1<=(bz k txt).length:=by unfold bz;simp
 go_enter Tryz.func70,Tryz.ntmps70
 go_wp2_with fail
 refine(o9 B b bs 47 _ hI (by omega) hB).mono ?_
 rintro e w1 ⟨rfl,hb1,hw1⟩
 obtain⟨d1,e0,e4⟩:=keep hw1
 go_wp2_with fail
 refine(gU B b _ _ _ (.inr hb1) (by simp[ByteArray.size];omega) (Nat.le_trans hB hw1.size)).mono ?_
 rintro e w2 ⟨rfl,hb2,hw12⟩
 have hw2:=hw1.trans hw12
 obtain⟨d1,e0,e4⟩:=keep hw2
 go_wp2_with fail
 refine(tt hs (hc.below hw2 (Nat.le_refl _)) (Nat.le_trans hB hw2.size) (hBT _ hw2)).mono ?_
 rintro e w3 ⟨rfl,hw23⟩
 have hb3:=pj hb2 hw23
 have hw3:=hw2.trans (hw23.mono (Nat.le_trans hB hw2.size))
 obtain⟨d1,e0,e4⟩:=keep hw3
 have hsc:(Lib.strCells ⟨(ai k).name.toArray⟩).length=(ai k).name.length:=by simp[Lib.strCells,Lib.byteCells]
 rcases hs.facts with⟨rfl,_,_,hct⟩ |⟨hne,_,hpth,hct⟩ |⟨r,rfl,_,hpth,_,hct⟩
 ·go_wp2
  simp[bodyPost,results,Tryz.results70,go_sem]
  rw[hct]
  exact⟨by simpa [Lib.strCells,Lib.byteCells] using hb3,hw3⟩
 ·have hlen2:=congrArg List.length hct
  simp at hlen2
  rw[hpth]at e4
  cases txt with
  |nil=>exact absurd rfl hne
  |cons x r=>
   go_wp2_with fail
   refine(o9 B b _ 47 _ (.inr hb3) (by simp[hsc];simp at hlen2;omega) (Nat.le_trans hB hw3.size)).mono ?_
   rintro e w4 ⟨rfl,hb4,hw34⟩
   go_wp2_with fail
   refine(gU B b _ _ _ (.inr hb4) (by simp[hsc,ByteArray.size];simp at hlen2;omega) (Nat.le_trans hB (hw3.trans hw34).size)).mono ?_
   rintro e w5 ⟨rfl,hb5,hw45⟩
   go_wp2
   simp[bodyPost,results,Tryz.results70,go_sem]
   rw[hct]
   exact⟨by simpa [Lib.strCells,Lib.byteCells] using hb5,(hw3.trans hw34).trans hw45⟩
 ·have hlen2:=congrArg List.length hct
  simp at hlen2
  rw[hpth]at e4
  go_wp2_with fail
  refine(gU B b _ _ _ (.inr hb3) (by simp[hsc,ByteArray.size];omega) (Nat.le_trans hB hw3.size)).mono ?_
  rintro e w5 ⟨rfl,hb5,hw45⟩
  go_wp2
  simp[bodyPost,results,Tryz.results70,go_sem]
  rw[hct]
  exact⟨by simpa [Lib.strCells,Lib.byteCells] using hb5,hw3.trans hw45⟩
theorem zy{w:World}{B p:Nat}{k:Int}{val txt:List UInt8}(hs:Simple k val txt)(hc:CAt w B p k val)(hB:B<=w.heap.size)(ht:Tens w)(hlen:(bz k txt).length<=140737488355328) :
  Calls Tryz.prog 41 #[.pointer (some ⟨p,0,none⟩)] w fun e w'=>e=.returned (.string ⟨(bz k txt).toArray⟩)/\Below w.heap.size w w':=by
 have hal:=Below.alloc (Below.refl w.heap.size w) (Nat.le_refl _) (Obj.cells #[Value.pointer none,Value.slice none 0 0] 93)
 have hsz:(w.alloc (Obj.cells #[Value.pointer none,Value.slice none 0 0] 93)).heap.size=w.heap.size+1:=by show(w.heap.push _).size=_;simp
 have hI:Lib.IsBuilder 93 5 w.heap.size w.heap.size [] (w.alloc (Obj.cells #[Value.pointer none,Value.slice none 0 0] 93)):=by
  refine .inl ⟨Nat.le_refl _,.slice none 0 0,?_,⟨rfl,.inl ⟨rfl,rfl⟩⟩,by simp[Value.ownBlock]⟩
  show(w.heap.push _)[w.heap.size]?=_
  simp
 have h1:=C2 (bs:=[]) hs (hc.below (hal.mono hB) hB) (by omega) (fun w' hb=>ht.below (hal.trans hb) ht.lt) hI (by simpa using hlen)
 go_enter Tryz.func41,Tryz.ntmps41
 go_wp2_with fail
 refine h1.mono ?_
 rintro e w2 ⟨rfl,hb2,hw2⟩
 have h2:=Tryz.Builder_String_any w.heap.size w.heap.size (bz k txt) w2 (.inr (by simpa using hb2)) (by have:=(hal.trans hw2).size;omega)
 go_wp2_with fail
 refine h2.mono ?_
 rintro e w3 ⟨rfl,hw3⟩
 go_wp2
 simp[bodyPost,results,Tryz.results41,go_sem]
 exact(hal.trans hw2).trans hw3
end
section
open Go Go.RowKit
theorem FR(p:Addr)(w:World):CallsD Tryz.prog 66 #[.pointer (some p)] .returning w fun e u' w'=>e=.returned (.tuple #[])/\u'=.returning/\w'=w:=by
 refine callsD_of_wpS Tryz.func66 rfl fun c₀ cs hu=>?_
 apply wpS_seq
 apply wpS_region
 simp[wpOpsS,go_sem,recoverD,hu,Tryz.ntmps66,Exit.thenS]
 refine wpS_cond (t:=false) (by simp[Act.eval,Array.replicate]) ?_
 refine wpS_of_wp ?_
 simp only[Bool.false_eq_true,if_false]
 go_wp2
 cases c₀
 simp_all [bodyPostS,results,Tryz.results66,Exit.thenS]
theorem zr(p0 p1 p2:Addr)(w:World)(bs:List Nat)(R:World->Prop)(hbs:∀b∈bs,b<w.heap.size)
  (hR:∀w2 w3:World,(∀b,b<w.heap.size->w3.heap[b]?=w2.heap[b]?)->R w2->R w3)
  (h:∀w1,Below w.heap.size w w1->Calls Tryz.prog 40 #[.pointer (some p0),.pointer (some p1),.pointer (some p2)] w1 fun e w'=>e=.returned (.tuple #[])/\Rx.Keep bs w1 w'/\R w') :
  Calls Tryz.prog 32 #[.func (.func 40) #[] #[.pointer (some p0),.pointer (some p1),.pointer (some p2)]] w fun e w'=>e=.returned (.bool true)/\Rx.Keep bs w w'/\R w':=by
 have hmf:∀(fn:Fn) (first cap:Array Value) (w:World),(Instr.makeFunc fn first cap).run Tryz.prog w=.ok (.func fn first cap) w:=fun _ _ _ _=>rfl
 have h1:=h (w.alloc (Obj.cells #[Value.bool false] 4)) (Below.alloc (Below.refl _ _) (Nat.le_refl _) _)
 clear h
 go_enter_defers Tryz.func32,Tryz.ntmps32
 go_wp2_with fail
 refine h1.mono ?_
 rintro e w' ⟨rfl,hk,hr⟩
 have hb:w'.heap[w.heap.size]?=some (.cells #[.bool false] 4 (0,0)):=by
  rw[hk.block w.heap.size (by show w.heap.size<(w.heap.push _).size;simp) (fun hm=>Nat.lt_irrefl _ (hbs _ hm))]
  show(w.heap.push _)[w.heap.size]?=_
  simp
 have hc:w'.cell? ⟨w.heap.size,0,none⟩=some (.bool false):=by simp[World.cell?,hb]
 have hz:w'.frozen? ⟨w.heap.size,0,none⟩=false:=by simp[World.frozen?,hb]
 go_wp2
 refine leaves_cons (f:=66) (args:=#[.pointer (some ⟨w.heap.size,0,none⟩)]) (by simp) (by simp[go_sem]) ?_
 refine(FR ⟨w.heap.size,0,none⟩ _).mono ?_
 rintro e u' w'' ⟨rfl,rfl,rfl⟩
 simp[Leaves,settle,results,Tryz.results32,go_sem]
 have hs:(w'.setCell ⟨w.heap.size,0,none⟩ (.bool true)).cell? ⟨w.heap.size,0,none⟩=some (.bool true):=by
  simp[World.cell?,World.setCell,Array.getElem?_modify,hb]
 rw[hs]
 have hz1:w.heap.size<w'.heap.size:=(Array.getElem?_eq_some_iff.1 hb).1
 have hblk:∀b,b<w.heap.size->(w'.setCell ⟨w.heap.size,0,none⟩ (.bool true)).heap[b]?=w'.heap[b]?:=fun b hb=>Below.heap_setCell _ _ _ _ (by show b≠w.heap.size;omega)
 refine⟨_,rfl,rfl,⟨hk.os,hk.tape,hk.output,?_,fun b hb1 hb2=>?_⟩,hR _ _ hblk hr⟩
 ·show w.heap.size<=(w'.heap.modify _ _).size
  simp
  omega
 ·rw[hblk b hb1,hk.block b (by show b<(w.heap.push _).size;simp;omega) hb2]
  exact Below.heap_alloc _ _ _ hb1
end
section
open Go Go.Rx Go.RowKit
@[reducible] def tY:Hook:={ X:=NC,out:=fun _ s x=>(.agg [.str x.s false,.xp x.p,.int .i64 x.i false],s.objs) }
def rv(args:List SV)(l:List SObj)(x:ByteArray×ByteArray):List SObj:=
 match args with
 |[.fn _ _ [_,.ptr t _,.ptr v _]]=>(l.set t (.cells [.str x.1 false] 1 9 0 0)).set v (.cells [.str x.2 false] 1 9 0 0)
 |_=>l
@[reducible] def zu:Hook:={ X:=ByteArray×ByteArray,out:=fun args s x=>(.bool true true,rv args s.objs x) }
@[reducible] def zw:Hook:={ X:=UV,out:=fun _ s x=>(.xs x.A x.k x.c,s.objs) }
def GZ:Hooks:={ calls:=fun f=>if f=39 then some tY else if f=32 then some zu else if f=43∨f=44 then some zw else none,loops:=fun _ _=>none }
noncomputable abbrev zO(x0:(Hook.X (tY))):SObj:=(.cells [(.str x0.s false),(.xp x0.p),(.int .i64 ((↑x0.i:Int)) false)] 3 64 0 0)
noncomputable abbrev uP(k:Int)(A:Option Addr)(n c:Nat):SObj:=(.cells [(.int .i64 k false),(.xs A n c)] 2 31 0 0)
noncomputable abbrev uO(k:Int)(A:Option Addr)(n c:Nat)(x1:(Hook.X (zu)))(x0:(Hook.X (tY)))(w1:World)(b1:List Nat):SS:=(SS.mk [(uP k A n c),(.cells [(.str x1.fst false)] 1 9 0 0),(.cells [(.str x1.snd false)] 1 9 0 0),(zO x0)] [] true w1 b1)
noncomputable abbrev rU:SObj:=(.cells [(.str (ByteArray.mk #[]) true)] 1 9 0 0)
theorem Iu(k:Int)(A:Option Addr)(n c:Nat)(w:World):al Tryz.prog GZ 1000 15 [.agg [.int .i64 k false,.xs A n c]] (SS.mk [] [] true w []) =
(.hc 39 [(.agg [(.int .i64 k false),(.xs A n c)])] (SS.mk [(uP k A n c),rU,rU] [] true w []) (tY) fun x0 w0 b0=>(.hc 32 [(.fn (.func 40) [] [(.ptr 3 0),(.ptr 1 0),(.ptr 2 0)])] (SS.mk [(uP k A n c),rU,rU,(zO x0)] [] true w0 b0) (zu) fun x1 w1 b1=>(.hc 43 [(.ptr 3 0)] (uO k A n c x1 x0 w1 b1) (zw) fun x2 w2 b2=>(.need (x1.snd=x1.snd) (.need (x1.fst=x1.fst) (.hc 44 [(.ptr 3 0)] (uO k A n c x1 x0 w2 b2) (zw) fun x3 w3 b3=>(.need (x1.snd=x1.snd) (.need (x1.fst=x1.fst) (.need (x1.snd=x1.snd) (.leaf .ret [(.tup [(.str x1.fst false),(.str x1.snd false),(.xs x2.A x2.k x2.c),(.xs x3.A x3.k x3.c)])] (uO k A n c x1 x0 w3 b3))))))))))):=by kernel_rfl
theorem OE(k:Int)(A:Option Addr)(n c:Nat)(w:World):(by have h:=Iu k A n c w;unfold rU uO uP zO at h;exact type_of% h):=Iu k A n c w
theorem CF{w:World}{B p t u:Nat}{k:Int}{val txt:List UInt8}{x y:Value}(hs:Simple k val txt)(hc:CAt w B p k val)(hB:B<=w.heap.size)(ht:Tens w)(hlen:(bz k txt).length<=140737488355328)
  (h1:w.heap[t]?=some (.cells #[x] 9 (0,0))) (h2:w.heap[u]?=some (.cells #[y] 9 (0,0))) (hne:t≠u) :
  Calls Tryz.prog 40 #[.pointer (some ⟨p,0,none⟩),.pointer (some ⟨t,0,none⟩),.pointer (some ⟨u,0,none⟩)] w fun e w'=>e=.returned (.tuple #[])/\Keep [t,u] w w' /\
   w'.heap[t]?=some (.cells #[.string ⟨(bz k txt).toArray⟩] 9 (0,0))/\w'.heap[u]?=some (.cells #[.string ⟨txt.toArray⟩] 9 (0,0)):=by
 have hlt1:=(Array.getElem?_eq_some_iff.1 h1).1
 have hlt2:=(Array.getElem?_eq_some_iff.1 h2).1
 have s1:=zy hs hc hB ht hlen
 go_enter Tryz.func40,Tryz.ntmps40
 go_wp2_with fail
 refine s1.mono ?_
 rintro e w1 ⟨rfl,hw1⟩
 have s2:=tt hs (hc.below (hw1.mono hB) (Nat.le_refl _)) (Nat.le_trans hB hw1.size) (ht.below hw1 ht.lt)
 go_wp2_with fail
 refine s2.mono ?_
 rintro e w2 ⟨rfl,hw12⟩
 have hw2:=hw1.trans (hw12.mono hw1.size)
 have g1:w2.heap[t]?=some (.cells #[x] 9 (0,0)):=by rw[hw2.block t hlt1];exact h1
 have g2:w2.heap[u]?=some (.cells #[y] 9 (0,0)):=by rw[hw2.block u hlt2];exact h2
 have c1:w2.cell? ⟨t,0,none⟩=some x:=by simp[World.cell?,g1]
 have c2:w2.cell? ⟨u,0,none⟩=some y:=by simp[World.cell?,g2]
 have f1:w2.frozen? ⟨t,0,none⟩=false:=by simp[World.frozen?,g1]
 have g3:(w2.setCell ⟨t,0,none⟩ (.string ⟨(bz k txt).toArray⟩)).heap[u]?=some (.cells #[y] 9 (0,0)):=by
  rw[Below.heap_setCell _ _ _ _ (by show u≠t;exact fun h=>hne h.symm)];exact g2
 have c3:(w2.setCell ⟨t,0,none⟩ (.string ⟨(bz k txt).toArray⟩)).cell? ⟨u,0,none⟩=some y:=by simp[World.cell?,g3]
 have f3:(w2.setCell ⟨t,0,none⟩ (.string ⟨(bz k txt).toArray⟩)).frozen? ⟨u,0,none⟩=false:=by simp[World.frozen?,g3]
 go_wp2
 simp[bodyPost,results,Tryz.results40,go_sem]
 have hz:((w2.setCell ⟨t,0,none⟩ (.string ⟨(bz k txt).toArray⟩)).setCell ⟨u,0,none⟩ (.string ⟨txt.toArray⟩)).heap.size=w2.heap.size:=by simp[World.setCell]
 refine⟨⟨hw2.os,hw2.tape,hw2.output,by rw[hz];exact hw2.size,fun b hb hn=>?_⟩,?_,?_⟩
 ·simp only[List.mem_cons,List.not_mem_nil,or_false,not_or]at hn
  rw[Below.heap_setCell _ _ _ _ (by show b≠u;exact hn.2),Below.heap_setCell _ _ _ _ (by show b≠t;exact hn.1)]
  exact hw2.block b hb
 ·rw[Below.heap_setCell _ _ _ _ (by show t≠u;exact hne)]
  simp[World.setCell,Array.getElem?_modify,g1]
 ·simp[World.setCell,Array.getElem?_modify,g2,hne]
theorem Keep.mono{bs bs':List Nat}{w w':World}(h:Keep bs w w')(hs:∀b∈bs,b∈bs'):Keep bs' w w':=⟨h.os,h.tape,h.output,h.size,fun b hb hn=>h.block b hb fun hm=>hn (hs b hm)⟩
theorem ProtN.keep{w0 w w':World}{b:Nat}{k:Int}{bs:List Nat}(h:ProtN w0 b k w)(hk:Keep bs w w')(hp:∀i∈bs,i<w0.heap.size∨w.heap.size<=i):ProtN w0 b k w':=by
 obtain⟨h0,h1,A,c,h2,h3,h4,h5⟩:=h
 refine⟨h0,Nat.lt_of_lt_of_le h1 hk.size,A,c,?_,?_,h4,h5⟩
 ·rw[hk.block b h1 fun hm=>by have:=hp _ hm;omega]
  exact h2
 ·by_cases hn:0<(ai k).vc.length
  ·obtain⟨a,rfl,hb,hx⟩:=h3.2 hn
   exact bd h3 hk fun hm=>by have:=hp _ hm;have:=h5 a rfl;omega
  ·exact⟨h3.1,fun h=>absurd h hn⟩
theorem JY(k:Int)(hk:k∈bc):(ai k).vc.length<=16:=(dh k hk).2
theorem A8{k:Int}(hk:k∈bc){val:List UInt8}(hl:val.length<=2147483647):(bW k val).length<=26:=by
 have h1:=JY k hk
 have h2:=iP 9 val.length (Nat.lt_of_le_of_lt hl (by decide))
 unfold bW
 rw[List.length_append]
 split <;> simp <;> omega
def MS(k:Int)(val txt:List UInt8)(w:World)(v:Value)(w':World):Prop:=∃A1 n1 c1 A2 n2 c2,v=.tuple #[.string ⟨(bz k txt).toArray⟩,.string ⟨txt.toArray⟩,.slice A1 n1 c1,.slice A2 n2 c2]/\Bts w' w'.heap.size A1 n1 (bW k val++val)/\Bts w' w'.heap.size A2 n2 val/\Fresh w A1/\Fresh w A2
theorem mg{w0 w:World}{β:Nat->Nat}{k:Int}{val:List UInt8}{b p:Nat}(h:SObj.At β (.cells [.str ⟨(bW k val++val).toArray⟩ false,.xp ⟨b,0,none⟩,.int .i64 ((bW k val).length:Int) false] 3 64 0 0) w.heap[p]?)(hp:p<w.heap.size)(hn:ProtN w0 b k w):CAt w w.heap.size p k val:=by
 obtain⟨r,h1,h2⟩:=h
 have hr:r=[]:=List.eq_nil_of_length_eq_zero (by have h2':3+r.length=3:=h2;omega)
 subst hr
 exact⟨hp,b,by simpa [af,SV.den] using h1,hn.b⟩
theorem sG{k:Int}{val txt:List UInt8}(hs:Simple k val txt)(A:Option Addr)(n c B:Nat)(w:World)(h:Bts w B A n val)(hB:B<=w.heap.size)(ht:Tens w)(hl:val.length<=2147483647)(hlen:(bz k txt).length<=140737488355328) :
  Calls Tryz.prog 15 #[.agg #[.int .i64 k,.slice A n c]] w (bB (MS k val txt w) w):=by
 have hk:=hs.tab
 have hn:n=val.length:=h.1
 refine aF (hk:=GZ) (n:=1000) (args:=[.agg [.int .i64 k false,.xs A n c]]) ⟨⟨trivial,trivial,trivial⟩,trivial⟩ ?_
 refine ah (OE k A n c w) ?_
 refine c7 (R:=fun(x:NC) w0 w'=>∃b,x=⟨⟨(bW k val++val).toArray⟩,⟨b,0,none⟩,(bW k val).length⟩/\ProtN w0 b k w') (Fine.start w _) (fun x=>⟨rfl,trivial,trivial,trivial,trivial⟩) (fun β w0 hst ho hb=>?_) ?_
 ·refine(I7 k hk A n c val B w0 (h.below (hb.mono hB) (Nat.le_refl _)) (Nat.le_trans hB hb.size) (by omega)).mono ?_
  rintro e w' ⟨v,rfl,⟨b,rfl,h1⟩,hb'⟩
  exact⟨⟨_,_,_⟩,rfl,hb',b,rfl,h1⟩
 rintro x wA w0 b0 hbA ⟨b,rfl,hP⟩ hbA0 hb0 hbs0
 dsimp only
 refine tT (w:=w0) (bs:=b0) (R:=fun(x:ByteArray×ByteArray) _ w'=>x=(⟨(bz k txt).toArray⟩,⟨txt.toArray⟩)) ⟨rfl,Keep.refl _ _,fun b hb=>.inl hb⟩ rfl (fun x=>⟨rfl,fun u hu=>?_,trivial⟩) (fun β w1 hst hk01=>?_) ?_
 ·simp only[rv,List.set,List.mem_cons,List.not_mem_nil,or_false]at hu
  rcases hu with rfl |rfl |rfl |rfl <;> exact⟨trivial,by first |trivial |exact⟨trivial,trivial⟩ |exact⟨trivial,trivial,trivial⟩⟩
 ·have ho:=hst.old rfl
  have hPw:=hP.old ho fun i hi=>(hbs0 i hi).2
  have hw:Below w.heap.size w w1:=hk01.below hb0 (Nat.le_refl _) fun i hi=>(hbs0 i hi).1
  have hC:=mg (hst.at_ 3 _ rfl) (hst.lt 3 (by simp[SS.n])) hPw
  obtain⟨r1,g1,q1⟩:=hst.at_ 1 _ rfl
  obtain⟨r2,g2,q2⟩:=hst.at_ 2 _ rfl
  have hr1:r1=[]:=List.eq_nil_of_length_eq_zero (by have q1':1+r1.length=1:=q1;omega)
  have hr2:r2=[]:=List.eq_nil_of_length_eq_zero (by have q2':1+r2.length=1:=q2;omega)
  subst hr1 hr2
  have hne:β 1≠β 2:=fun e=>by have:=hst.inj 1 2 (by simp[SS.n]) (by simp[SS.n]) e;omega
  have l1:=hst.lt 1 (by simp[SS.n])
  have l2:=hst.lt 2 (by simp[SS.n])
  refine(zr ⟨β 3,0,none⟩ ⟨β 1,0,none⟩ ⟨β 2,0,none⟩ w1 [β 1,β 2] (fun w'=>w'.heap[β 1]?=some (.cells #[.string ⟨(bz k txt).toArray⟩] 9 (0,0))/\w'.heap[β 2]?=some (.cells #[.string ⟨txt.toArray⟩] 9 (0,0))) ?_ ?_ ?_).mono ?_
  ·intro i hi
   simp only[List.mem_cons,List.not_mem_nil,or_false]at hi
   rcases hi with rfl |rfl
   ·exact l1
   ·exact l2
  ·rintro w2 w3 heq ⟨e1,e2⟩
   exact⟨by rw[heq _ l1];exact e1,by rw[heq _ l2];exact e2⟩
  ·intro w2 hw2
   exact CF hs (hC.below hw2 (Nat.le_refl _)) hw2.size ((ht.below hw ht.lt).below hw2 (ht.below hw ht.lt).lt) hlen (by rw[hw2.block _ l1];exact g1) (by rw[hw2.block _ l2];exact g2) hne
  ·rintro e w2 ⟨rfl,hk12,e1,e2⟩
   refine⟨(⟨(bz k txt).toArray⟩,⟨txt.toArray⟩),rfl,Keep.mono hk12 ?_,?_,rfl⟩
   ·intro i hi
    simp only[List.mem_cons,List.not_mem_nil,or_false]at hi
    rcases hi with rfl |rfl
    ·exact List.mem_map.2 ⟨1,by simp[SS.n],rfl⟩
    ·exact List.mem_map.2 ⟨2,by simp[SS.n],rfl⟩
   ·have other:∀j,j<4->j≠1->j≠2->w2.heap[β j]?=w1.heap[β j]?:=fun j hj h1 h2=>hk12.block _ (hst.lt j (by simp[SS.n];omega)) fun hm=>by
     simp only[List.mem_cons,List.not_mem_nil,or_false]at hm
     rcases hm with e |e
     ·exact h1 (hst.inj j 1 (by simp[SS.n];omega) (by simp[SS.n]) e)
     ·exact h2 (hst.inj j 2 (by simp[SS.n];omega) (by simp[SS.n]) e)
    intro i o hi
    match i,hi with
    |0,hi=>
     rw[other 0 (by omega) (by omega) (by omega)]
     exact hst.at_ 0 o hi
    |1,hi=>
     simp[rv]at hi
     subst hi
     exact⟨[],e1,rfl⟩
    |2,hi=>
     simp[rv]at hi
     subst hi
     exact⟨[],e2,rfl⟩
    |3,hi=>
     rw[other 3 (by omega) (by omega) (by omega)]
     exact hst.at_ 3 o hi
    |i+4,hi=>simp[rv]at hi
 rintro x w1 w2 b2 rfl hk02 hbs2
 dsimp only
 have wk:∀ {w':World},Keep b0 w0 w'->Below w.heap.size w w':=fun hk=>hk.below hb0 (Nat.le_refl _) fun i hi=>(hbs0 i hi).1
 refine aY (w:=w0) (bs:=b0) (R:=fun(x:UV) wc w'=>GD (bW k val++val) wc (.slice x.A x.k x.c) w') ⟨rfl,hk02,hbs2⟩ (fun x=>⟨rfl,trivial⟩) (fun β wc hst ho hkc=>?_) ?_
 ·have hPw:=hP.keep hkc fun i hi=>.inl (hbs0 i hi).2
  refine(Ce hk (mg (hst.at_ 3 _ rfl) (hst.lt 3 (by simp[SS.n])) hPw) (Nat.le_refl _)).mono ?_
  rintro e w' ⟨v,rfl,⟨b',c',rfl,h1⟩,hb'⟩
  exact⟨⟨_,_,_⟩,rfl,hb',b',c',rfl,h1⟩
 rintro x2 wc w3 b3 hkc ⟨b',c',hx2,_,hbt2,hge2⟩ hbc3 hk03 hbs3
 refine aa rfl (aa rfl ?_)
 refine aY (w:=w3) (bs:=b3) (R:=fun(x:UV) wc w'=>GD val wc (.slice x.A x.k x.c) w') ⟨rfl,Keep.refl _ _,fun b hb=>.inl hb⟩ (fun x=>⟨rfl,trivial⟩) (fun β wd hst ho hkd=>?_) ?_
 ·have hPw:=hP.keep ((Keep.mono hk03 fun b hb=>List.mem_append_left b3 hb).trans (Keep.mono hkd fun b hb=>List.mem_append_right b0 hb)) fun i hi=>by
   rcases List.mem_append.1 hi with hi |hi
   ·exact .inl (hbs0 i hi).2
   ·exact(hbs3 i hi).1.imp (fun h=>(hbs0 i h).2) id
  refine(Gl hk (mg (hst.at_ 3 _ rfl) (hst.lt 3 (by simp[SS.n])) hPw) (Nat.le_refl _)).mono ?_
  rintro e w' ⟨v,rfl,⟨b',c',rfl,h1⟩,hb'⟩
  exact⟨⟨_,_,_⟩,rfl,hb',b',c',rfl,h1⟩
 rintro x3 wd w4 b4 hkd ⟨b5,c5,hx3,_,hbt3,hge3⟩ hbd4 hk34 hbs4
 obtain⟨A2,k2,cc2⟩:=x2
 obtain⟨A3,k3,cc3⟩:=x3
 simp only[Value.slice.injEq]at hx2 hx3
 obtain⟨rfl,rfl,rfl⟩:=hx2
 obtain⟨rfl,rfl,rfl⟩:=hx3
 have lt2:b'<w3.heap.size:=by
  have hpos:0<(bW k val++val).length:=by
   have:=(dh k hk).1
   unfold bW
   simp
   omega
  obtain⟨a,ha,hb,_⟩:=hbt2.2 hpos
  cases ha
  exact hb
 have n2:b' ∉ b3:=fun hm=>by have:=(hbs3 _ hm).2;omega
 have hbt2':Bts w4 w4.heap.size (some ⟨b',0,none⟩) (bW k val++val).length (bW k val++val):=bd hbt2 hk34 n2
 have hge:∀i∈b3,w.heap.size<=i:=fun i hi=>by
  have:=hb0.size
  rcases(hbs3 i hi).1 with h |h
  ·exact(hbs0 i h).1
  ·omega
 have hb4:Below w.heap.size w w4:=hk34.below (wk hk03) (Nat.le_refl _) hge
 refine aa rfl (aa rfl (aa rfl ?_))
 refine aQ (Fine.mk' hb4 fun i hi=>?_) fun β w5 hst _=>?_
 ·have:=(wk hk03).size
  rcases(hbs4 i hi).1 with h |h
  ·exact hge i h
  ·omega
 ·have ho:=hst.old rfl
  refine⟨_,_,_,_,_,_,rfl,(ho.bts hbt2' (Nat.le_refl _) fun a ha hm=>?_).mono ho.sz,(ho.bts hbt3 (Nat.le_refl _) fun a ha hm=>?_).mono ho.sz,fun a ha=>?_,fun a ha=>?_⟩
  ·cases ha
   rcases(hbs4 _ hm).1 with h |h
   ·exact n2 h
   ·have h:w3.heap.size<=b':=h
    omega
  ·cases ha
   have h1:=(hbs4 _ hm).2
   have h1:b5<wd.heap.size:=h1
   omega
  ·cases ha
   exact Nat.le_trans (wk hkc).size hge2
  ·cases ha
   have h5:wd.heap.size<=b5:=hge3
   exact Nat.le_trans (Nat.le_trans (wk hk03).size hkd.size) h5
end
section
open Go Go.Rx Go.RowKit
theorem lD(n:Nat):Lib.uvarint n=uv n:=by
 induction n using Nat.strongRecOn with
 |_ n ih=>
  by_cases h:n<128
  ·rw[Lib.uvarint_small h,bO h]
  ·rw[Lib.uvarint_big (by omega),cx h,ih _ (by omega)]
theorem kQ{e:TypeId}{fr:Nat×Nat}(g:Nat):∀(vs:List Value) (o:Nat) (w:World) (cs:List Value),w.heap[g]?=some (.cells cs.toArray e fr)->o+vs.length<=cs.length->(w.setCells g o vs).heap[g]?=some (.cells (cs.take o++vs++cs.drop (o+vs.length)).toArray e fr)
 |[],o,w,cs,h,_=>by
  show w.heap[g]?=_
  rw[h];simp
 |v :: r,o,w,cs,h,ho=>by
  simp only[List.length_cons]at ho
  have h2:(w.setCell ⟨g,o,none⟩ v).heap[g]?=some (.cells (cs.set o v).toArray e fr):=by
   simp[World.setCell,Array.getElem?_modify,h]
  have:=kQ g r (o+1) (w.setCell ⟨g,o,none⟩ v) (cs.set o v) h2 (by simp;omega)
  show((w.setCell ⟨g,o,none⟩ v).setCells g (o+1) r).heap[g]?=_
  rw[this]
  congr 3
  have e1:(cs.set o v).take (o+1)=cs.take o++[v]:=by
   rw[List.take_add_one,List.take_set_of_le (Nat.le_refl _),List.getElem?_set_self (by omega)]
   rfl
  rw[e1,List.drop_set_of_lt (by omega)]
  simp
  congr 1
  omega
theorem kS(g:Nat):∀(vs:List Value) (o:Nat) (w:World),Keep [g] w (w.setCells g o vs)
 |[],_,w=>Keep.refl _ _
 |v :: r,o,w=>by
  refine Keep.trans (b:=w.setCell ⟨g,o,none⟩ v) ⟨rfl,rfl,rfl,by simp[World.setCell],fun b hb hn=>?_⟩ (kS g r (o+1) (w.setCell ⟨g,o,none⟩ v))
  exact Below.heap_setCell _ _ _ _ (by show b≠g;simpa using hn)
@[reducible] def ints(l:List UInt8):List Int:=l.map fun x=>(x.toNat:Int)
theorem Gk(g N c n:Nat)(P Z:List Int)(w:World)(hg:w.heap[g]?=some (.cells ((P++Z).map (Value.int .u8)).toArray 5 (0,0)))(hz:(uv n).length<=Z.length)(hN:(uv n).length<=N)(hn:n<2^64) :
  Calls Tryz.prog 90 #[.slice (some ⟨g,P.length,none⟩) N c,.int .u64 n] w fun e w'=>e=.returned (.int .i64 (uv n).length)/\Keep [g] w w'/\w'.heap[g]?=some (.cells ((P++(ints (uv n)++Z.drop (uv n).length)).map (Value.int .u8)).toArray 5 (0,0)):=by
 refine(Tryz.binary_PutUvarint g P.length N c n hn w (by rw[lD];exact hN) fun j hj=>?_).mono ?_
 ·rw[lD]at hj
  constructor
  ·simp only[World.cell?,hg]
   simp
   omega
  ·simp[World.frozen?,hg]
 ·rintro e w' ⟨rfl,rfl⟩
  rw[lD]
  refine⟨rfl,kS _ _ _ _,?_⟩
  rw[kQ g _ _ w _ hg (by simp[Lib.byteCells];omega)]
  congr 3
  simp[Lib.byteCells,List.drop_append,Function.comp_def]
end
end Go.Proofs.YtnklanajebphpaaGreatDoor
