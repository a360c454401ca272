/- Joined texts: K5U K13U K14P K14F K14S K14C K14M K14D K14Z K14U K15 S5 K40 S6 S1 K19 K16b K16 S7 K31 K32 K20 K20n K20a K32a K33. -/
import Derived.Test.YtnklanajebphpaaGreatDoorW8
import Derived.Test.YtnklanajebphpaaGreatDoorChecked
import Derived.Test.YtnklanajebphpaaGreatDoorW2
import Derived.WalkKit
import Derived.Lib.Builder
import Derived.Shelf.Strings.Builder1
import Derived.Test.YtnklanajebphpaaGreatDoorW4
import Derived.Defers
import Derived.Recover
import Derived.Test.YtnklanajebphpaaGreatDoorW6
set_option maxRecDepth 100000
set_option maxHeartbeats 4000000
set_option linter.unusedVariables false
set_option linter.unusedSimpArgs false
namespace Go.Proofs.YtnklanajebphpaaGreatDoor
open IntKind
section
open Go Go.Rx Go.RowKit
noncomputable abbrev nQ(s:ByteArray)(off c3:Nat):SObj:=(.ints .u8 (List.map (fun b=>(↑b.toNat:Int)) (#[].extract 0 0++s.data.extract (↑off:Int).toNat ((↑off:Int).toNat+(s.size-(↑off:Int).toNat))++#[].extract (0+min (s.size-(↑off:Int).toNat) (s.data.size-(↑off:Int).toNat)) 0).toList++List.replicate (c3-(s.extract (↑off:Int).toNat s.size).size) (0:Int)) 5 c3 (c3+1))
noncomputable abbrev lC:List SV:=[(.fn (.func 199) [] []),(.fn (.func 200) [] []),(.fn (.func 201) [] [])]
noncomputable abbrev fh(x:PV)(k:Int):List SV:=[(.str x.name false),(.int .i64 k false),(.xs x.A x.n x.c),(.int .i64 (-1) true),(.bool x.path false),(.ifc 147 (.agg lC))]
noncomputable abbrev fj(s:ByteArray)(off:Nat):List SV:=[(.str s false),(.ptr 1 0),(.int .i64 ((↑off:Int)) false)]
noncomputable abbrev rq(s:ByteArray)(off c3 k0_:Nat):SV:=(.slc k0_ 0 ((s.extract (↑off:Int).toNat s.size).size) c3 false false)
noncomputable abbrev nR(off:Nat)(s:ByteArray):Prop:=((0:Int)<=(↑off:Int)/\(↑off:Int)<=(↑s.size:Int))
noncomputable abbrev zz:ByteArray:=(ByteArray.mk #[99,111,109,112,111,110,101,110,116,32,115,105,122,101,32,109,105,115,109,97,116,99,104,58,32,33,61])
noncomputable abbrev nS(s:ByteArray)(x:PV)(c1:Nat):SObj:=(.ints .u8 (List.map (fun b=>(↑b.toNat:Int)) (#[].extract 0 0++s.data.extract (↑x.n:Int).toNat ((↑x.n:Int).toNat+(s.size-(↑x.n:Int).toNat))++#[].extract (0+min (s.size-(↑x.n:Int).toNat) (s.data.size-(↑x.n:Int).toNat)) 0).toList++List.replicate (c1-(s.extract (↑x.n:Int).toNat s.size).size) (0:Int)) 5 c1 (c1+1))
noncomputable abbrev lD(s:ByteArray)(x:PV)(c0:Nat):SObj:=(.ints .u8 (List.map (fun b=>(↑b.toNat:Int)) (#[].extract 0 0++s.data.extract 0 (0+((↑x.n:Int).toNat-0))++#[].extract (0+min ((↑x.n:Int).toNat-0) (s.data.size-0)) 0).toList++List.replicate (c0-(s.extract 0 (↑x.n:Int).toNat).size) (0:Int)) 5 c0 (c0+1))
noncomputable abbrev uV(s:ByteArray)(off:Nat)(x:PV)(k:Int)(c0 c1 c3 c5:Nat):List SObj:=[(.cells (fj s off) 3 64 0 0),(.cells (fh x k) 6 88 0 0),(lD s x c0),(nS s x c1),(nQ s off c3),(.cells lC 3 147 0 0),(nQ s off c5)]
theorem OC(s:ByteArray)(off:Nat)(x:PV)(k:Int)(w:World)(bs:List Nat):am Tryz.prog iW 3000 91 [.ptr 0 0] (SS.mk (vO s off x k (-1) Ed) [] true w bs) =
(.split (decide ((↑off:Int) > (↑s.size:Int))) (.leaf .ret [(.ifc 105 (.ptr 2 0))] (SS.mk [(.cells (fj s off) 3 64 0 0),(.cells (fh x k) 6 88 0 0),(.cells [(.str (ByteArray.mk #[99,111,109,112,111,110,101,110,116,32,118,97,108,117,101,83,116,97,114,116,73,100,120,32,105,115,32,103,114,101,97,116,101,114,32,116,104,97,110,32,116,104,101,32,108,101,110,103,116,104,32,111,102,32,116,104,101,32,99,111,109,112,111,110,101,110,116,39,115,32,98,121,116,101,115]) true)] 1 107 0 0)] [] true w bs)) (.split ((↑x.n:Int) == (0:Int)) (.leaf .ret [(.ifc 105 (.ptr 2 0))] (SS.mk [(.cells (fj s off) 3 64 0 0),(.cells (fh x k) 6 88 0 0),(.cells [(.str (ByteArray.mk #[67,111,109,112,111,110,101,110,116,32,105,115,32,109,105,115,115,105,110,103,32,105,116,115,32,112,114,111,116,111,99,111,108,39,115,32,86,67,111,100,101,32,102,105,101,108,100]) true)] 1 107 0 0)] [] true w bs)) (.split (decide ((↑s.size:Int)<(↑x.n:Int))) (.leaf .ret [(.ifc 105 (.ptr 2 0))] (SS.mk [(.cells (fj s off) 3 64 0 0),(.cells (fh x k) 6 88 0 0),(.cells [(.str zz true)] 1 107 0 0)] [] true w bs)) (.need ((0:Int)<=(↑x.n:Int)/\(↑x.n:Int)<=(↑s.size:Int)) (.choose (.appendCap ((s.extract 0 (↑x.n:Int).toNat).size) 0 5) fun c0=>(.need (x.A=x.A/\x.n=x.n/\x.c=x.c) (.need (0=0) (.need (0+(s.extract 0 (↑x.n:Int).toNat).size<=(List.map (fun b=>(↑b.toNat:Int)) (#[].extract 0 0++s.data.extract 0 (0+((↑x.n:Int).toNat-0))++#[].extract (0+min ((↑x.n:Int).toNat-0) (s.data.size-0)) 0).toList++List.replicate (c0-(s.extract 0 (↑x.n:Int).toNat).size) (0:Int)).length) (.need (canBytes w bs x.A x.n) (.split (!(bytesOf (List.take (s.extract 0 (↑x.n:Int).toNat).size (List.drop 0 (List.map (fun b=>(↑b.toNat:Int)) (#[].extract 0 0++s.data.extract 0 (0+((↑x.n:Int).toNat-0))++#[].extract (0+min ((↑x.n:Int).toNat-0) (s.data.size-0)) 0).toList++List.replicate (c0-(s.extract 0 (↑x.n:Int).toNat).size) (0:Int))))).toList == (bytesAt w x.A x.n).toList) (.leaf .ret [(.ifc 105 (.ptr 3 0))] (SS.mk [(.cells (fj s off) 3 64 0 0),(.cells (fh x k) 6 88 0 0),(lD s x c0),(.cells [(.str (ByteArray.mk #[99,111,109,112,111,110,101,110,116,39,115,32,86,67,111,100,101,32,102,105,101,108,100,32,105,115,32,105,110,118,97,108,105,100,58,32,33,61]) true)] 1 107 0 0)] [] true w bs)) (.need ((0:Int)<=(↑x.n:Int)/\(↑x.n:Int)<=(↑s.size:Int)) (.choose (.appendCap ((s.extract (↑x.n:Int).toNat s.size).size) 0 5) fun c1=>(.hc 96 [(.slc 3 0 ((s.extract (↑x.n:Int).toNat s.size).size) c1 false false)] (SS.mk [(.cells (fj s off) 3 64 0 0),(.cells (fh x k) 6 88 0 0),(lD s x c0),(nS s x c1)] [] true w bs) (tK) fun x2 w2 b2=>(.need (nR off s) (.split ((↑x2.size:Int) != (↑(s.extract (↑off:Int).toNat s.size).size:Int)) (.leaf .ret [(.ifc 105 (.ptr 4 0))] (SS.mk [(.cells (fj s off) 3 64 0 0),(.cells (fh x k) 6 88 0 0),(lD s x c0),(nS s x c1),(.cells [(.str (ByteArray.mk #[99,111,109,112,111,110,101,110,116,32,118,97,108,117,101,32,115,105,122,101,32,109,105,115,109,97,116,99,104,58,32,33,61]) true)] 1 107 0 0)] [] true w2 b2)) (.split (i64.wrap (i64.wrap ((↑x.n:Int)+(↑x2.n:Int))+(↑x2.size:Int)) != (↑s.size:Int)) (.leaf .ret [(.ifc 105 (.ptr 4 0))] (SS.mk [(.cells (fj s off) 3 64 0 0),(.cells (fh x k) 6 88 0 0),(lD s x c0),(nS s x c1),(.cells [(.str zz true)] 1 107 0 0)] [] true w2 b2)) (.need (nR off s) (.choose (.appendCap ((s.extract (↑off:Int).toNat s.size).size) 0 5) fun c3=>(.need (Fn.func 199=Fn.func 199) (.need (Fn.func 200=Fn.func 200) (.need (Fn.func 201=Fn.func 201) (.need (0=0) (.hc 200 [(rq s off c3 4)] (SS.mk [(.cells (fj s off) 3 64 0 0),(.cells (fh x k) 6 88 0 0),(lD s x c0),(nS s x c1),(nQ s off c3),(.cells lC 3 147 0 0)] [] true w2 b2) (cV) fun x4 w4 b4=>(.need (nR off s) (.choose (.appendCap ((s.extract (↑off:Int).toNat s.size).size) 0 5) fun c5=>(.need (Fn.func 199=Fn.func 199) (.need (Fn.func 200=Fn.func 200) (.need (Fn.func 201=Fn.func 201) (.need (0=0) (.hc 391 [(.agg lC),(rq s off c5 6)] (SS.mk (uV s off x k c0 c1 c3 c5) [] true w4 b4) (dN) fun x6 w6 b6=>(.leaf .ret [(.one .nilIface rfl)] (SS.mk (uV s off x k c0 c1 c3 c5) [] true w6 b6)))))))))))))))))))))))))))))))):=by kernel_rfl
theorem vU(s:ByteArray)(off:Nat)(x:PV)(k:Int)(w:World)(bs:List Nat):(by have h:=OC s off x k w bs;unfold uV lD nS zz nR rq fj fh lC nQ at h;exact type_of% h):=OC s off x k w bs
noncomputable abbrev uU(s:ByteArray)(off:Nat)(x:PV)(k:Int)(c0:Nat):List SObj:=[(.cells (fj s off) 3 64 0 0),(.cells (fh x k) 6 88 0 0),(nQ s off c0),(.cells lC 3 147 0 0)]
theorem Oc(s:ByteArray)(off:Nat)(x:PV)(k:Int)(w:World)(bs:List Nat):am Tryz.prog iW 3000 72 [.ptr 0 0] (SS.mk (vO s off x k (-1) Ed) [] true w bs) =
(.need (nR off s) (.choose (.appendCap ((s.extract (↑off:Int).toNat s.size).size) 0 5) fun c0=>(.need (Fn.func 199=Fn.func 199) (.need (Fn.func 200=Fn.func 200) (.need (Fn.func 201=Fn.func 201) (.need (0=0) (.hc 200 [(rq s off c0 2)] (SS.mk (uU s off x k c0) [] true w bs) (cV) fun x1 w1 b1=>(.leaf .ret [(.tup [(.str x1 false),(.one .nilIface rfl)])] (SS.mk (uU s off x k c0) [] true w1 b1))))))))):=by kernel_rfl
theorem eU(s:ByteArray)(off:Nat)(x:PV)(k:Int)(w:World)(bs:List Nat):(by have h:=Oc s off x k w bs;unfold uU nR rq fj fh lC nQ at h;exact type_of% h):=Oc s off x k w bs
end
section
open Go Go.Rx Go.RowKit
theorem Jk{β:Nat->Nat}{w:World}(x:PV)(kn:Nat)(l:List UInt8)(hn:Pth l)(hl:l.length<=2147483647)(hx:x.n=(uv kn).length)(hk:(uv kn).length<20)(hat:aJ β (vO ⟨(uv kn++(uv l.length++l)).toArray⟩ ((uv kn).length+(uv l.length).length) x kn (-1) Ed) w)(hlt:∀i,i<2->β i<w.heap.size)(hinj:∀i j,i<2->j<2->β i=β j->i=j)(hv:Bts w w.heap.size x.A x.n (uv kn))(hvn:∀ad,x.A=some ad->ad.block ∉ ac β 2)(ht:Tens w) :
  Calls Tryz.prog 91 #[.pointer (some ⟨β 0,0,none⟩)] w fun e w'=>e=.returned .nilIface/\Below w.heap.size w w':=by
 obtain⟨nm,A0,n0,cc,sz,pth,tr⟩:=x
 dsimp only at hx hv hvn
 subst hx
 obtain⟨o1,o2,o3⟩:=dY ⟨(uv kn++(uv l.length++l)).toArray⟩ ((uv kn).length+(uv l.length).length) ⟨nm,A0,(uv kn).length,cc,sz,pth,tr⟩ kn (-1) Ed (by simp[Ed,SV.ok,bf])
 have hst:=St.head (P:=Tryz.prog) (Q:=bC fun v w'=>v=.nilIface/\Below w.heap.size w w') o1 hlt hinj hat o2
 refine(gx (hk:=iW) (n:=3000) (args:=[.ptr 0 0]) (Q:=fun v w'=>v=.nilIface/\Below w.heap.size w w') hst ⟨by simp[SV.ok,SS.n],trivial⟩ ?_).mono ?_
 rotate_left
 ·rintro e w' ⟨v,rfl,rfl,h2⟩
  exact⟨rfl,h2⟩
 have hp:=fL kn
 have hu:=jw 9 l.length (Nat.lt_of_le_of_lt hl (by decide))
 have hL:(uv kn++(uv l.length++l)).length=(uv kn).length+((uv l.length).length+l.length):=by simp
 refine ah (vU _ _ _ kn w (ac β 2)) ?_
 have m1:min (uv kn).length ((uv kn).length+((uv l.length).length+l.length))=(uv kn).length:=by omega
 have t2:List.take ((uv kn).length+((uv l.length).length+l.length)) (uv kn++(uv l.length++l))=uv kn++(uv l.length++l):=List.take_of_length_le (by simp)
 have t6:List.take ((uv kn).length+(uv l.length).length+l.length) (uv kn++(uv l.length++l))=uv kn++(uv l.length++l):=List.take_of_length_le (by simp;omega)
 have d2:List.drop ((uv kn).length+(uv l.length).length) (uv kn++(uv l.length++l))=l:=by rw[<- List.drop_drop,List.drop_left,List.drop_left]
 have t3:(uv kn).length+((uv l.length).length+l.length)-((uv kn).length+(uv l.length).length)=l.length:=by omega
 have t4:(uv kn).length+(uv l.length).length+((uv kn).length+((uv l.length).length+l.length)-((uv kn).length+(uv l.length).length))=(uv kn).length+((uv l.length).length+l.length):=by omega
 have t5:((((uv kn).length+(uv l.length).length:Nat)):Int).toNat=(uv kn).length+(uv l.length).length:=rfl
 simp only[jf,jg,aB,hL,Int.toNat_natCast,t5,m1,t4,t3,t2,t6,d2,Nat.sub_zero,Nat.zero_add,List.drop_zero,List.take_left,List.drop_left,Nat.min_self,Nat.add_sub_cancel_left,Nat.add_sub_cancel' (Nat.le_add_right _ _)]
 have below:∀ {Γ:Ctx}{β':Nat->Nat}{s:SS}{w':World},Γ={ P:=Tryz.prog,β0:=β,n0:=2,Q:=bC fun v w'=>v=.nilIface/\Below w.heap.size w w' }->St Γ β' s w'->s.objs.take 2=vO ⟨(uv kn++(uv l.length++l)).toArray⟩ ((uv kn).length+(uv l.length).length) ⟨nm,A0,(uv kn).length,cc,sz,pth,tr⟩ kn (-1) Ed->Keep (ac β 2) w w'->Below w.heap.size w w':=by
  rintro Γ β' s w' rfl hs ho hk
  exact br hk hat (hs.objsAt ho o2) o1 o3
 refine ak (fun h=>by omega) (fun _=>af (fun h=>by have:=eq_of_beq h;omega) (fun _=>ak (fun h=>by omega) (fun _=>aa (by omega) (aE ?_))))
 rintro c0 ⟨_,hc0⟩
 refine aa (by simp) (aa trivial (aa (by simp) (aa (hv.canBytesN (Nat.le_refl _) hvn) (af (fun h=>?_) (fun _=>?_)))))
 ·rw[hv.bytesAt,ia]at h
  simp at h
 refine aa (by omega) (aE ?_)
 rintro c1 ⟨_,hc1⟩
 refine bZ (w:=w) (bs:=ac β 2) (R:=fun(z:RV) _ _=>z=⟨l.length,(uv l.length).length⟩) ⟨rfl,Keep.refl _ _,fun b hb=>.inl hb⟩ (fun x=>⟨rfl,trivial,trivial,trivial,trivial⟩) (fun β' wc hs o hk=>?_) ?_
 ·have h3:=bp (n:=(uv l.length).length+l.length) (hs.at_ 3 _ rfl) (by simp) (hs.lt 3 (by simp[SS.n]))
  refine(fG _ _ _ l.length l _ wc h3 (Nat.le_refl _) hl).mono ?_
  rintro e w' ⟨v,rfl,rfl,hb'⟩
  exact⟨⟨_,_⟩,rfl,hb',rfl⟩
 rintro x2 wc2 w2' b2 hk2 rfl hb2 hkw2 hbs2
 refine aa (by omega) (af (fun h=>by simp at h) (fun _=>af (fun h=>?_) (fun _=>aa (by omega) (aE ?_))))
 ·dsimp only at h
  rw[show i64.wrap (((uv kn).length:Int)+((uv l.length).length:Int))=(((uv kn).length+(uv l.length).length:Nat):Int) by rw[ax (by omega) (by omega)];omega,ax (by omega) (by omega)]at h
  have:=bne_iff_ne.1 h
  omega
 rintro c3 ⟨_,hc3⟩
 refine aa trivial (aa trivial (aa trivial (aa trivial ?_)))
 refine bZ (w:=w) (bs:=ac β 2) (R:=fun(_:ByteArray) _ _=>True) ⟨rfl,hkw2,hbs2⟩ (fun x=>⟨rfl,trivial,trivial,trivial⟩) (fun β' wc hs o hk=>?_) ?_
 ·have h4:=bp (n:=l.length) (hs.at_ 4 _ rfl) rfl (hs.lt 4 (by simp[SS.n]))
  refine(AL _ _ _ l _ wc h4 (Nat.le_refl _)).mono ?_
  rintro e w' ⟨v,rfl,rfl,hb'⟩
  exact⟨_,rfl,hb',trivial⟩
 rintro x4 wc4 w4 b4 hk4 _ hb4 hkw4 hbs4
 refine aa (by omega) (aE ?_)
 rintro c5 ⟨_,hc5⟩
 refine aa trivial (aa trivial (aa trivial (aa trivial ?_)))
 refine bZ (w:=w) (bs:=ac β 2) (R:=fun(_:Unit) _ _=>True) ⟨rfl,hkw4,hbs4⟩ (fun x=>⟨rfl,trivial⟩) (fun β' wc hs o hk=>?_) ?_
 ·have h6:=bp (n:=l.length) (hs.at_ 6 _ rfl) rfl (hs.lt 6 (by simp[SS.n]))
  refine(jy (.func 199) (.func 200) _ wc fun w1 hw1=>(AM _ _ _ l _ w1 (h6.below hw1 (Nat.le_refl _)) hw1.size hn (by omega)).mono (by rintro e w' ⟨v,rfl,rfl,hb'⟩;exact⟨rfl,hb'⟩)).mono ?_
  rintro e w' ⟨rfl,hb'⟩
  exact⟨(),rfl,hb',trivial⟩
 rintro x6 wc6 w6 b6 hk6 _ hb6 hkw6 hbs6
 exact aM (w:=w) (bs:=ac β 2) ⟨rfl,hkw6,hbs6⟩ fun β' w' hs hk=>⟨_,rfl,rfl,below rfl hs rfl hk⟩
end
section
open Go Go.Rx Go.RowKit
theorem Ir{β:Nat->Nat}{w:World}(x:PV)(kn:Nat)(pre:List UInt8)(a b:UInt8)(hat:aJ β (vO ⟨(pre++[a,b]).toArray⟩ pre.length x kn 16 Cc) w)(hlt:∀i,i<2->β i<w.heap.size)(hinj:∀i j,i<2->j<2->β i=β j->i=j)(ht:Tens w) :
  Calls Tryz.prog 72 #[.pointer (some ⟨β 0,0,none⟩)] w fun en w'=>en=.returned (.tuple #[.string ⟨(Lib.decDigits (a.toNat*256+b.toNat)).toArray⟩,.nilIface])/\Below w.heap.size w w':=by
 obtain⟨o1,o2,o3⟩:=dY ⟨(pre++[a,b]).toArray⟩ pre.length x kn 16 Cc (by simp[Cc,SV.ok,bf])
 have hst:=St.head (P:=Tryz.prog) (Q:=bC fun v w'=>v=.tuple #[.string ⟨(Lib.decDigits (a.toNat*256+b.toNat)).toArray⟩,.nilIface]/\Below w.heap.size w w') o1 hlt hinj hat o2
 refine(gx (hk:=iW) (n:=3000) (args:=[.ptr 0 0]) (Q:=fun v w'=>v=.tuple #[.string ⟨(Lib.decDigits (a.toNat*256+b.toNat)).toArray⟩,.nilIface]/\Below w.heap.size w w') hst ⟨by simp[SV.ok,SS.n],trivial⟩ ?_).mono ?_
 rotate_left
 ·rintro e w' ⟨v,rfl,rfl,h2⟩
  exact⟨rfl,h2⟩
 have hL:(pre++[a,b]).length=pre.length+2:=by simp
 refine ah (eP _ _ _ kn w (ac β 2)) ?_
 have t2:List.take (pre.length+2) (pre++[a,b])=pre++[a,b]:=List.take_of_length_le (by simp)
 simp only[jf,jg,aB,hL,Int.toNat_natCast,t2,Nat.sub_zero,Nat.zero_add,List.drop_zero,List.take_left,List.drop_left,Nat.min_self,Nat.add_sub_cancel_left,Nat.add_sub_cancel' (Nat.le_add_right _ _)]
 have below:∀ {Γ:Ctx}{β':Nat->Nat}{s:SS}{w':World},Γ={ P:=Tryz.prog,β0:=β,n0:=2,Q:=bC fun v w'=>v=.tuple #[.string ⟨(Lib.decDigits (a.toNat*256+b.toNat)).toArray⟩,.nilIface]/\Below w.heap.size w w' }->St Γ β' s w'->s.objs.take 2=vO ⟨(pre++[a,b]).toArray⟩ pre.length x kn 16 Cc->Keep (ac β 2) w w'->Below w.heap.size w w':=by
  rintro Γ β' s w' rfl hs ho hk
  exact br hk hat (hs.objsAt ho o2) o1 o3
 refine aa (by omega) (aE ?_)
 rintro c0 ⟨_,hc0⟩
 have hcut:2<=c0:=hc0 ▸ bd
 refine aa trivial (aa trivial (aa trivial (aa trivial ?_)))
 refine bZ (w:=w) (bs:=ac β 2) (R:=fun(s:ByteArray) _ _=>s=⟨(Lib.decDigits (a.toNat*256+b.toNat)).toArray⟩) ⟨rfl,Keep.refl _ _,fun b hb=>.inl hb⟩ (fun x=>⟨rfl,trivial,trivial,trivial⟩) (fun β' wc hs o hk=>?_) ?_
 ·have hbw:=below rfl hs rfl hk
  have hb:=bp (n:=2) (hs.at_ 2 _ rfl) rfl (hs.lt 2 (by simp[SS.n]))
  refine(AC _ _ a b _ wc hb (Nat.le_refl _) (ht.below hbw ht.lt)).mono ?_
  rintro e w' ⟨v,rfl,rfl,hb'⟩
  exact⟨_,rfl,hb',rfl⟩
 rintro x2 wc2 w2' b2 hk2 rfl hb2 hkw2 hbs2
 exact aM (w:=w) (bs:=ac β 2) ⟨rfl,hkw2,hbs2⟩ fun β' w' hs hk=>⟨_,rfl,rfl,below rfl hs rfl hk⟩
end
section
open Go Go.Rx Go.RowKit
theorem Io{β:Nat->Nat}{w:World}(x:PV)(kn:Nat)(pre:List UInt8)(a b c d:UInt8)(hat:aJ β (vO ⟨(pre++[a,b,c,d]).toArray⟩ pre.length x kn 32 Ca) w)(hlt:∀i,i<2->β i<w.heap.size)(hinj:∀i j,i<2->j<2->β i=β j->i=j)(ht:Tens w) :
  Calls Tryz.prog 72 #[.pointer (some ⟨β 0,0,none⟩)] w fun en w'=>en=.returned (.tuple #[.string ⟨(aF a b c d).toArray⟩,.nilIface])/\Below w.heap.size w w':=by
 obtain⟨o1,o2,o3⟩:=dY ⟨(pre++[a,b,c,d]).toArray⟩ pre.length x kn 32 Ca (by simp[Ca,SV.ok,bf])
 have hst:=St.head (P:=Tryz.prog) (Q:=bC fun v w'=>v=.tuple #[.string ⟨(aF a b c d).toArray⟩,.nilIface]/\Below w.heap.size w w') o1 hlt hinj hat o2
 refine(gx (hk:=iW) (n:=3000) (args:=[.ptr 0 0]) (Q:=fun v w'=>v=.tuple #[.string ⟨(aF a b c d).toArray⟩,.nilIface]/\Below w.heap.size w w') hst ⟨by simp[SV.ok,SS.n],trivial⟩ ?_).mono ?_
 rotate_left
 ·rintro e w' ⟨v,rfl,rfl,h2⟩
  exact⟨rfl,h2⟩
 have hL:(pre++[a,b,c,d]).length=pre.length+4:=by simp
 refine ah (eF _ _ _ kn w (ac β 2)) ?_
 have t2:List.take (pre.length+4) (pre++[a,b,c,d])=pre++[a,b,c,d]:=List.take_of_length_le (by simp)
 simp only[jf,jg,aB,hL,Int.toNat_natCast,t2,Nat.sub_zero,Nat.zero_add,List.drop_zero,List.take_left,List.drop_left,Nat.min_self,Nat.add_sub_cancel_left,Nat.add_sub_cancel' (Nat.le_add_right _ _)]
 have below:∀ {Γ:Ctx}{β':Nat->Nat}{s:SS}{w':World},Γ={ P:=Tryz.prog,β0:=β,n0:=2,Q:=bC fun v w'=>v=.tuple #[.string ⟨(aF a b c d).toArray⟩,.nilIface]/\Below w.heap.size w w' }->St Γ β' s w'->s.objs.take 2=vO ⟨(pre++[a,b,c,d]).toArray⟩ pre.length x kn 32 Ca->Keep (ac β 2) w w'->Below w.heap.size w w':=by
  rintro Γ β' s w' rfl hs ho hk
  exact br hk hat (hs.objsAt ho o2) o1 o3
 refine aa (by omega) (aE ?_)
 rintro c0 ⟨_,hc0⟩
 have hcut:4<=c0:=hc0 ▸ bd
 refine aa trivial (aa trivial (aa trivial (aa trivial ?_)))
 refine bZ (w:=w) (bs:=ac β 2) (R:=fun(s:ByteArray) _ _=>s=⟨(aF a b c d).toArray⟩) ⟨rfl,Keep.refl _ _,fun b hb=>.inl hb⟩ (fun x=>⟨rfl,trivial,trivial,trivial⟩) (fun β' wc hs o hk=>?_) ?_
 ·have hbw:=below rfl hs rfl hk
  have hb:=bp (n:=4) (hs.at_ 2 _ rfl) rfl (hs.lt 2 (by simp[SS.n]))
  refine(CJ _ _ _ a b c d _ wc hb hcut (Nat.le_refl _) (ht.below hbw ht.lt)).mono ?_
  rintro e w' ⟨v,rfl,rfl,hb'⟩
  exact⟨_,rfl,hb',rfl⟩
 rintro x2 wc2 w2' b2 hk2 rfl hb2 hkw2 hbs2
 exact aM (w:=w) (bs:=ac β 2) ⟨rfl,hkw2,hbs2⟩ fun β' w' hs hk=>⟨_,rfl,rfl,below rfl hs rfl hk⟩
end
section
open Go Go.Rx Go.RowKit
theorem It{β:Nat->Nat}{w:World}(x:PV)(kn:Nat)(pre:List UInt8)(l:List UInt8)(hl:l.length=16)(hat:aJ β (vO ⟨(pre++l).toArray⟩ pre.length x kn 128 Cd) w)(hlt:∀i,i<2->β i<w.heap.size)(hinj:∀i j,i<2->j<2->β i=β j->i=j)(ht:Tens w) :
  Calls Tryz.prog 72 #[.pointer (some ⟨β 0,0,none⟩)] w fun en w'=>en=.returned (.tuple #[.string ⟨(ph l).toArray⟩,.nilIface])/\Below w.heap.size w w':=by
 obtain⟨o1,o2,o3⟩:=dY ⟨(pre++l).toArray⟩ pre.length x kn 128 Cd (by simp[Cd,SV.ok,bf])
 have hst:=St.head (P:=Tryz.prog) (Q:=bC fun v w'=>v=.tuple #[.string ⟨(ph l).toArray⟩,.nilIface]/\Below w.heap.size w w') o1 hlt hinj hat o2
 refine(gx (hk:=iW) (n:=3000) (args:=[.ptr 0 0]) (Q:=fun v w'=>v=.tuple #[.string ⟨(ph l).toArray⟩,.nilIface]/\Below w.heap.size w w') hst ⟨by simp[SV.ok,SS.n],trivial⟩ ?_).mono ?_
 rotate_left
 ·rintro e w' ⟨v,rfl,rfl,h2⟩
  exact⟨rfl,h2⟩
 have hL:(pre++l).length=pre.length+l.length:=by simp
 refine ah (eS _ _ _ kn w (ac β 2)) ?_
 have t2:List.take (pre.length+l.length) (pre++l)=pre++l:=List.take_of_length_le (by simp)
 simp only[jf,jg,aB,hL,Int.toNat_natCast,t2,Nat.sub_zero,Nat.zero_add,List.drop_zero,List.take_left,List.drop_left,Nat.min_self,Nat.add_sub_cancel_left,Nat.add_sub_cancel' (Nat.le_add_right _ _)]
 have below:∀ {Γ:Ctx}{β':Nat->Nat}{s:SS}{w':World},Γ={ P:=Tryz.prog,β0:=β,n0:=2,Q:=bC fun v w'=>v=.tuple #[.string ⟨(ph l).toArray⟩,.nilIface]/\Below w.heap.size w w' }->St Γ β' s w'->s.objs.take 2=vO ⟨(pre++l).toArray⟩ pre.length x kn 128 Cd->Keep (ac β 2) w w'->Below w.heap.size w w':=by
  rintro Γ β' s w' rfl hs ho hk
  exact br hk hat (hs.objsAt ho o2) o1 o3
 refine aa (by omega) (aE ?_)
 rintro c0 ⟨_,hc0⟩
 have hcut:l.length<=c0:=hc0 ▸ bd
 refine aa trivial (aa trivial (aa trivial (aa trivial ?_)))
 refine bZ (w:=w) (bs:=ac β 2) (R:=fun(s:ByteArray) _ _=>s=⟨(ph l).toArray⟩) ⟨rfl,Keep.refl _ _,fun b hb=>.inl hb⟩ (fun x=>⟨rfl,trivial,trivial,trivial⟩) (fun β' wc hs o hk=>?_) ?_
 ·have hbw:=below rfl hs rfl hk
  have hb:=bp (n:=l.length) (hs.at_ 2 _ rfl) rfl (hs.lt 2 (by simp[SS.n]))
  refine(CL _ _ _ l _ wc hb hl hcut (Nat.le_refl _) (ht.below hbw ht.lt)).mono ?_
  rintro e w' ⟨v,rfl,rfl,hb'⟩
  exact⟨_,rfl,hb',rfl⟩
 rintro x2 wc2 w2' b2 hk2 rfl hb2 hkw2 hbs2
 exact aM (w:=w) (bs:=ac β 2) ⟨rfl,hkw2,hbs2⟩ fun β' w' hs hk=>⟨_,rfl,rfl,below rfl hs rfl hk⟩
end
section
open Go Go.Rx Go.RowKit
theorem Il{β:Nat->Nat}{w:World}(x:PV)(kn:Nat)(pre:List UInt8)(a:UInt8)(hat:aJ β (vO ⟨(pre++[a]).toArray⟩ pre.length x kn 8 B9) w)(hlt:∀i,i<2->β i<w.heap.size)(hinj:∀i j,i<2->j<2->β i=β j->i=j)(ht:Tens w) :
  Calls Tryz.prog 72 #[.pointer (some ⟨β 0,0,none⟩)] w fun en w'=>en=.returned (.tuple #[.string ⟨(cP a.toNat).toArray⟩,.nilIface])/\Below w.heap.size w w':=by
 obtain⟨o1,o2,o3⟩:=dY ⟨(pre++[a]).toArray⟩ pre.length x kn 8 B9 (by simp[B9,SV.ok,bf])
 have hst:=St.head (P:=Tryz.prog) (Q:=bC fun v w'=>v=.tuple #[.string ⟨(cP a.toNat).toArray⟩,.nilIface]/\Below w.heap.size w w') o1 hlt hinj hat o2
 refine(gx (hk:=iW) (n:=3000) (args:=[.ptr 0 0]) (Q:=fun v w'=>v=.tuple #[.string ⟨(cP a.toNat).toArray⟩,.nilIface]/\Below w.heap.size w w') hst ⟨by simp[SV.ok,SS.n],trivial⟩ ?_).mono ?_
 rotate_left
 ·rintro e w' ⟨v,rfl,rfl,h2⟩
  exact⟨rfl,h2⟩
 have hL:(pre++[a]).length=pre.length+1:=by simp
 refine ah (eC _ _ _ kn w (ac β 2)) ?_
 have t2:List.take (pre.length+1) (pre++[a])=pre++[a]:=List.take_of_length_le (by simp)
 simp only[jf,jg,aB,hL,Int.toNat_natCast,t2,Nat.sub_zero,Nat.zero_add,List.drop_zero,List.take_left,List.drop_left,Nat.min_self,Nat.add_sub_cancel_left,Nat.add_sub_cancel' (Nat.le_add_right _ _)]
 have below:∀ {Γ:Ctx}{β':Nat->Nat}{s:SS}{w':World},Γ={ P:=Tryz.prog,β0:=β,n0:=2,Q:=bC fun v w'=>v=.tuple #[.string ⟨(cP a.toNat).toArray⟩,.nilIface]/\Below w.heap.size w w' }->St Γ β' s w'->s.objs.take 2=vO ⟨(pre++[a]).toArray⟩ pre.length x kn 8 B9->Keep (ac β 2) w w'->Below w.heap.size w w':=by
  rintro Γ β' s w' rfl hs ho hk
  exact br hk hat (hs.objsAt ho o2) o1 o3
 refine aa (by omega) (aE ?_)
 rintro c0 ⟨_,hc0⟩
 have hcut:1<=c0:=hc0 ▸ bd
 refine aa trivial (aa trivial (aa trivial (aa trivial ?_)))
 refine bZ (w:=w) (bs:=ac β 2) (R:=fun(s:ByteArray) _ _=>s=⟨(cP a.toNat).toArray⟩) ⟨rfl,Keep.refl _ _,fun b hb=>.inl hb⟩ (fun x=>⟨rfl,trivial,trivial,trivial⟩) (fun β' wc hs o hk=>?_) ?_
 ·have hbw:=below rfl hs rfl hk
  have hb:=bp (n:=1) (hs.at_ 2 _ rfl) rfl (hs.lt 2 (by simp[SS.n]))
  refine(z6 _ _ a _ wc hb (Nat.le_refl _) (ht.below hbw ht.lt)).mono ?_
  rintro e w' ⟨v,rfl,rfl,hb'⟩
  exact⟨_,rfl,hb',rfl⟩
 rintro x2 wc2 w2' b2 hk2 rfl hb2 hkw2 hbs2
 exact aM (w:=w) (bs:=ac β 2) ⟨rfl,hkw2,hbs2⟩ fun β' w' hs hk=>⟨_,rfl,rfl,below rfl hs rfl hk⟩
end
section
open Go Go.Rx Go.RowKit
theorem Ip{β:Nat->Nat}{w:World}(x:PV)(kn:Nat)(pre:List UInt8)(a b c d e f g h:UInt8)(hat:aJ β (vO ⟨(pre++[a,b,c,d,e,f,g,h]).toArray⟩ pre.length x kn 64 Cb) w)(hlt:∀i,i<2->β i<w.heap.size)(hinj:∀i j,i<2->j<2->β i=β j->i=j)(ht:Tens w) :
  Calls Tryz.prog 72 #[.pointer (some ⟨β 0,0,none⟩)] w fun en w'=>en=.returned (.tuple #[.string ⟨(Lib.decDigits (fc a b c d e f g h)).toArray⟩,.nilIface])/\Below w.heap.size w w':=by
 obtain⟨o1,o2,o3⟩:=dY ⟨(pre++[a,b,c,d,e,f,g,h]).toArray⟩ pre.length x kn 64 Cb (by simp[Cb,SV.ok,bf])
 have hst:=St.head (P:=Tryz.prog) (Q:=bC fun v w'=>v=.tuple #[.string ⟨(Lib.decDigits (fc a b c d e f g h)).toArray⟩,.nilIface]/\Below w.heap.size w w') o1 hlt hinj hat o2
 refine(gx (hk:=iW) (n:=3000) (args:=[.ptr 0 0]) (Q:=fun v w'=>v=.tuple #[.string ⟨(Lib.decDigits (fc a b c d e f g h)).toArray⟩,.nilIface]/\Below w.heap.size w w') hst ⟨by simp[SV.ok,SS.n],trivial⟩ ?_).mono ?_
 rotate_left
 ·rintro e w' ⟨v,rfl,rfl,h2⟩
  exact⟨rfl,h2⟩
 have hL:(pre++[a,b,c,d,e,f,g,h]).length=pre.length+8:=by simp
 refine ah (eM _ _ _ kn w (ac β 2)) ?_
 have t2:List.take (pre.length+8) (pre++[a,b,c,d,e,f,g,h])=pre++[a,b,c,d,e,f,g,h]:=List.take_of_length_le (by simp)
 simp only[jf,jg,aB,hL,Int.toNat_natCast,t2,Nat.sub_zero,Nat.zero_add,List.drop_zero,List.take_left,List.drop_left,Nat.min_self,Nat.add_sub_cancel_left,Nat.add_sub_cancel' (Nat.le_add_right _ _)]
 have below:∀ {Γ:Ctx}{β':Nat->Nat}{s:SS}{w':World},Γ={ P:=Tryz.prog,β0:=β,n0:=2,Q:=bC fun v w'=>v=.tuple #[.string ⟨(Lib.decDigits (fc a b c d e f g h)).toArray⟩,.nilIface]/\Below w.heap.size w w' }->St Γ β' s w'->s.objs.take 2=vO ⟨(pre++[a,b,c,d,e,f,g,h]).toArray⟩ pre.length x kn 64 Cb->Keep (ac β 2) w w'->Below w.heap.size w w':=by
  rintro Γ β' s w' rfl hs ho hk
  exact br hk hat (hs.objsAt ho o2) o1 o3
 refine aa (by omega) (aE ?_)
 rintro c0 ⟨_,hc0⟩
 have hcut:8<=c0:=hc0 ▸ bd
 refine aa trivial (aa trivial (aa trivial (aa trivial ?_)))
 refine bZ (w:=w) (bs:=ac β 2) (R:=fun(s:ByteArray) _ _=>s=⟨(Lib.decDigits (fc a b c d e f g h)).toArray⟩) ⟨rfl,Keep.refl _ _,fun b hb=>.inl hb⟩ (fun x=>⟨rfl,trivial,trivial,trivial⟩) (fun β' wc hs o hk=>?_) ?_
 ·have hbw:=below rfl hs rfl hk
  have hb:=bp (n:=8) (hs.at_ 2 _ rfl) rfl (hs.lt 2 (by simp[SS.n]))
  refine(Dr _ _ a b c d e f g h _ wc hb (Nat.le_refl _) (ht.below hbw ht.lt)).mono ?_
  rintro e w' ⟨v,rfl,rfl,hb'⟩
  exact⟨_,rfl,hb',rfl⟩
 rintro x2 wc2 w2' b2 hk2 rfl hb2 hkw2 hbs2
 exact aM (w:=w) (bs:=ac β 2) ⟨rfl,hkw2,hbs2⟩ fun β' w' hs hk=>⟨_,rfl,rfl,below rfl hs rfl hk⟩
end
section
open Go Go.Rx Go.RowKit
theorem Im{β:Nat->Nat}{w:World}(x:PV)(kn:Nat)(pre:List UInt8)(l:List UInt8)(hat:aJ β (vO ⟨(pre++l).toArray⟩ pre.length x kn (-1) Eb) w)(hlt:∀i,i<2->β i<w.heap.size)(hinj:∀i j,i<2->j<2->β i=β j->i=j)(ht:Tens w) :
  Calls Tryz.prog 72 #[.pointer (some ⟨β 0,0,none⟩)] w fun en w'=>en=.returned (.tuple #[.string ⟨(l).toArray⟩,.nilIface])/\Below w.heap.size w w':=by
 obtain⟨o1,o2,o3⟩:=dY ⟨(pre++l).toArray⟩ pre.length x kn (-1) Eb (by simp[Eb,SV.ok,bf])
 have hst:=St.head (P:=Tryz.prog) (Q:=bC fun v w'=>v=.tuple #[.string ⟨(l).toArray⟩,.nilIface]/\Below w.heap.size w w') o1 hlt hinj hat o2
 refine(gx (hk:=iW) (n:=3000) (args:=[.ptr 0 0]) (Q:=fun v w'=>v=.tuple #[.string ⟨(l).toArray⟩,.nilIface]/\Below w.heap.size w w') hst ⟨by simp[SV.ok,SS.n],trivial⟩ ?_).mono ?_
 rotate_left
 ·rintro e w' ⟨v,rfl,rfl,h2⟩
  exact⟨rfl,h2⟩
 have hL:(pre++l).length=pre.length+l.length:=by simp
 refine ah (eD _ _ _ kn w (ac β 2)) ?_
 have t2:List.take (pre.length+l.length) (pre++l)=pre++l:=List.take_of_length_le (by simp)
 simp only[jf,jg,aB,hL,Int.toNat_natCast,t2,Nat.sub_zero,Nat.zero_add,List.drop_zero,List.take_left,List.drop_left,Nat.min_self,Nat.add_sub_cancel_left,Nat.add_sub_cancel' (Nat.le_add_right _ _)]
 have below:∀ {Γ:Ctx}{β':Nat->Nat}{s:SS}{w':World},Γ={ P:=Tryz.prog,β0:=β,n0:=2,Q:=bC fun v w'=>v=.tuple #[.string ⟨(l).toArray⟩,.nilIface]/\Below w.heap.size w w' }->St Γ β' s w'->s.objs.take 2=vO ⟨(pre++l).toArray⟩ pre.length x kn (-1) Eb->Keep (ac β 2) w w'->Below w.heap.size w w':=by
  rintro Γ β' s w' rfl hs ho hk
  exact br hk hat (hs.objsAt ho o2) o1 o3
 refine aa (by omega) (aE ?_)
 rintro c0 ⟨_,hc0⟩
 have hcut:l.length<=c0:=hc0 ▸ bd
 refine aa trivial (aa trivial (aa trivial (aa trivial ?_)))
 refine bZ (w:=w) (bs:=ac β 2) (R:=fun(s:ByteArray) _ _=>s=⟨(l).toArray⟩) ⟨rfl,Keep.refl _ _,fun b hb=>.inl hb⟩ (fun x=>⟨rfl,trivial,trivial,trivial⟩) (fun β' wc hs o hk=>?_) ?_
 ·have hbw:=below rfl hs rfl hk
  have hb:=bp (n:=l.length) (hs.at_ 2 _ rfl) rfl (hs.lt 2 (by simp[SS.n]))
  refine(Cz _ _ _ l _ wc hb (Nat.le_refl _)).mono ?_
  rintro e w' ⟨v,rfl,rfl,hb'⟩
  exact⟨_,rfl,hb',rfl⟩
 rintro x2 wc2 w2' b2 hk2 rfl hb2 hkw2 hbs2
 exact aM (w:=w) (bs:=ac β 2) ⟨rfl,hkw2,hbs2⟩ fun β' w' hs hk=>⟨_,rfl,rfl,below rfl hs rfl hk⟩
end
section
open Go Go.Rx Go.RowKit
theorem Iv{β:Nat->Nat}{w:World}(x:PV)(kn:Nat)(pre:List UInt8)(l:List UInt8)(hn:Nm l)(hat:aJ β (vO ⟨(pre++l).toArray⟩ pre.length x kn (-1) Ee) w)(hlt:∀i,i<2->β i<w.heap.size)(hinj:∀i j,i<2->j<2->β i=β j->i=j)(ht:Tens w) :
  Calls Tryz.prog 72 #[.pointer (some ⟨β 0,0,none⟩)] w fun en w'=>en=.returned (.tuple #[.string ⟨(l).toArray⟩,.nilIface])/\Below w.heap.size w w':=by
 obtain⟨o1,o2,o3⟩:=dY ⟨(pre++l).toArray⟩ pre.length x kn (-1) Ee (by simp[Ee,SV.ok,bf])
 have hst:=St.head (P:=Tryz.prog) (Q:=bC fun v w'=>v=.tuple #[.string ⟨(l).toArray⟩,.nilIface]/\Below w.heap.size w w') o1 hlt hinj hat o2
 refine(gx (hk:=iW) (n:=3000) (args:=[.ptr 0 0]) (Q:=fun v w'=>v=.tuple #[.string ⟨(l).toArray⟩,.nilIface]/\Below w.heap.size w w') hst ⟨by simp[SV.ok,SS.n],trivial⟩ ?_).mono ?_
 rotate_left
 ·rintro e w' ⟨v,rfl,rfl,h2⟩
  exact⟨rfl,h2⟩
 have hL:(pre++l).length=pre.length+l.length:=by simp
 refine ah (eZ _ _ _ kn w (ac β 2)) ?_
 have t2:List.take (pre.length+l.length) (pre++l)=pre++l:=List.take_of_length_le (by simp)
 simp only[jf,jg,aB,hL,Int.toNat_natCast,t2,Nat.sub_zero,Nat.zero_add,List.drop_zero,List.take_left,List.drop_left,Nat.min_self,Nat.add_sub_cancel_left,Nat.add_sub_cancel' (Nat.le_add_right _ _)]
 have below:∀ {Γ:Ctx}{β':Nat->Nat}{s:SS}{w':World},Γ={ P:=Tryz.prog,β0:=β,n0:=2,Q:=bC fun v w'=>v=.tuple #[.string ⟨(l).toArray⟩,.nilIface]/\Below w.heap.size w w' }->St Γ β' s w'->s.objs.take 2=vO ⟨(pre++l).toArray⟩ pre.length x kn (-1) Ee->Keep (ac β 2) w w'->Below w.heap.size w w':=by
  rintro Γ β' s w' rfl hs ho hk
  exact br hk hat (hs.objsAt ho o2) o1 o3
 refine aa (by omega) (aE ?_)
 rintro c0 ⟨_,hc0⟩
 have hcut:l.length<=c0:=hc0 ▸ bd
 refine aa trivial (aa trivial (aa trivial (aa trivial ?_)))
 refine bZ (w:=w) (bs:=ac β 2) (R:=fun(s:ByteArray) _ _=>s=⟨(l).toArray⟩) ⟨rfl,Keep.refl _ _,fun b hb=>.inl hb⟩ (fun x=>⟨rfl,trivial,trivial,trivial⟩) (fun β' wc hs o hk=>?_) ?_
 ·have hbw:=below rfl hs rfl hk
  have hb:=bp (n:=l.length) (hs.at_ 2 _ rfl) rfl (hs.lt 2 (by simp[SS.n]))
  refine(A8 _ _ _ l _ wc hb (Nat.le_refl _) hn).mono ?_
  rintro e w' ⟨v,rfl,rfl,hb'⟩
  exact⟨_,rfl,hb',rfl⟩
 rintro x2 wc2 w2' b2 hk2 rfl hb2 hkw2 hbs2
 exact aM (w:=w) (bs:=ac β 2) ⟨rfl,hkw2,hbs2⟩ fun β' w' hs hk=>⟨_,rfl,rfl,below rfl hs rfl hk⟩
end
section
open Go Go.Rx Go.RowKit
theorem Iu{β:Nat->Nat}{w:World}(x:PV)(kn:Nat)(pre:List UInt8)(l:List UInt8)(hat:aJ β (vO ⟨(pre++l).toArray⟩ pre.length x kn (-1) Ed) w)(hlt:∀i,i<2->β i<w.heap.size)(hinj:∀i j,i<2->j<2->β i=β j->i=j)(ht:Tens w) :
  Calls Tryz.prog 72 #[.pointer (some ⟨β 0,0,none⟩)] w fun en w'=>en=.returned (.tuple #[.string ⟨(l).toArray⟩,.nilIface])/\Below w.heap.size w w':=by
 obtain⟨o1,o2,o3⟩:=dY ⟨(pre++l).toArray⟩ pre.length x kn (-1) Ed (by simp[Ed,SV.ok,bf])
 have hst:=St.head (P:=Tryz.prog) (Q:=bC fun v w'=>v=.tuple #[.string ⟨(l).toArray⟩,.nilIface]/\Below w.heap.size w w') o1 hlt hinj hat o2
 refine(gx (hk:=iW) (n:=3000) (args:=[.ptr 0 0]) (Q:=fun v w'=>v=.tuple #[.string ⟨(l).toArray⟩,.nilIface]/\Below w.heap.size w w') hst ⟨by simp[SV.ok,SS.n],trivial⟩ ?_).mono ?_
 rotate_left
 ·rintro e w' ⟨v,rfl,rfl,h2⟩
  exact⟨rfl,h2⟩
 have hL:(pre++l).length=pre.length+l.length:=by simp
 refine ah (eU _ _ _ kn w (ac β 2)) ?_
 have t2:List.take (pre.length+l.length) (pre++l)=pre++l:=List.take_of_length_le (by simp)
 simp only[jf,jg,aB,hL,Int.toNat_natCast,t2,Nat.sub_zero,Nat.zero_add,List.drop_zero,List.take_left,List.drop_left,Nat.min_self,Nat.add_sub_cancel_left,Nat.add_sub_cancel' (Nat.le_add_right _ _)]
 have below:∀ {Γ:Ctx}{β':Nat->Nat}{s:SS}{w':World},Γ={ P:=Tryz.prog,β0:=β,n0:=2,Q:=bC fun v w'=>v=.tuple #[.string ⟨(l).toArray⟩,.nilIface]/\Below w.heap.size w w' }->St Γ β' s w'->s.objs.take 2=vO ⟨(pre++l).toArray⟩ pre.length x kn (-1) Ed->Keep (ac β 2) w w'->Below w.heap.size w w':=by
  rintro Γ β' s w' rfl hs ho hk
  exact br hk hat (hs.objsAt ho o2) o1 o3
 refine aa (by omega) (aE ?_)
 rintro c0 ⟨_,hc0⟩
 have hcut:l.length<=c0:=hc0 ▸ bd
 refine aa trivial (aa trivial (aa trivial (aa trivial ?_)))
 refine bZ (w:=w) (bs:=ac β 2) (R:=fun(s:ByteArray) _ _=>s=⟨(l).toArray⟩) ⟨rfl,Keep.refl _ _,fun b hb=>.inl hb⟩ (fun x=>⟨rfl,trivial,trivial,trivial⟩) (fun β' wc hs o hk=>?_) ?_
 ·have hbw:=below rfl hs rfl hk
  have hb:=bp (n:=l.length) (hs.at_ 2 _ rfl) rfl (hs.lt 2 (by simp[SS.n]))
  refine(AL _ _ _ l _ wc hb (Nat.le_refl _)).mono ?_
  rintro e w' ⟨v,rfl,rfl,hb'⟩
  exact⟨_,rfl,hb',rfl⟩
 rintro x2 wc2 w2' b2 hk2 rfl hb2 hkw2 hbs2
 exact aM (w:=w) (bs:=ac β 2) ⟨rfl,hkw2,hbs2⟩ fun β' w' hs hk=>⟨_,rfl,rfl,below rfl hs rfl hk⟩
end
section
open Go Go.Rx Go.RowKit
inductive Simple (k:Int):List UInt8->List UInt8->Prop
 |N (hk:k∈aY) (hs:(an k).size=0) (hp:(an k).path=false) (ht:∀β,Ec.den β=(an k).tr):Simple k [] []
 |P (hk:k∈aY) (hs:(an k).size=16) (hp:(an k).path=false) (ht:∀β,Cc.den β=(an k).tr) (a b:UInt8):Simple k [a,b] (Lib.decDigits (a.toNat*256+b.toNat))
 |F (hk:k∈aY) (hs:(an k).size=32) (hp:(an k).path=false) (ht:∀β,Ca.den β=(an k).tr) (a b c d:UInt8):Simple k [a,b,c,d] (aF a b c d)
 |S (hk:k∈aY) (hs:(an k).size=128) (hp:(an k).path=false) (ht:∀β,Cd.den β=(an k).tr) (l:List UInt8) (hl:l.length=16):Simple k l (ph l)
 |C (hk:k∈aY) (hs:(an k).size=8) (hp:(an k).path=false) (ht:∀β,B9.den β=(an k).tr) (a:UInt8):Simple k [a] (cP a.toNat)
 |M (hk:k∈aY) (hs:(an k).size=64) (hp:(an k).path=false) (ht:∀β,Cb.den β=(an k).tr) (a b c d e f g h:UInt8):Simple k [a,b,c,d,e,f,g,h] (Lib.decDigits (fc a b c d e f g h))
 |D (hk:k∈aY) (hs:(an k).size = -1) (hp:(an k).path=false) (ht:∀β,Eb.den β=(an k).tr) (l:List UInt8) (hn:Nm l):Simple k l l
 |Z (hk:k∈aY) (hs:(an k).size = -1) (hp:(an k).path=false) (ht:∀β,Ee.den β=(an k).tr) (l:List UInt8) (hn:Nm l):Simple k l l
 |U (hk:k∈aY) (hs:(an k).size = -1) (hp:(an k).path=true) (ht:∀β,Ed.den β=(an k).tr) (l:List UInt8) (hn:Pth l):Simple k l l
theorem Simple.tab{k:Int}{val txt:List UInt8}(h:Simple k val txt):k∈aY:=by cases h <;> assumption
theorem su:∀k∈aY,0<=k:=by decide
theorem qL:∀k∈aY,(an k).vc=uv k.toNat:=by
 intro k hk
 simp only[aY,List.mem_cons,List.not_mem_nil,or_false]at hk
 rcases hk with rfl |rfl |rfl |rfl |rfl |rfl |rfl |rfl |rfl |rfl |rfl |rfl |rfl |rfl |rfl |rfl |rfl |rfl |rfl |rfl |rfl |rfl |rfl |rfl |rfl |rfl |rfl |rfl |rfl |rfl |rfl |rfl |rfl |rfl |rfl |rfl |rfl |rfl
 all_goals first
  |(rw[cb (by decide)];rfl)
  |(rw[cI (by decide),cb (by decide)];rfl)
  |(rw[cI (by decide),cI (by decide),cI (by decide),cb (by decide)];rfl)
def Km:Value->Bool
 | .int _ _=>true
 |_=>false
theorem L1:∀k∈aY,Km (an k).tr=false:=by decide
theorem dR(k:Int)(hk:k∈aY):(uv k.toNat).length<20:=by
 rw[<- qL k hk]
 have:=iL k hk
 omega
theorem jR{k:Int}{val:List UInt8}(hk:k∈aY){n:Int}(hs:(an k).size=n)(hn:0<=n):cg k val=uv k.toNat:=by
 unfold cg
 rw[hs,if_neg (by omega),List.append_nil,qL k hk]
theorem ti{k:Int}{val:List UInt8}(hk:k∈aY)(hs:(an k).size = -1):cg k val=uv k.toNat++uv val.length:=by
 unfold cg
 rw[hs,if_pos (by omega),qL k hk]
def CAt(w:World)(B p:Nat)(k:Int)(val:List UInt8):Prop:=
 p<B/\∃b,w.heap[p]?=some (.cells #[.string ⟨(cg k val++val).toArray⟩,.pointer (some ⟨b,0,none⟩),.int .i64 ((cg k val).length:Int)] 64 (0,0))/\ProtB w B b k
theorem CAt.below{w w':World}{B B' p:Nat}{k:Int}{val:List UInt8}(h:CAt w B p k val)(hb:Below B w w')(hB:B<=B'):CAt w' B' p k val:=by
 obtain⟨h1,b,h2,h3⟩:=h
 exact⟨by omega,b,by rw[hb.block p h1];exact h2,h3.below hb hB⟩
theorem CAt.vO{w:World}{B p:Nat}{k:Int}{val:List UInt8}(h:CAt w B p k val)(hB:B<=w.heap.size)(hk:k∈aY){tr:SV}{n:Int}(hs:(an k).size=n)(ht:∀β,tr.den β=(an k).tr) :
  ∃(β:Nat->Nat) (x:PV),β 0=p/\x.n=(uv k.toNat).length/\aJ β (vO ⟨(cg k val++val).toArray⟩ (cg k val).length x (k.toNat:Nat) n tr) w/\(∀i,i<2->β i<w.heap.size)/\(∀i j,i<2->j<2->β i=β j->i=j) /\
   Bts w w.heap.size x.A x.n (uv k.toNat)/\∀ad,x.A=some ad->ad.block ∉ ac β 2:=by
 obtain⟨h1,b,h2,hb,A,c,h3,h4,h5⟩:=h
 have hkk:((k.toNat:Nat):Int)=k:=Int.toNat_of_nonneg (su k hk)
 have hne:b≠p:=fun e=>by
  subst e
  rw[h2]at h3
  have:=congrArg (fun o:Option Obj=>match o with |some (.cells cs _ _)=>cs.size |_=>0) h3
  simp at this
 have hlen:0<(an k).vc.length:=(iL k hk).1
 refine⟨fun i=>if i=0 then p else b,⟨⟨(an k).name.toArray⟩,A,(an k).vc.length,c,(an k).size,(an k).path,⟨.nilIface,rfl⟩⟩,rfl,by rw[qL k hk],?_,?_,?_,?_,?_⟩
 ·intro i o hi
  match i,hi with
  |0,hi=>
   simp only[List.getElem?_cons_zero,Option.some.injEq]at hi
   subst hi
   exact⟨[],by simpa [ae,SV.den] using h2,rfl⟩
  |1,hi=>
   simp only[List.getElem?_cons_succ,List.getElem?_cons_zero,Option.some.injEq]at hi
   subst hi
   refine⟨[],?_,rfl⟩
   rw[hs]at h3
   simpa [ae,SV.den,ht,hkk] using h3
  |i+2,hi=>simp at hi
 ·intro i hi
  match i,hi with
  |0,_=>show p<_;omega
  |1,_=>show b<_;omega
  |i+2,hi=>omega
 ·intro i j hi hj he
  match i,j,hi,hj with
  |0,0,_,_=>rfl
  |1,1,_,_=>rfl
  |0,1,_,_=>exact absurd he.symm hne
  |1,0,_,_=>exact absurd he hne
  |i+2,_,hi,_=>omega
  |_,j+2,_,hj=>omega
 ·have:=h4.mono hB
  rw[qL k hk]at this ⊢
  exact this
 ·intro ad ha hm
  obtain⟨a,x,ha',_,_,hR⟩:=h4.get hlen
  have ha2:A=some ad:=ha
  rw[ha2]at ha'
  cases ha'
  have hR':w.cell? (ad.add 0)=some (.int .u8 (x.toNat:Int)):=hR
  rw[Rx.add_zero]at hR'
  have hm':ad.block=p∨ad.block=b:=by
   simp only[ac,List.mem_map,List.mem_range]at hm
   obtain⟨i,hi,e⟩:=hm
   match i,hi,e with
   |0,_,e=>exact .inl e.symm
   |1,_,e=>exact .inr e.symm
  have key:∀(cs:Array Value) (e:TypeId) (fr:Nat×Nat),w.heap[ad.block]?=some (.cells cs e fr)->(∃i:Nat,cs[i]?=some (.int .u8 (x.toNat:Int))):=by
   intro cs e fr hh
   simp only[World.cell?,hh]at hR'
   split at hR'
   ·cases hR'
   ·exact⟨_,hR'⟩
  rcases hm' with e |e
  ·rw[e]at key
   obtain⟨i,hi⟩:=key _ _ _ h2
   match i,hi with
   |0,hi=>simp at hi
   |1,hi=>simp at hi
   |2,hi=>simp at hi
   |i+3,hi=>simp at hi
  ·rw[e]at key
   obtain⟨i,hi⟩:=key _ _ _ h3
   match i,hi with
   |0,hi=>simp at hi
   |1,hi=>simp at hi
   |2,hi=>simp at hi
   |3,hi=>simp at hi
   |4,hi=>simp at hi
   |5,hi=>
    have hi':(an k).tr=.int .u8 (x.toNat:Int):=by simpa using hi
    have:=L1 k hk
    rw[hi']at this
    cases this
   |i+6,hi=>simp at hi
theorem Iq{β:Nat->Nat}{w:World}(x:PV)(kn:Nat)(pre:List UInt8)(hat:aJ β (vO ⟨(pre++[]).toArray⟩ pre.length x kn 0 Ec) w)(hlt:∀i,i<2->β i<w.heap.size)(hinj:∀i j,i<2->j<2->β i=β j->i=j) :
  Calls Tryz.prog 72 #[.pointer (some ⟨β 0,0,none⟩)] w fun en w'=>en=.returned (.tuple #[.string ⟨([]:List UInt8).toArray⟩,.nilIface])/\Below w.heap.size w w':=by
 obtain⟨o1,o2,o3⟩:=dY ⟨(pre++[]).toArray⟩ pre.length x kn 0 Ec (by simp[Ec,SV.ok,bf])
 have hst:=St.head (P:=Tryz.prog) (Q:=bC fun v w'=>v=.tuple #[.string ⟨([]:List UInt8).toArray⟩,.nilIface]/\Below w.heap.size w w') o1 hlt hinj hat o2
 refine(gx (hk:=iW) (n:=3000) (args:=[.ptr 0 0]) (Q:=fun v w'=>v=.tuple #[.string ⟨([]:List UInt8).toArray⟩,.nilIface]/\Below w.heap.size w w') hst ⟨by simp[SV.ok,SS.n],trivial⟩ ?_).mono ?_
 rotate_left
 ·rintro e w' ⟨v,rfl,rfl,h2⟩
  exact⟨rfl,h2⟩
 refine ah (eN _ _ _ kn w (ac β 2)) ?_
 exact aM (w:=w) (bs:=ac β 2) ⟨rfl,Keep.refl _ _,fun b hb=>.inl hb⟩ fun β' w' hs hk=>⟨_,rfl,rfl,br hk hat (hs.objsAt rfl o2) o1 o3⟩
theorem FN{w:World}{B p:Nat}{k:Int}{val txt:List UInt8}(h:Simple k val txt)(hl:val.length<=2147483647)(hc:CAt w B p k val)(hB:B<=w.heap.size)(ht:Tens w) :
  Calls Tryz.prog 91 #[.pointer (some ⟨p,0,none⟩)] w fun e w'=>e=.returned .nilIface/\Below w.heap.size w w':=by
 cases h with
 |N hk hs hp htr=>
  obtain⟨β,x,rfl,h1,h2,h3,h4,h5,h6⟩:=hc.vO hB hk hs htr
  rw[jR hk hs (by decide)]at h2
  exact Jh x k.toNat h1 (dR k hk) h2 h3 h4 h5 h6 ht
 |P hk hs hp htr a b=>
  obtain⟨β,x,rfl,h1,h2,h3,h4,h5,h6⟩:=hc.vO hB hk hs htr
  rw[jR hk hs (by decide)]at h2
  exact Ji x k.toNat a b h1 (dR k hk) h2 h3 h4 h5 h6 ht
 |F hk hs hp htr a b c d=>
  obtain⟨β,x,rfl,h1,h2,h3,h4,h5,h6⟩:=hc.vO hB hk hs htr
  rw[jR hk hs (by decide)]at h2
  exact Jf x k.toNat a b c d h1 (dR k hk) h2 h3 h4 h5 h6 ht
 |S hk hs hp htr _ hl16=>
  obtain⟨β,x,rfl,h1,h2,h3,h4,h5,h6⟩:=hc.vO hB hk hs htr
  rw[jR hk hs (by decide)]at h2
  exact Jj x k.toNat val hl16 h1 (dR k hk) h2 h3 h4 h5 h6 ht
 |C hk hs hp htr a=>
  obtain⟨β,x,rfl,h1,h2,h3,h4,h5,h6⟩:=hc.vO hB hk hs htr
  rw[jR hk hs (by decide)]at h2
  exact Jd x k.toNat a h1 (dR k hk) h2 h3 h4 h5 h6 ht
 |M hk hs hp htr a b c d e f g h=>
  obtain⟨β,x,rfl,h1,h2,h3,h4,h5,h6⟩:=hc.vO hB hk hs htr
  rw[jR hk hs (by decide)]at h2
  exact Jg x k.toNat a b c d e f g h h1 (dR k hk) h2 h3 h4 h5 h6 ht
 |D hk hs hp htr _ hn=>
  obtain⟨β,x,rfl,h1,h2,h3,h4,h5,h6⟩:=hc.vO hB hk hs htr
  rw[ti hk hs,List.append_assoc,List.length_append]at h2
  exact Je x k.toNat val hn hl h1 (dR k hk) h2 h3 h4 h5 h6 ht
 |Z hk hs hp htr _ hn=>
  obtain⟨β,x,rfl,h1,h2,h3,h4,h5,h6⟩:=hc.vO hB hk hs htr
  rw[ti hk hs,List.append_assoc,List.length_append]at h2
  exact Jl x k.toNat val hn hl h1 (dR k hk) h2 h3 h4 h5 h6 ht
 |U hk hs hp htr _ hn=>
  obtain⟨β,x,rfl,h1,h2,h3,h4,h5,h6⟩:=hc.vO hB hk hs htr
  rw[ti hk hs,List.append_assoc,List.length_append]at h2
  exact Jk x k.toNat val hn hl h1 (dR k hk) h2 h3 h4 h5 h6 ht
theorem Fb{w:World}{B p:Nat}{k:Int}{val txt:List UInt8}(h:Simple k val txt)(hc:CAt w B p k val)(hB:B<=w.heap.size)(ht:Tens w) :
  Calls Tryz.prog 72 #[.pointer (some ⟨p,0,none⟩)] w fun e w'=>e=.returned (.tuple #[.string ⟨txt.toArray⟩,.nilIface])/\Below w.heap.size w w':=by
 cases h with
 |N hk hs hp htr=>
  obtain⟨β,x,rfl,h1,h2,h3,h4,h5,h6⟩:=hc.vO hB hk hs htr
  exact Iq x k.toNat (cg k _) h2 h3 h4
 |P hk hs hp htr a b=>
  obtain⟨β,x,rfl,h1,h2,h3,h4,h5,h6⟩:=hc.vO hB hk hs htr
  exact Ir x k.toNat (cg k _) a b h2 h3 h4 ht
 |F hk hs hp htr a b c d=>
  obtain⟨β,x,rfl,h1,h2,h3,h4,h5,h6⟩:=hc.vO hB hk hs htr
  exact Io x k.toNat (cg k _) a b c d h2 h3 h4 ht
 |S hk hs hp htr _ hl16=>
  obtain⟨β,x,rfl,h1,h2,h3,h4,h5,h6⟩:=hc.vO hB hk hs htr
  exact It x k.toNat (cg k _) val hl16 h2 h3 h4 ht
 |C hk hs hp htr a=>
  obtain⟨β,x,rfl,h1,h2,h3,h4,h5,h6⟩:=hc.vO hB hk hs htr
  exact Il x k.toNat (cg k _) a h2 h3 h4 ht
 |M hk hs hp htr a b c d e f g h=>
  obtain⟨β,x,rfl,h1,h2,h3,h4,h5,h6⟩:=hc.vO hB hk hs htr
  exact Ip x k.toNat (cg k _) a b c d e f g h h2 h3 h4 ht
 |D hk hs hp htr _ hn=>
  obtain⟨β,x,rfl,h1,h2,h3,h4,h5,h6⟩:=hc.vO hB hk hs htr
  exact Im x k.toNat (cg k _) val h2 h3 h4 ht
 |Z hk hs hp htr _ hn=>
  obtain⟨β,x,rfl,h1,h2,h3,h4,h5,h6⟩:=hc.vO hB hk hs htr
  exact Iv x k.toNat (cg k _) val hn h2 h3 h4 ht
 |U hk hs hp htr _ hn=>
  obtain⟨β,x,rfl,h1,h2,h3,h4,h5,h6⟩:=hc.vO hB hk hs htr
  exact Iu x k.toNat (cg k _) val h2 h3 h4 ht
end
section
open Go Go.RowKit
theorem NX:Tryz.prog.underlying 91=some (.pointer 93):=by kernel_rfl
theorem L3:Tryz.prog.underlying 143=some .unsafePointer:=by kernel_rfl
theorem pT(b:Nat)(w:World)(h0:w.cell? ⟨b,0,none⟩=some (.pointer (some ⟨b,0,none⟩))) :
  Calls Tryz.prog 135 #[.pointer (some ⟨b,0,none⟩)] w fun e w'=>e=.returned (.tuple #[])/\w'=w:=by
 obtain⟨j,hj⟩:∃j,Tryz.prog.info? 93=some j:=⟨_,rfl⟩
 go_enter Tryz.func135,Tryz.ntmps135
 go_wp2
 rw[Lib.run_neq_ptr_same w _ NX hj]
 go_wp2
 simp[bodyPost,results,Tryz.results135,go_sem]
theorem oQ(b:Nat)(w:World)(h0:w.cell? ⟨b,0,none⟩=some (.pointer none))(hsh:w.shape? b=some (93,2))(hfz:w.frozen? ⟨b,0,none⟩=false) :
  Calls Tryz.prog 135 #[.pointer (some ⟨b,0,none⟩)] w fun e w'=>e=.returned (.tuple #[])/\w'=w.setCell ⟨b,0,none⟩ (.pointer (some ⟨b,0,none⟩)):=by
 obtain⟨j,hj,hjs⟩:∃j,Tryz.prog.info? 93=some j/\j.size≠0:=⟨_,rfl,by decide⟩
 go_enter Tryz.func135,Tryz.ntmps135
 go_wp2
 rw[Lib.run_to_unsafe w ⟨b,0,none⟩ NX L3 hj hjs hsh (Nat.zero_lt_succ 1)]
 simp only[Result.andThen]
 rw[Oper.upon_value]
 go_wp2
 rw[run_callFunc_extern Tryz.func159 (by kernel_rfl) (by kernel_rfl) (by kernel_rfl) (e:=Extern.AbiNoEscape.same) (by kernel_rfl)]
 rw[Lib.run_noEscape]
 simp only[Result.andThen]
 rw[Oper.upon_value]
 go_wp2
 rw[Lib.run_from_unsafe w ⟨b,0,none⟩ L3 NX hj hsh (by kernel_rfl)]
 simp only[Result.andThen]
 rw[Oper.upon_value]
 go_wp2
 simp[bodyPost,results,Tryz.results135,go_sem]
theorem rV:(Tryz.prog.info? 5).map (fun i=>(i.zero,i.size,i.bytes))=some (some (.int .u8 0),1,1):=by kernel_rfl
end
section
open Go Go.Rx Go.RowKit
def b7:List UInt8->List (List UInt8)
 |[]=>[[]]
 |x :: r=>if x=47 then[] :: b7 r else match b7 r with
  |[]=>[[x]]
  |f :: fs=>(x :: f) :: fs
theorem s9:∀l:List UInt8,b7 l≠[]
 |[]=>by simp[b7]
 |x :: r=>by
  rw[b7]
  split
  ·simp
  ·split <;> simp
theorem pV(r:List UInt8):b7 (47 :: r)=[] :: b7 r:=by rw[b7,if_pos rfl]
theorem g7:∀ {a:List UInt8},(∀x∈a,x≠47)->b7 a=[a]
 |[],_=>rfl
 |x :: r,h=>by
  rw[b7,if_neg (h x List.mem_cons_self),g7 fun y hy=>h y (List.mem_cons_of_mem _ hy)]
theorem gM:∀ {a:List UInt8}(r:List UInt8),(∀x∈a,x≠47)->b7 (a++47 :: r)=a :: b7 r
 |[],r,_=>pV r
 |x :: a,r,h=>by
  rw[List.cons_append,b7,if_neg (h x List.mem_cons_self),gM r fun y hy=>h y (List.mem_cons_of_mem _ hy)]
def r8:List (List UInt8)->List UInt8
 |[]=>[]
 |[f]=>f
 |f :: fs=>f++47 :: r8 fs
theorem kP(f:List UInt8){fs:List (List UInt8)}(h:fs≠[]):r8 (f :: fs)=f++47 :: r8 fs:=by
 cases fs with
 |nil=>exact absurd rfl h
 |cons g r=>rfl
theorem r9:∀l:List UInt8,r8 (b7 l)=l
 |[]=>rfl
 |x :: r=>by
  have ih:=r9 r
  have hn:=s9 r
  rw[b7]
  split
  ·rename_i h
   rw[kP _ hn,ih,h]
   rfl
  ·cases hc:b7 r with
   |nil=>exact absurd hc hn
   |cons f fs=>
    rw[hc]at ih
    show r8 ((x :: f) :: fs)=_
    cases fs with
    |nil=>show x :: f=x :: r;rw[<- ih];rfl
    |cons g gs=>
     rw[kP _ (by simp)]at ih ⊢
     rw[<- ih]
     rfl
def cW(k:Int)(txt:List UInt8):List UInt8:=47 :: ((an k).name++(if(an k).size≠0/\(an k).path=false then 47 :: txt else txt))
def sU(k:Int)(txt:List UInt8):List (List UInt8):=(an k).name :: (if(an k).size=0 then[] else if(an k).path then b7 (txt.drop 1) else[txt])
theorem ou:∀k∈aY,(∀x∈(an k).name,x≠47)/\(an k).name≠[]:=by decide
theorem rR:∀x:Nat,x<256->∀y∈cP x,y≠47:=by decide +kernel
theorem oa:∀d:Nat,d<10->UInt8.ofNat (48+d)≠47:=by decide
theorem iG(n:Nat):∀y∈Lib.decDigits n,y≠47:=by
 induction n using Nat.strongRecOn with
 |_ n ih=>
  intro y hy
  rw[Lib.decDigits]at hy
  split at hy
  ·rename_i h
   simp only[List.mem_singleton]at hy
   subst hy
   exact oa n h
  ·rename_i h
   rcases List.mem_append.1 hy with h1 |h1
   ·exact ih _ (by omega) y h1
   ·simp only[List.mem_singleton]at h1
    subst h1
    exact oa _ (by omega)
theorem kz(n:Nat):∀y∈ay n,y≠47:=by
 intro y hy
 rw[cw]at hy
 obtain⟨d,hd,rfl⟩:=List.mem_map.1 hy
 have:∀d:Nat,d<16->bR d≠47:=by decide
 exact this d (lW n d hd)
theorem lZ:∀G:List Nat,∀y∈jn G,y≠47
 |[],y,hy=>by simp[jn]at hy
 |[g],y,hy=>kz g y hy
 |g :: g' :: r,y,hy=>by
  have e:jn (g :: g' :: r)=ay g++[58]++jn (g' :: r):=rfl
  rw[e]at hy
  simp only[List.mem_append,List.mem_singleton]at hy
  rcases hy with(h |rfl) |h
  ·exact kz g y h
  ·decide
  ·exact lZ (g' :: r) y h
theorem oC(a b c d:UInt8):∀y∈aF a b c d,y≠47:=by
 intro y hy
 simp only[aF,List.mem_append,List.mem_singleton]at hy
 have h:=fun x:UInt8=>rR x.toNat x.toNat_lt
 rcases hy with(((((hy |rfl) |hy) |rfl) |hy) |rfl) |hy
 all_goals first
  |exact h _ _ hy
  |decide
theorem BR(l:List UInt8):∀y∈ph l,y≠47:=by
 intro y hy
 unfold ph at hy
 split at hy
 ·rcases List.mem_append.1 hy with h |h
  ·exact(by decide:∀y∈([58,58,102,102,102,102,58]:List UInt8),y≠47) y h
  ·exact oC _ _ _ _ y h
 ·unfold iY gB at hy
  split at hy
  ·exact lZ _ y hy
  ·simp only[List.mem_append]at hy
   rcases hy with(h |h) |h
   ·exact lZ _ y h
   ·exact(by decide:∀y∈([58,58]:List UInt8),y≠47) y h
   ·exact lZ _ y h
theorem fu(n:Nat):Lib.decDigits n≠[]:=by
 rw[Lib.decDigits]
 split
 ·simp
 ·simp
theorem Fa(n:Nat):cP n≠[]:=by
 unfold cP
 split
 ·simp
 ·split <;> simp
theorem D9(a b c d:UInt8):aF a b c d≠[]:=by simp[aF]
theorem yr(n:Nat):ay n≠[]:=by
 rw[cw]
 have:=mW n
 intro h
 rw[List.map_eq_nil_iff]at h
 rw[h]at this
 simp at this
theorem Kn:∀ {G:List Nat},G≠[]->jn G≠[]
 |[],h=>absurd rfl h
 |[g],_=>yr g
 |g :: g' :: r,_=>by
  have e:jn (g :: g' :: r)=ay g++[58]++jn (g' :: r):=rfl
  rw[e]
  simp
theorem I9(l:List UInt8):ph l≠[]:=by
 unfold ph
 split
 ·simp
 ·unfold iY gB
  split
  ·exact Kn (qz l (by omega))
  ·simp
theorem Pth.head{l:List UInt8}(h:Pth l):∃r,l=47 :: r:=by
 obtain⟨h1,h2,_⟩:=h
 cases l with
 |nil=>simp at h1
 |cons x r=>exact⟨r,by rw[show x=47 from h2]⟩
theorem Simple.facts{k:Int}{val txt:List UInt8}(h:Simple k val txt):(txt=[]/\(an k).size=0/\(an k).path=false/\cW k txt=47 :: (an k).name)∨(txt≠[]/\(an k).size≠0/\(an k).path=false/\cW k txt=47 :: ((an k).name++47 :: txt)) ∨
  (∃r,txt=47 :: r/\(an k).size≠0/\(an k).path=true/\Pth txt/\cW k txt=47 :: ((an k).name++txt)):=by
 unfold cW
 cases h with
 |N _ hz hp=>exact .inl ⟨rfl,hz,hp,by rw[if_neg (fun h=>h.1 hz),List.append_nil]⟩
 |P _ hz hp=>exact .inr (.inl ⟨fu _,by rw[hz];decide,hp,by rw[if_pos ⟨by rw[hz];decide,hp⟩]⟩)
 |F _ hz hp=>exact .inr (.inl ⟨D9 _ _ _ _,by rw[hz];decide,hp,by rw[if_pos ⟨by rw[hz];decide,hp⟩]⟩)
 |S _ hz hp=>exact .inr (.inl ⟨I9 _,by rw[hz];decide,hp,by rw[if_pos ⟨by rw[hz];decide,hp⟩]⟩)
 |C _ hz hp=>exact .inr (.inl ⟨Fa _,by rw[hz];decide,hp,by rw[if_pos ⟨by rw[hz];decide,hp⟩]⟩)
 |M _ hz hp=>exact .inr (.inl ⟨fu _,by rw[hz];decide,hp,by rw[if_pos ⟨by rw[hz];decide,hp⟩]⟩)
 |D _ hz hp _ _ hn=>exact .inr (.inl ⟨hn.1,by rw[hz];decide,hp,by rw[if_pos ⟨by rw[hz];decide,hp⟩]⟩)
 |Z _ hz hp _ _ hn=>exact .inr (.inl ⟨hn.1,by rw[hz];decide,hp,by rw[if_pos ⟨by rw[hz];decide,hp⟩]⟩)
 |U _ hz hp _ _ hn=>
  obtain⟨r,hr⟩:=hn.head
  exact .inr (.inr ⟨r,hr,by rw[hz];decide,hp,hn,by rw[if_neg (fun h=>by rw[hp]at h;cases h.2)]⟩)
theorem Simple.plain{k:Int}{val txt:List UInt8}(h:Simple k val txt)(hp:(an k).path=false):∀y∈txt,y≠47:=by
 cases h with
 |N=>intro y hy;simp at hy
 |P=>exact iG _
 |F=>exact oC _ _ _ _
 |S=>exact BR _
 |C _ _ _ _ a=>exact rR _ a.toNat_lt
 |M=>exact iG _
 |D _ _ _ _ _ hn=>exact hn.2
 |Z _ _ _ _ _ hn=>exact hn.2
 |U _ _ hp'=>rw[hp']at hp;cases hp
end
section
open Go Go.Rx Go.RowKit
theorem e9{T e:TypeId}{B b:Nat}{p:Value}{bs:List Value}{w w':World}(h:Lib.BuilderAt T e B b p bs w)(hb:Below w.heap.size w w'):Lib.BuilderAt T e B b p bs w':=by
 obtain⟨hB,v,hbk,hown,hne⟩:=h
 have lt:∀ {i:Nat}{o:Obj},w.heap[i]?=some o->w'.heap[i]?=some o:=fun{i o} hi=>by
  rw[hb.block i (Array.getElem?_eq_some_iff.1 hi).1]
  exact hi
 refine⟨hB,v,lt hbk,⟨hown.1,?_⟩,hne⟩
 rcases hown.2 with h1 |⟨g,cap,cur,hv,h2,h3,h4⟩
 ·exact .inl h1
 ·exact .inr ⟨g,cap,cur,hv,h2,lt h3,h4⟩
theorem CAt.cells{w:World}{B p:Nat}{k:Int}{val:List UInt8}(h:CAt w B p k val):p<B/\∃q,q<B/\w.cell? ⟨p,0,none⟩=some (.string ⟨(cg k val++val).toArray⟩)/\w.cell? ⟨p,1,none⟩=some (.pointer (some ⟨q,0,none⟩))/\w.cell? ⟨p,2,none⟩=some (.int .i64 ((cg k val).length:Int)) /\
  w.cell? ⟨q,0,none⟩=some (.string ⟨(an k).name.toArray⟩)/\w.cell? ⟨q,1,none⟩=some (.int .i64 k)/\w.cell? ⟨q,4,none⟩=some (.bool (an k).path)/\w.cell? ⟨q,5,none⟩=some (an k).tr:=by
 obtain⟨h1,b,h2,h3,A,c,h4,_⟩:=h
 exact⟨h1,b,h3,by simp[World.cell?,h2],by simp[World.cell?,h2],by simp[World.cell?,h2],by simp[World.cell?,h4],by simp[World.cell?,h4],by simp[World.cell?,h4],by simp[World.cell?,h4]⟩
theorem BZ{w:World}{B p:Nat}{k:Int}{val txt:List UInt8}(h:Simple k val txt)(hc:CAt w B p k val)(hB:B<=w.heap.size)(ht:Tens w) :
  Calls Tryz.prog 42 #[.pointer (some ⟨p,0,none⟩)] w fun e w'=>e=.returned (.string ⟨txt.toArray⟩)/\Below w.heap.size w w':=by
 have h1:=Fb h hc hB ht
 go_enter Tryz.func42,Tryz.ntmps42
 go_wp2_with fail
 refine h1.mono ?_
 rintro e w' ⟨rfl,hb⟩
 go_wp2
 simp[bodyPost,results,Tryz.results42,go_sem]
 exact hb
end
section
open Go Go.RowKit
theorem zZ(p:Addr)(w:World):CallsD Tryz.prog 66 #[.pointer (some p)] .returning w fun e u' w'=>e=.returned (.tuple #[])/\u'=.returning/\w'=w:=by
 refine callsD_of_wpS Tryz.func66 rfl fun c₀ cs hu=>?_
 apply wpS_seq
 apply wpS_region
 simp[wpOpsS,go_sem,recoverD,hu,Tryz.ntmps66,Exit.thenS]
 refine wpS_cond (t:=false) (by simp[Act.eval,Array.replicate]) ?_
 refine wpS_of_wp ?_
 simp only[Bool.false_eq_true,if_false]
 go_wp2
 cases c₀
 simp_all [bodyPostS,results,Tryz.results66,Exit.thenS]
theorem yK(p0 p1:Addr)(w:World)(bs:List Nat)(R:World->Prop)(hbs:∀b∈bs,b<w.heap.size)
  (hR:∀w2 w3:World,(∀b,b<w.heap.size->w3.heap[b]?=w2.heap[b]?)->R w2->R w3)
  (h:∀w1,Below w.heap.size w w1->Calls Tryz.prog 58 #[.pointer (some p0),.pointer (some p1)] w1 fun e w'=>e=.returned (.tuple #[])/\Rx.Keep bs w1 w'/\R w') :
  Calls Tryz.prog 32 #[.func (.func 58) #[] #[.pointer (some p0),.pointer (some p1)]] w fun e w'=>e=.returned (.bool true)/\Rx.Keep bs w w'/\R w':=by
 have hmf:∀(fn:Fn) (first cap:Array Value) (w:World),(Instr.makeFunc fn first cap).run Tryz.prog w=.ok (.func fn first cap) w:=fun _ _ _ _=>rfl
 have h1:=h (w.alloc (Obj.cells #[Value.bool false] 4)) (Below.alloc (Below.refl _ _) (Nat.le_refl _) _)
 clear h
 go_enter_defers Tryz.func32,Tryz.ntmps32
 go_wp2_with fail
 refine h1.mono ?_
 rintro e w' ⟨rfl,hk,hr⟩
 have hb:w'.heap[w.heap.size]?=some (.cells #[.bool false] 4 (0,0)):=by
  rw[hk.block w.heap.size (by show w.heap.size<(w.heap.push _).size;simp) (fun hm=>Nat.lt_irrefl _ (hbs _ hm))]
  show(w.heap.push _)[w.heap.size]?=_
  simp
 have hc:w'.cell? ⟨w.heap.size,0,none⟩=some (.bool false):=by simp[World.cell?,hb]
 have hz:w'.frozen? ⟨w.heap.size,0,none⟩=false:=by simp[World.frozen?,hb]
 go_wp2
 refine leaves_cons (f:=66) (args:=#[.pointer (some ⟨w.heap.size,0,none⟩)]) (by simp) (by simp[go_sem]) ?_
 refine(zZ ⟨w.heap.size,0,none⟩ _).mono ?_
 rintro e u' w'' ⟨rfl,rfl,rfl⟩
 simp[Leaves,settle,results,Tryz.results32,go_sem]
 have hs:(w'.setCell ⟨w.heap.size,0,none⟩ (.bool true)).cell? ⟨w.heap.size,0,none⟩=some (.bool true):=by
  simp[World.cell?,World.setCell,Array.getElem?_modify,hb]
 rw[hs]
 have hz1:w.heap.size<w'.heap.size:=(Array.getElem?_eq_some_iff.1 hb).1
 have hblk:∀b,b<w.heap.size->(w'.setCell ⟨w.heap.size,0,none⟩ (.bool true)).heap[b]?=w'.heap[b]?:=fun b hb=>Below.heap_setCell _ _ _ _ (by show b≠w.heap.size;omega)
 refine⟨_,rfl,rfl,⟨hk.os,hk.tape,hk.output,?_,fun b hb1 hb2=>?_⟩,hR _ _ hblk hr⟩
 ·show w.heap.size<=(w'.heap.modify _ _).size
  simp
  omega
 ·rw[hblk b hb1,hk.block b (by show b<(w.heap.push _).size;simp;omega) hb2]
  exact Below.heap_alloc _ _ _ hb1
end
section
open Go Go.Rx Go.RowKit
theorem Keep.mono{bs bs':List Nat}{w w':World}(h:Keep bs w w')(hs:∀b∈bs,b∈bs'):Keep bs' w w':=⟨h.os,h.tape,h.output,h.size,fun b hb hn=>h.block b hb fun hm=>hn (hs b hm)⟩
theorem ProtN.keep{w0 w w':World}{b:Nat}{k:Int}{bs:List Nat}(h:ProtN w0 b k w)(hk:Keep bs w w')(hp:∀i∈bs,i<w0.heap.size∨w.heap.size<=i):ProtN w0 b k w':=by
 obtain⟨h0,h1,A,c,h2,h3,h4,h5⟩:=h
 refine⟨h0,Nat.lt_of_lt_of_le h1 hk.size,A,c,?_,?_,h4,h5⟩
 ·rw[hk.block b h1 fun hm=>by have:=hp _ hm;omega]
  exact h2
 ·by_cases hn:0<(an k).vc.length
  ·obtain⟨a,rfl,hb,hx⟩:=h3.2 hn
   exact wK h3 hk fun hm=>by have:=hp _ hm;have:=h5 a rfl;omega
  ·exact⟨h3.1,fun h=>absurd h hn⟩
theorem Jm(k:Int)(hk:k∈aY):(an k).vc.length<=16:=(iL k hk).2
theorem Ad{k:Int}(hk:k∈aY){val:List UInt8}(hl:val.length<=2147483647):(cg k val).length<=26:=by
 have h1:=Jm k hk
 have h2:=jw 9 val.length (Nat.lt_of_le_of_lt hl (by decide))
 unfold cg
 rw[List.length_append]
 split <;> simp <;> omega
theorem E8{w0 w:World}{β:Nat->Nat}{k:Int}{val:List UInt8}{b p:Nat}(h:SObj.At β (.cells [.str ⟨(cg k val++val).toArray⟩ false,.xp ⟨b,0,none⟩,.int .i64 ((cg k val).length:Int) false] 3 64 0 0) w.heap[p]?)(hp:p<w.heap.size)(hn:ProtN w0 b k w):CAt w w.heap.size p k val:=by
 obtain⟨r,h1,h2⟩:=h
 have hr:r=[]:=List.eq_nil_of_length_eq_zero (by have h2':3+r.length=3:=h2;omega)
 subst hr
 exact⟨hp,b,by simpa [ae,SV.den] using h1,hn.b⟩
end
section
open Go Go.Rx Go.RowKit
@[reducible] def ints(l:List UInt8):List Int:=l.map fun x=>(x.toNat:Int)
end
section
open Go Go.Rx Go.RowKit
theorem Bts.ints{w:World}{B n:Nat}{A:Option Addr}{l:List UInt8}(h:Bts w B A n l):List.map bT (valsAt w A n)=ints l:=by
 rw[h.valsAt,List.map_map]
 rfl
def CN(w:World)(p:Nat)(k:Int)(val:List UInt8)(w':World):Prop:=w.heap.size<=p/\p<w'.heap.size/\∃b,w'.heap[p]?=some (.cells #[.string ⟨(cg k val++val).toArray⟩,.pointer (some ⟨b,0,none⟩),.int .i64 ((cg k val).length:Int)] 64 (0,0))/\ProtN w b k w'
theorem CN.at_{w w':World}{p:Nat}{k:Int}{val:List UInt8}(h:CN w p k val w'):CAt w' w'.heap.size p k val:=by
 obtain⟨_,h1,b,h2,h3⟩:=h
 exact⟨h1,b,h2,h3.b⟩
theorem CN.from{w w1 w':World}{p:Nat}{k:Int}{val:List UInt8}(h:CN w1 p k val w')(hz:w.heap.size<=w1.heap.size):CN w p k val w':=by
 obtain⟨h0,h1,b,h2,h3⟩:=h
 exact⟨by omega,h1,b,h2,h3.from hz⟩
theorem CN.keep{w0 w w':World}{p:Nat}{k:Int}{val:List UInt8}{bs:List Nat}(h:CN w0 p k val w)(hk:Keep bs w w')(hp:∀i∈bs,i<w0.heap.size∨w.heap.size<=i):CN w0 p k val w':=by
 obtain⟨h0,h1,b,h2,h3⟩:=h
 refine⟨h0,Nat.lt_of_lt_of_le h1 hk.size,b,?_,h3.keep hk hp⟩
 rw[hk.block p h1 fun hm=>by have:=hp _ hm;omega]
 exact h2
theorem CN.old{β:Nat->Nat}{s:SS}{w0 w:World}{p:Nat}{k:Int}{val:List UInt8}(o:Old β s w)(hx:s.ext=true)(h:CN w0 p k val s.w0)(hp:∀i∈s.pre,i<w0.heap.size):CN w0 p k val w:=
 h.keep (bs:=s.pre) (o.keepK ⟨hx,Keep.refl _ _,fun b hb=>.inl hb⟩) fun i hi=>.inl (hp i hi)
theorem yh{w:World}{β:Nat->Nat}{k:Int}{val:List UInt8}{b p:Nat}(h:SObj.At β (.cells [.str ⟨(cg k val++val).toArray⟩ false,.xp ⟨b,0,none⟩,.int .i64 ((cg k val).length:Int) false] 3 64 0 0) w.heap[p]?) :
  w.heap[p]?=some (.cells #[.string ⟨(cg k val++val).toArray⟩,.pointer (some ⟨b,0,none⟩),.int .i64 ((cg k val).length:Int)] 64 (0,0)):=by
 obtain⟨r,h1,h2⟩:=h
 have hr:r=[]:=List.eq_nil_of_length_eq_zero (by have h2':3+r.length=3:=h2;omega)
 subst hr
 simpa [ae,SV.den] using h1
end
section
open Go Go.RowKit Go.Rx
theorem tD{w:World}{B:Nat}{v:Value}{l:List UInt8}(h:w.ownsRow B 5 1 v l.length (l.map fun b=>Value.int .u8 (b.toNat:Int)))(hl:l≠[]):∃b c,v=.slice (some ⟨b,0,none⟩) l.length c/\l.length<=c/\Bts w w.heap.size (some ⟨b,0,none⟩) l.length l/\B<=b:=by
 rcases h.2 with⟨_,h0⟩ |⟨b,c,cur,rfl,hB,hg,hc,_,hsz,htk⟩
 ·exact absurd (List.eq_nil_of_length_eq_zero h0) hl
 ·have hblt:b<w.heap.size:=by
   rcases Nat.lt_or_ge b w.heap.size with h' |h'
   ·exact h'
   ·rw[Array.getElem?_eq_none h']at hg;cases hg
  refine⟨b,c,rfl,hc,⟨rfl,fun _=>⟨_,rfl,hblt,fun i x hi=>?_⟩⟩,hB⟩
  have ha:(Addr.add ⟨b,0,none⟩ (i*1))=⟨b,i,none⟩:=by unfold Addr.add;split <;> simp_all
  have hil:i<l.length:=(List.getElem?_eq_some_iff.1 hi).1
  rw[ha]
  show w.cell? _=_
  rw[Lib.cell_of_heap hg]
  have e1:(cur.toList.take (l.length*1))[i]?=cur.toList[i]?:=by rw[List.getElem?_take,if_pos (by omega)]
  rw[<- Array.getElem?_toList,<- e1,htk,List.getElem?_map,hi]
  rfl
theorem BW(n:Nat)(hn:n<2^63):(uv n).length<=10:=by
 have h:∀(r n:Nat),n<128^r->(uv n).length<=r+1:=by
  intro r
  induction r with
  |zero=>intro n hn;rw[cb (by simpa using Nat.lt_of_lt_of_le hn (by decide:128^0<=128))];simp
  |succ r ih=>
   intro n hn
   by_cases h:n<128
   ·rw[cb h];simp
   ·rw[cI h]
    have:=ih (n/128) (Nat.div_lt_of_lt_mul (by rw[Nat.pow_succ]at hn;omega))
    simp only[List.length_cons]
    omega
 exact h 9 n (Nat.lt_of_lt_of_le hn (by decide))
theorem DA{m:Nat}{l bs:List UInt8}{w:World}{B:Nat}{v:Value}(hm:m<128)(huv:l=bs++uv m)(h:w.ownsRow B 5 1 v (bs.length+1) (bs.map (fun b=>Value.int .u8 (b.toNat:Int))++[.int .u8 (m:Int)])) :
  ∃b c,v=.slice (some ⟨b,0,none⟩) l.length c/\l.length<=c/\Bts w w.heap.size (some ⟨b,0,none⟩) l.length l/\B<=b:=by
 rw[cb hm]at huv
 refine tD ?_ (by rw[huv];simp)
 rw[huv,List.map_append,List.length_append]
 have e:(UInt8.ofNat m).toNat=m:=by rw[UInt8.toNat_ofNat'];omega
 simp only[List.map_cons,List.map_nil,List.length_cons,List.length_nil,e]
 exact h
theorem DB{m n:Nat}{bs:List UInt8}{w w0:World}{B:Nat}{v:Value}(hm:¬m<128)(hmn:m<=n)(huv:uv n=bs++uv m)(h:w.ownsRow B 5 1 v (bs.length+1) (bs.map (fun b=>Value.int .u8 (b.toNat:Int))++[.int .u8 ((m:Int)%128+128)]))(hb:Below B w0 w) :
  ∃(m':Nat) (bs':List UInt8),Value.int .u64 ((m:Int)/128)=.int .u64 (m':Int)/\m'<=n/\uv n=bs'++uv m'/\w.ownsRow B 5 1 v bs'.length (bs'.map fun b=>Value.int .u8 (b.toNat:Int))/\Below B w0 w:=by
 refine⟨m/128,bs++[UInt8.ofNat (m%128+128)],rfl,by omega,by rw[huv,cI hm];simp,?_,hb⟩
 have e:(UInt8.ofNat (m%128+128)).toNat=m%128+128:=by rw[UInt8.toNat_ofNat'];omega
 simp only[List.map_append,List.length_append,List.map_cons,List.map_nil,List.length_cons,List.length_nil,e]
 exact h
theorem qk(n:Nat)(hn:n<2^63)(w:World):Calls Tryz.prog 51 #[.int .u64 (n:Int)] w (bF (fun v w'=>∃b c,v=.slice (some ⟨b,0,none⟩) (uv n).length c/\(uv n).length<=c/\Bts w' w'.heap.size (some ⟨b,0,none⟩) (uv n).length (uv n)/\w.heap.size<=b) w):=by
 obtain⟨i0,hi,hz0,hz1,hz2⟩:=info_parts rV
 go_enter Tryz.func51,Tryz.ntmps51
 go_wp2
 go_loopw [0,3] (fun k v wr=>∃(m:Nat) (bs:List UInt8),k=.int .u64 (m:Int)/\m<=n/\uv n=bs++uv m/\wr.ownsRow w.heap.size 5 1 v bs.length (bs.map fun b=>Value.int .u8 (b.toNat:Int))/\Below w.heap.size w wr)
  (fun k _ _=>(intOf k).toNat)
 case atStart=>exact⟨n,[],rfl,Nat.le_refl _,rfl,World.ownsRow_nil _ _ _ _,Below.refl _ _⟩
 case round=>
  obtain⟨m,bs,rfl,hmn,huv,hown,hnx⟩:=hrel
  have hz:=hnx.size
  have hbl:bs.length<=(uv n).length:=by rw[huv];simp
  have hl10:=BW n hn
  by_cases hm:m<128
  ·have hmi:((m:Int)<128):=by omega
   go_wp2_with (at_builtin;refine wpList_append_own _ rfl _ _ 22 rfl w.heap.size 5 i0 (.int .u8 0) 1 1 Tryz.underlying22 hi hz0 hz1 hz2 rfl (by decide) _ _ _ rfl (hown.alloc _) ⟨wr.heap.size,0,none⟩ 1 1 [.int .u8 (m:Int)] rfl rfl ?c1 ?c2 ?c3 ?c4 ?c5 ?_)
   case c1=>
    intro j u hj
    match j,hj with
    |0,hj=>simp at hj;subst hj;simp[Addr.add]
   case c2=>intro u hu;simp at hu;subst hu;rfl
   case c3=>unfold maxLen;omega
   case c4=>omega
   case c5=>simp;omega
   intro v' w2 hown' hgrow _
   go_wp2
   go_ret
   exact⟨_,rfl,DA hm huv hown',(hnx.alloc (by omega) _).grown hgrow (by simp;omega) (fun k hk=>(hown.lt k hk).1)⟩
  ·have hmi:¬((m:Int)<128):=by omega
   go_wp2_with (at_builtin;refine wpList_append_own _ rfl _ _ 22 rfl w.heap.size 5 i0 (.int .u8 0) 1 1 Tryz.underlying22 hi hz0 hz1 hz2 rfl (by decide) _ _ _ rfl (hown.alloc _) ⟨wr.heap.size,0,none⟩ 1 1 [.int .u8 ((m:Int)%128+128)] rfl rfl ?c1 ?c2 ?c3 ?c4 ?c5 ?_)
   case c2=>rfl
   case c3=>unfold maxLen;omega
   case c4=>omega
   case c5=>omega
   intro v' w2 hown' hgrow _
   go_wp2
   go_roundw
   case rel=>exact DB hm hmn huv hown' ((hnx.alloc (by omega) _).grown hgrow (by simp;omega) (fun k hk=>(hown.lt k hk).1))
   case measure=>
    show((m:Int)/128).toNat<(m:Int).toNat
    omega
end
section
open Go Go.Rx Go.RowKit
def Cj:SE->List Nat
 | .normal=>[0,3]
 | .exit _=>[3]
 |_=>[]
def xg:LoopHook:=bK 25 ByteArray (.exit 0) [3] (fun s=>[.str s false]) Unit .ret [] (fun _=>[])
def Gh:Hooks:={ calls:=fun _=>none,loops:=fun _ _=>some xg }
def Cl:SE->List Nat
 | .normal=>[3,6,7,8]
 | .exit _=>[3]
 |_=>[]
def xi:LoopHook:=bK 19 Nat (.exit 0) [3] (fun n=>[.int .u64 n false]) Unit .ret [] (fun _=>[])
def Gj:Hooks:={ calls:=fun _=>none,loops:=fun _ _=>some xi }
def wG:SE->List Nat
 | .normal=>[3,6,7,8]
 | .exit _=>[3]
 |_=>[]
def qh:LoopHook:=bK 24 ByteArray (.exit 0) [3] (fun s=>[.str s false]) Unit .ret [] (fun _=>[])
def tm:Hooks:={ calls:=fun f=>if f=49 then some aL else none,loops:=fun _ _=>some qh }
def Ck:SE->List Nat
 | .normal=>[0,3,4]
 | .exit _=>[3]
 |_=>[]
def xh:LoopHook:=bK 21 ByteArray (.exit 0) [3] (fun s=>[.str s false]) Unit .ret [] (fun _=>[])
def Gi:Hooks:={ calls:=fun _=>none,loops:=fun _ _=>some xh }
noncomputable abbrev iw(n:Nat):Int:=(u64.wrap ((48:Int)+(↑n:Int).tmod (10:Int)))
noncomputable abbrev mA(n:Nat):SV:=(.int .u64 (u64.wrap ((↑n:Int).tdiv (10:Int))) false)
noncomputable abbrev uj(n:Nat):List SV:=([(mA n),(.tup []),(.str (ByteArray.mk #[]) true),(.str (bytesOf [u8.wrap (iw n)]) false),(.int .u64 ((↑n:Int)) false),(.int .u64 ((↑n:Int).tmod (10:Int)) false),(.int .u64 (iw n) false),(.int .u8 (u8.wrap (iw n)) false),(.slc 0 0 1 1 true true),(.str (bytesOf [u8.wrap (iw n)]) false),(.int .u64 ((↑n:Int)) false),(mA n)]++List.replicate 13 aA)
noncomputable abbrev jI(n:Nat):SObj:=(.cells [(.int .u8 (u8.wrap (iw n)) false)] 1 5 0 0)
theorem HL(n:Nat)(w:World):am Tryz.prog Gh 1000 49 [.int .u64 n false] (SS.at w) =
(.loop 49 (ar Tryz.prog 49 4) (uj n) (SS.mk [(jI n)] [] true w []) (LoopHook.X (xg)) (LoopHook.out (xg) (uj n) (SS.mk [(jI n)] [] true w [])) (fun x0 w0 b0=>(.leaf .ret [(.str x0.fst false)] (SS.mk [(jI n)] [] true w0 b0))) (LoopHook.Y (xg)) (LoopHook.out' (xg) (uj n) (SS.mk [(jI n)] [] true w [])) (fun x0 w0 b0=>(.leaf .ret [(.raw (x0.snd 2))] (SS.mk [(jI n)] [] true w0 b0)))):=by kernel_rfl
theorem NT(n:Nat)(w:World):(by have h:=HL n w;unfold jI uj mA iw at h;exact type_of% h):=HL n w
theorem Hy(n:Nat)(s:ByteArray)(w:World)(g:Nat->Value):aK Tryz.prog au 1000 49 (ar Tryz.prog 49 4) (az ((Cj .normal).zip [.int .u64 n false,.str s false]) g 25 0) (fun e a s=>.leaf e (ep Cj e a) s) (SS.at w) =
(.split (decide ((↑n:Int) > (0:Int))) (.need ((↑((bytesOf [u8.wrap (iw n)]).size+s.size):Int)<=i64.max) (.leaf .normal [(mA n),(.str (bytesOf [u8.wrap (iw n)]++s) false)] (SS.mk [(jI n)] [] true w []))) (.leaf (.exit 0) [(.str s false)] (SS.mk [] [] true w []))):=by kernel_rfl
theorem Nw(n:Nat)(s:ByteArray)(w:World)(g:Nat->Value):(by have h:=Hy n s w g;unfold mA jI iw at h;exact type_of% h):=Hy n s w g
noncomputable abbrev un(A:Option Addr)(n c:Nat):List SV:=([(.xs A n c),(.tup []),(.int .u64 0 true),(.int .u64 0 true),(.tup []),(.tup []),(.xs A n c),(.int .i64 ((↑n:Int)) false),(.int .i64 0 true)]++List.replicate 10 aA)
theorem HN(A:Option Addr)(n c:Nat)(w:World):am Tryz.prog Gj 1000 50 [.xs A n c] (SS.at w) =
(.loop 50 (ar Tryz.prog 50 4) (un A n c) (SS.mk [] [] true w []) (LoopHook.X (xi)) (LoopHook.out (xi) (un A n c) (SS.mk [] [] true w [])) (fun x0 w0 b0=>(.leaf .ret [(.int .u64 ((↑x0.fst:Int)) false)] (SS.mk [] [] true w0 b0))) (LoopHook.Y (xi)) (LoopHook.out' (xi) (un A n c) (SS.mk [] [] true w [])) (fun x0 w0 b0=>(.leaf .ret [(.raw (x0.snd 2))] (SS.mk [] [] true w0 b0)))):=by kernel_rfl
theorem NV(A:Option Addr)(n c:Nat)(w:World):(by have h:=HN A n c w;unfold un at h;exact type_of% h):=HN A n c w
noncomputable abbrev k9(w:World)(A:Option Addr)(i:Nat):Int:=(ai w (((A.getD default).add ((↑i:Int).toNat*1)).add 0))
noncomputable abbrev rb(i:Nat):SV:=(.int .i64 (i64.wrap ((↑i:Int)+(1:Int))) false)
theorem HA(A:Option Addr)(n c i m:Nat)(w:World)(g:Nat->Value):aK Tryz.prog au 1000 50 (ar Tryz.prog 50 4) (az ((Cl .normal).zip [.int .u64 m false,.xs A n c,.int .i64 n false,.int .i64 i false]) g 19 0) (fun e a s=>.leaf e (ep Cl e a) s) (SS.at w) =
(.split (decide ((↑i:Int)<(↑n:Int))) (.need ((0:Int)<=(↑i:Int)/\(↑i:Int)<(↑n:Int)) (.need (A.isSome=true) (.need (canRead w [] ((A.getD default).add ((↑i:Int).toNat*1)) [SV.int u8 (k9 w A i) false]) (.leaf .normal [(.int .u64 (u64.wrap (↑(BitVec.ofInt 64 (u64.wrap ((↑m:Int)*(2:Int)^8)) |||BitVec.ofInt 64 (u64.wrap (k9 w A i))).toNat:Int)) false),(.xs A n c),(.int .i64 ((↑n:Int)) false),(rb i)] (SS.mk [] [] true w []))))) (.leaf (.exit 0) [(.int .u64 ((↑m:Int)) false)] (SS.mk [] [] true w []))):=by kernel_rfl
theorem Ny(A:Option Addr)(n c i m:Nat)(w:World)(g:Nat->Value):(by have h:=HA A n c i m w g;unfold rb k9 at h;exact type_of% h):=HA A n c i m w g
noncomputable abbrev um(A:Option Addr)(n c:Nat):List SV:=([(.xs A n c),(.tup []),(.str (ByteArray.mk #[]) true),(.str (ByteArray.mk #[]) true),(.tup []),(.tup []),(.xs A n c),(.int .i64 ((↑n:Int)) false),(.int .i64 0 true)]++List.replicate 15 aA)
theorem D6(A:Option Addr)(n c:Nat)(w:World):am Tryz.prog tm 1000 47 [.xs A n c] (SS.at w) =
(.loop 47 (ar Tryz.prog 47 4) (um A n c) (SS.mk [] [] true w []) (LoopHook.X (qh)) (LoopHook.out (qh) (um A n c) (SS.mk [] [] true w [])) (fun x0 w0 b0=>(.leaf .ret [(.str x0.fst false)] (SS.mk [] [] true w0 b0))) (LoopHook.Y (qh)) (LoopHook.out' (qh) (um A n c) (SS.mk [] [] true w [])) (fun x0 w0 b0=>(.leaf .ret [(.raw (x0.snd 2))] (SS.mk [] [] true w0 b0)))):=by kernel_rfl
theorem LM(A:Option Addr)(n c:Nat)(w:World):(by have h:=D6 A n c w;unfold um at h;exact type_of% h):=D6 A n c w
theorem DT(A:Option Addr)(n c i:Nat)(s:ByteArray)(w:World)(g:Nat->Value):aK Tryz.prog tm 1000 47 (ar Tryz.prog 47 4) (az ((wG .normal).zip [.str s false,.xs A n c,.int .i64 n false,.int .i64 i false]) g 24 0) (fun e a s=>.leaf e (ep wG e a) s) (SS.at w) =
(.split (decide ((↑i:Int)<(↑n:Int))) (.need ((0:Int)<=(↑i:Int)/\(↑i:Int)<(↑n:Int)) (.need (A.isSome=true) (.need (canRead w [] ((A.getD default).add ((↑i:Int).toNat*1)) [SV.int u8 (k9 w A i) false]) (.split (decide ((↑i:Int) > (0:Int))) (.need ((↑(s.size+1):Int)<=i64.max) (.hc 49 [(.int .u64 (u64.wrap (k9 w A i)) false)] (SS.mk [] [] true w []) (aL) fun x0 w0 b0=>(.need ((↑((s++ByteArray.mk #[(46:UInt8)]).size+ByteArray.size x0):Int)<=i64.max) (.leaf .normal [(.str (s++ByteArray.mk #[(46:UInt8)]++x0) false),(.xs A n c),(.int .i64 ((↑n:Int)) false),(rb i)] (SS.mk [] [] true w0 b0))))) (.hc 49 [(.int .u64 (u64.wrap (k9 w A i)) false)] (SS.mk [] [] true w []) (aL) fun x0 w0 b0=>(.need ((↑(s.size+ByteArray.size x0):Int)<=i64.max) (.leaf .normal [(.str (s++x0) false),(.xs A n c),(.int .i64 ((↑n:Int)) false),(rb i)] (SS.mk [] [] true w0 b0)))))))) (.leaf (.exit 0) [(.str s false)] (SS.mk [] [] true w []))):=by kernel_rfl
theorem Lg(A:Option Addr)(n c i:Nat)(s:ByteArray)(w:World)(g:Nat->Value):(by have h:=DT A n c i s w g;unfold rb k9 at h;exact type_of% h):=DT A n c i s w g
noncomputable abbrev uo(n:Nat):List SV:=([(.int .i64 ((↑n:Int)) false),(.tup []),(.str (ByteArray.mk #[]) true),(.str (ByteArray.mk #[]) true),(.bool true true)]++List.replicate 16 aA)
theorem HM(n:Nat)(w:World):am Tryz.prog Gi 1000 76 [.int .i64 n false] (SS.at w) =
(.loop 76 (ar Tryz.prog 76 4) (uo n) (SS.mk [] [] true w []) (LoopHook.X (xh)) (LoopHook.out (xh) (uo n) (SS.mk [] [] true w [])) (fun x0 w0 b0=>(.leaf .ret [(.str x0.fst false)] (SS.mk [] [] true w0 b0))) (LoopHook.Y (xh)) (LoopHook.out' (xh) (uo n) (SS.mk [] [] true w [])) (fun x0 w0 b0=>(.leaf .ret [(.raw (x0.snd 2))] (SS.mk [] [] true w0 b0)))):=by kernel_rfl
theorem NU(n:Nat)(w:World):(by have h:=HM n w;unfold uo at h;exact type_of% h):=HM n w
noncomputable abbrev ul:ByteArray:=(ByteArray.mk #[(48:UInt8),(49:UInt8),(50:UInt8),(51:UInt8),(52:UInt8),(53:UInt8),(54:UInt8),(55:UInt8),(56:UInt8),(57:UInt8),(97:UInt8),(98:UInt8),(99:UInt8),(100:UInt8),(101:UInt8),(102:UInt8)])
noncomputable abbrev kl(n:Nat):Int:=((↑n:Int).tmod (16:Int)+(1:Int))
noncomputable abbrev zc(n:Nat)(s:ByteArray)(w:World):T:=(.need ((0:Int)<=i64.wrap (kl n)/\i64.wrap (kl n)<=(↑(16:Nat):Int)) (.need ((0:Int)<=(↑n:Int).tmod (16:Int)/\(↑n:Int).tmod (16:Int)<=(↑(i64.wrap (kl n)).toNat:Int)) (.need ((↑((ul.extract ((↑n:Int).tmod (16:Int)).toNat (i64.wrap (kl n)).toNat).size+s.size):Int)<=i64.max) (.leaf .normal [(.int .i64 (i64.wrap ((↑n:Int).tdiv (16:Int))) false),(.str (ul.extract ((↑n:Int).tmod (16:Int)).toNat (i64.wrap (kl n)).toNat++s) false),(.bool false true)] (SS.mk [] [] true w [])))))
theorem Hz(n:Nat)(s:ByteArray)(b:Bool)(w:World)(g:Nat->Value):aK Tryz.prog au 1000 76 (ar Tryz.prog 76 4) (az ((Ck .normal).zip [.int .i64 n false,.str s false,.bool b false]) g 21 0) (fun e a s=>.leaf e (ep Ck e a) s) (SS.at w) =
(.split b (zc n s w) (.split (decide ((↑n:Int) > (0:Int))) (zc n s w) (.leaf (.exit 0) [(.str s false)] (SS.mk [] [] true w [])))):=by kernel_rfl
theorem Nx(n:Nat)(s:ByteArray)(b:Bool)(w:World)(g:Nat->Value):(by have h:=Hz n s b w g;unfold zc kl ul at h;exact type_of% h):=Hz n s b w g
theorem b1{m:Nat}(h:m<2^64):bytesOf [u8.wrap (u64.wrap (48+((m:Nat):Int).tmod 10))]=⟨#[UInt8.ofNat (48+m%10)]⟩:=by
 have e1:((m:Nat):Int).tmod 10=((m%10:Nat):Int):=rfl
 have e2:(48:Int)+((m%10:Nat):Int)=((48+m%10:Nat):Int):=by omega
 rw[e1,e2,qI (by omega),gg (by omega),ja]
 rfl
theorem N4{m:Nat}(h:m<2^64):u64.wrap (((m:Nat):Int).tdiv 10)=((m/10:Nat):Int):=by
 have e1:((m:Nat):Int).tdiv 10=((m/10:Nat):Int):=rfl
 rw[e1,qI (by omega)]
def JB(n:Nat)(z:Nat×ByteArray):Prop:=z.1<2^64/\∃l,z.2=⟨l.toArray⟩/\Lib.decDigits n=(if z.1=0 then[] else Lib.decDigits z.1)++l
theorem rS{n m:Nat}{l:List UInt8}(hm:m<2^64)(h:Lib.decDigits n=Lib.decDigits m++l):JB n (m/10,⟨(UInt8.ofNat (48+m%10) :: l).toArray⟩):=by
 refine⟨by show m/10<_;omega,_,rfl,?_⟩
 show Lib.decDigits n=(if m/10=0 then[] else Lib.decDigits (m/10))++UInt8.ofNat (48+m%10) :: l
 rw[h]
 by_cases h10:m<10
 ·rw[Lib.decDigits_one h10,if_pos (by omega),show m%10=m by omega]
  rfl
 ·rw[Lib.decDigits,dif_neg h10,if_neg (by omega)]
  simp
theorem qi(n:Nat)(hn:n<2^64)(w:World):Calls Tryz.prog 49 #[.int .u64 n] w (bF (fun v _=>v=.string ⟨(Lib.decDigits n).toArray⟩) w):=by
 refine aH (hk:=Gh) (n:=1000) (args:=[.int .u64 n false]) ⟨trivial,trivial⟩ ?_
 refine ah (NT n w) ?_
 have hmax:=oZ n hn
 rw[aB]at hmax
 rw[b1 hn,N4 hn]
 refine fm (w:=w) (Fine.start w _) Cj (α:=Nat×ByteArray) (fun z=>[.int .u64 z.1 false,.str z.2 false]) (fun z=>z.1) (fun _ z _=>JB n z)
  (fun _ e lv _=>e=.exit 0/\lv=[.string ⟨(Lib.decDigits n).toArray⟩]) (fun _=>au) 1000 (by simp) (by simp[Cj]) (by simp[Cj]) (fun _=>⟨trivial,trivial,trivial⟩) rfl rfl rfl
  (by simp) (by simp) (fun _=>⟨trivial,trivial⟩) (fun _=>trivial) ?_ ?_ ?_
 ·rintro w0 ⟨m,t⟩ w1 g _ ⟨hm,l,rfl,hd⟩ hb0 _
  dsimp only at hm hd
  refine ah (Nw m _ w1 g) (ak (fun hpos=>?_) (fun h0=>?_))
  ·rw[if_neg (by omega)]at hd
   have hlen:=congrArg List.length hd
   rw[List.length_append]at hlen
   have:0<(Lib.decDigits m).length:=by
    have:=tf m
    rw[aB]at this
    omega
   rw[b1 hm,N4 hm]
   refine aa (by rw[aB,be];show((1+l.length:Nat):Int)<=_;omega) ?_
   refine dM (Fine.mk' hb0 (by simp)) fun β w' _ _=>⟨(m/10,⟨(UInt8.ofNat (48+m%10) :: l).toArray⟩),by show m/10<m;omega,?_,rS hm hd⟩
   show[Value.int .u64 _,.string ((⟨[UInt8.ofNat (48+m%10)].toArray⟩:ByteArray)++⟨l.toArray⟩)]=_
   rw[dg]
   rfl
  ·rw[if_pos (by omega),List.nil_append]at hd
   exact cy (Fine.mk' hb0 (by simp)) (by simp) fun β w' _ _=>⟨rfl,by rw[hd];rfl⟩
 ·intro β w0 hst hb
  exact⟨(n/10,_),rfl,by
   have:=rS (n:=n) (l:=[]) hn (by rw[List.append_nil])
   exact this⟩
 ·rintro β w0 hst hb e lv w' ⟨rfl,rfl⟩ hb0 hb1
  exact .inl ⟨_,rfl,rfl,fun g bs hbs=>aN (Fine.mk' hb1 hbs) fun β w' _ _=>rfl⟩
def xY(l:List UInt8):Nat:=l.foldl (fun n x=>n*256+x.toNat) 0
theorem Dx(l:List UInt8)(x:UInt8):xY (l++[x])=xY l*256+x.toNat:=by simp[xY]
theorem Ax:∀(l:List UInt8) (a:Nat),l.foldl (fun n x=>n*256+x.toNat) a<(a+1)*256^l.length
 |[],a=>by simp
 |x :: l,a=>by
  have h1:=Ax l (a*256+x.toNat)
  have h2:=x.toNat_lt
  have h3:(a*256+x.toNat+1)*256^l.length<=((a+1)*256)*256^l.length:=Nat.mul_le_mul_right _ (by omega)
  rw[List.length_cons,Nat.pow_succ,Nat.mul_comm (256^l.length) 256,<- Nat.mul_assoc]
  exact Nat.lt_of_lt_of_le h1 h3
theorem yE(l:List UInt8):xY l<256^l.length:=by
 have:=Ax l 0
 simpa [xY] using this
theorem yy(A:Option Addr)(n c:Nat)(l:List UInt8)(B:Nat)(w:World)(h:Bts w B A n l)(hB:B<=w.heap.size)(hn:l.length<=8):Calls Tryz.prog 50 #[.slice A n c] w (bF (fun v _=>v=.int .u64 (xY l:Int)) w):=by
 have hlen:=h.1
 refine aH (hk:=Gj) (n:=1000) (args:=[.xs A n c]) ⟨trivial,trivial⟩ ?_
 refine ah (NV A n c w) ?_
 refine fm (w:=w) (Fine.start w _) Cl (α:=Nat×Nat) (fun z=>[.int .u64 z.2 false,.xs A n c,.int .i64 n false,.int .i64 z.1 false]) (fun z=>n-z.1) (fun _ z _=>z.1<=n/\z.2=xY (l.take z.1))
  (fun _ e lv _=>e=.exit 0/\lv=[.int .u64 (xY l:Int)]) (fun _=>au) 1000 (by simp) (by simp[Cl]) (by simp[Cl]) (fun _=>⟨trivial,trivial,trivial,trivial,trivial⟩) rfl rfl rfl
  (by simp) (by simp) (fun _=>⟨trivial,trivial⟩) (fun _=>trivial) ?_ ?_ ?_
 ·rintro w0 ⟨i,m⟩ w1 g _ ⟨hi,hm⟩ hb0 hbw
  dsimp only at hi hm
  refine ah (Ny A n c i m w1 g) (ak (fun hlt=>?_) (fun hge=>?_))
  ·have hlt':i<n:=by omega
   obtain⟨b1,b2,b3⟩:=mQ (bs:=[]) h hB hbw (by simp) (z:=(i:Int)) rfl hlt'
   refine aa (by omega) (aa b1 (aa b2 ?_))
   rw[b3]
   have hx:=(l.getD i 0).toNat_lt
   have htk:l.take (i+1)=l.take i++[l.getD i 0]:=by
    rw[List.take_add_one,List.getD_eq_getElem?_getD,List.getElem?_eq_getElem (by omega)]
    rfl
   have hnum:=yE (l.take i)
   have hm2:m<256^7:=by
    rw[hm]
    refine Nat.lt_of_lt_of_le hnum (Nat.pow_le_pow_right (by omega) ?_)
    rw[List.length_take]
    omega
   have e1:u64.wrap ((m:Int)*2^8)=((m*2^8:Nat):Int):=by
    rw[show(m:Int)*2^8=((m*2^8:Nat):Int) by rw[Int.natCast_mul];rfl]
    exact qI (by omega)
   have e2:u64.wrap ((l.getD i 0).toNat:Int)=((l.getD i 0).toNat:Int):=qI (by omega)
   have e3:(BitVec.ofInt 64 ((m*2^8:Nat):Int) |||BitVec.ofInt 64 ((l.getD i 0).toNat:Int)).toNat=m*2^8+(l.getD i 0).toNat:=by
    have:=Mn (W:=64) (s:=8) (x:=(l.getD i 0).toNat) (y:=m) hx (by omega)
    rw[BitVec.or_comm]
    exact this
   rw[e1,e2,e3,qI (by omega)]
   refine dM (Fine.nil hb0) fun β w' _ _=>⟨(i+1,m*2^8+(l.getD i 0).toNat),by show n-(i+1)<n-i;omega,?_,by show i+1<=n;omega,?_⟩
   ·rw[show i64.wrap ((i:Int)+1)=((i+1:Nat):Int) by rw[ax (by omega) (by omega)];omega]
    rfl
   ·show _=xY (l.take (i+1))
    rw[htk,Dx,<- hm]
  ·refine cy (Fine.nil hb0) (by simp) fun β w' _ _=>⟨rfl,?_⟩
   rw[hm,List.take_of_length_le (by omega)]
   rfl
 ·intro β w0 hst hb
  exact⟨(0,0),rfl,Nat.zero_le _,rfl⟩
 ·rintro β w0 hst hb e lv w' ⟨rfl,rfl⟩ hb0 hb1
  exact .inl ⟨xY l,rfl,rfl,fun g bs hbs=>aN (Fine.mk' hb1 hbs) fun β w' _ _=>rfl⟩
def eg:List UInt8->List UInt8
 |[]=>[]
 |[x]=>Lib.decDigits x.toNat
 |x :: r=>Lib.decDigits x.toNat++46 :: eg r
theorem mT:∀(l:List UInt8) (x:UInt8),eg (l++[x])=eg l++(if l=[] then[] else[46])++Lib.decDigits x.toNat
 |[],x=>by simp[eg]
 |[y],x=>by simp[eg]
 |y :: z :: r,x=>by
  have ih:=mT (z :: r) x
  have e1:eg (y :: z :: r++[x])=Lib.decDigits y.toNat++46 :: eg (z :: r++[x]):=rfl
  have e2:eg (y :: z :: r)=Lib.decDigits y.toNat++46 :: eg (z :: r):=rfl
  rw[e1,e2,ih]
  simp
theorem Mk{x:UInt8}:(Lib.decDigits x.toNat).length<=3:=by
 have h:=x.toNat_lt
 by_cases h1:x.toNat<10
 ·rw[Lib.decDigits_one h1];simp
 ·by_cases h2:x.toNat<100
  ·rw[Lib.decDigits_two h1 h2];simp
  ·rw[Lib.decDigits,dif_neg h1,Lib.decDigits_two (i:=x.toNat/10) (by omega) (by omega)]
   simp
theorem wQ:∀l:List UInt8,(eg l).length<=4*l.length
 |[]=>by simp[eg]
 |[x]=>by have:=@Mk x;simp[eg];omega
 |x :: y :: r=>by
  have ih:=wQ (y :: r)
  have e2:eg (x :: y :: r)=Lib.decDigits x.toNat++46 :: eg (y :: r):=rfl
  have:=@Mk x
  rw[e2]
  simp at *
  omega
theorem xm(A:Option Addr)(n c:Nat)(l:List UInt8)(B:Nat)(w:World)(h:Bts w B A n l)(hB:B<=w.heap.size)(hn:l.length<=1000):Calls Tryz.prog 47 #[.slice A n c] w (bF (fun v _=>v=.string ⟨(eg l).toArray⟩) w):=by
 have hlen:=h.1
 refine aH (hk:=tm) (n:=1000) (args:=[.xs A n c]) ⟨trivial,trivial⟩ ?_
 refine ah (LM A n c w) ?_
 refine fm (w:=w) (Fine.start w _) wG (α:=Nat×ByteArray) (fun z=>[.str z.2 false,.xs A n c,.int .i64 n false,.int .i64 z.1 false]) (fun z=>n-z.1) (fun _ z _=>z.1<=n/\z.2=⟨(eg (l.take z.1)).toArray⟩)
  (fun _ e lv _=>e=.exit 0/\lv=[.string ⟨(eg l).toArray⟩]) (fun _=>tm) 1000 (by simp) (by simp[wG]) (by simp[wG]) (fun _=>⟨trivial,trivial,trivial,trivial,trivial⟩) rfl rfl rfl
  (by simp) (by simp) (fun _=>⟨trivial,trivial⟩) (fun _=>trivial) ?_ ?_ ?_
 ·rintro w0 ⟨i,t⟩ w1 g _ ⟨hi,ht⟩ hb0 hbw
  dsimp only at hi ht
  subst ht
  refine ah (Lg A n c i _ w1 g) (ak (fun hlt=>?_) (fun hge=>?_))
  ·have hlt':i<n:=by omega
   obtain⟨b1,b2,b3⟩:=mQ (bs:=[]) h hB hbw (by simp) (z:=(i:Int)) rfl hlt'
   refine aa (by omega) (aa b1 (aa b2 ?_))
   rw[b3]
   have hx:=(l.getD i 0).toNat_lt
   have hdl:=wQ (l.take i)
   rw[List.length_take]at hdl
   have htk:l.take (i+1)=l.take i++[l.getD i 0]:=by
    rw[List.take_add_one,List.getD_eq_getElem?_getD,List.getElem?_eq_getElem (by omega)]
    rfl
   have e2:u64.wrap ((l.getD i 0).toNat:Int)=((l.getD i 0).toNat:Int):=qI (by omega)
   have hdx:=@Mk (l.getD i 0)
   have hi1:i64.wrap ((i:Int)+1)=((i+1:Nat):Int):=by rw[ax (by omega) (by omega)];omega
   rw[e2,hi1]
   refine ak (fun hpos=>aa (by rw[aB,be];omega) ?_) (fun hz=>?_)
   all_goals
    refine eK (Γ:=cS Tryz.prog _) (w:=w0) (R:=fun(x:ByteArray) _ _=>x=⟨(Lib.decDigits (l.getD i 0).toNat).toArray⟩) (Fine.nil hb0) (fun x=>⟨rfl,trivial⟩) (fun β w2 hst ho hb=>?_) ?_
    ·refine(qi _ (by omega) w2).mono ?_
     rintro e w' ⟨v,rfl,rfl,hb'⟩
     exact⟨_,rfl,hb',rfl⟩
    rintro x w2 w3 b3 _ rfl _ hb3 hbs3
   ·refine aa (by rw[ByteArray.size_append,aB (eg (l.take i)),aB (Lib.decDigits _),be];show(((eg (l.take i)).length+1+_:Nat):Int)<=_;omega) (dM (Fine.mk' hb3 hbs3) fun β w' _ _=>⟨(i+1,⟨(eg (l.take (i+1))).toArray⟩),by show n-(i+1)<n-i;omega,?_,by show i+1<=n;omega,rfl⟩)
    have hne:l.take i≠[]:=fun h0=>by
     have:=congrArg List.length h0
     rw[List.length_take,List.length_nil]at this
     omega
    rw[htk,mT,if_neg hne]
    show[Value.string ((⟨(eg (l.take i)).toArray⟩:ByteArray)++⟨[46].toArray⟩++⟨(Lib.decDigits (l.getD i 0).toNat).toArray⟩),_,_,_]=_
    rw[dg,dg]
    rfl
   ·refine aa (by rw[aB,aB,be];omega) (dM (Fine.mk' hb3 hbs3) fun β w' _ _=>⟨(i+1,⟨(eg (l.take (i+1))).toArray⟩),by show n-(i+1)<n-i;omega,?_,by show i+1<=n;omega,rfl⟩)
    have hi0:i=0:=by omega
    rw[htk,mT]
    subst hi0
    show[Value.string ((⟨(eg (l.take 0)).toArray⟩:ByteArray)++⟨(Lib.decDigits (l.getD 0 0).toNat).toArray⟩),_,_,_]=_
    rw[dg]
    simp[eg]
    rfl
  ·refine cy (Fine.nil hb0) (by simp) fun β w' _ _=>⟨rfl,?_⟩
   rw[List.take_of_length_le (by omega)]
   rfl
 ·intro β w0 hst hb
  exact⟨(0,⟨#[]⟩),rfl,Nat.zero_le _,rfl⟩
 ·rintro β w0 hst hb e lv w' ⟨rfl,rfl⟩ hb0 hb1
  exact .inl ⟨_,rfl,rfl,fun g bs hbs=>aN (Fine.mk' hb1 hbs) fun β w' _ _=>rfl⟩
theorem Ij(m:Nat):(ByteArray.mk #[(48:UInt8),(49:UInt8),(50:UInt8),(51:UInt8),(52:UInt8),(53:UInt8),(54:UInt8),(55:UInt8),(56:UInt8),(57:UInt8),(97:UInt8),(98:UInt8),(99:UInt8),(100:UInt8),(101:UInt8),(102:UInt8)]).extract (((m:Nat):Int).tmod 16).toNat (i64.wrap (((m:Nat):Int).tmod 16+1)).toNat=⟨#[bR (m%16)]⟩:=by
 have e1:((m:Nat):Int).tmod 16=((m%16:Nat):Int):=rfl
 have e2:i64.wrap (((m%16:Nat):Int)+1)=((m%16+1:Nat):Int):=by rw[ax (by omega) (by omega)];omega
 rw[e1,e2,Int.toNat_natCast,Int.toNat_natCast]
 exact Aa _ (by omega)
def HY(n:Nat)(z:Nat×ByteArray×Bool):Prop:=z.1<2^62/\∃l,z.2.1=⟨l.toArray⟩/\ay n=(if z.2.2=false/\z.1=0 then[] else ay z.1)++l
theorem Bq{n m:Nat}{l:List UInt8}(hm:m<2^62)(h:ay n=ay m++l):HY n (m/16,⟨(bR (m%16) :: l).toArray⟩,false):=by
 refine⟨by show m/16<_;omega,_,rfl,?_⟩
 show ay n=(if false=false/\m/16=0 then[] else ay (m/16))++bR (m%16) :: l
 rw[h]
 by_cases h10:m<16
 ·rw[ez h10,if_pos ⟨rfl,by omega⟩,show m%16=m by omega]
  rfl
 ·rw[fv h10,if_neg (fun h=>by omega)]
  simp
theorem Fv(n:Nat)(hn:n<2^20)(w:World):Calls Tryz.prog 76 #[.int .i64 n] w (bF (fun v _=>v=.string ⟨(ay n).toArray⟩) w):=by
 refine aH (hk:=Gi) (n:=1000) (args:=[.int .i64 n false]) ⟨trivial,trivial⟩ ?_
 refine ah (NU n w) ?_
 have hmax:=cK n
 refine fm (w:=w) (Fine.start w _) Ck (α:=Nat×ByteArray×Bool) (fun z=>[.int .i64 z.1 false,.str z.2.1 false,.bool z.2.2 false]) (fun z=>2*z.1+(if z.2.2 then 1 else 0)) (fun _ z _=>HY n z)
  (fun _ e lv _=>e=.exit 0/\lv=[.string ⟨(ay n).toArray⟩]) (fun _=>au) 1000 (by simp) (by simp[Ck]) (by simp[Ck]) (fun _=>⟨trivial,trivial,trivial,trivial⟩) rfl rfl rfl
  (by simp) (by simp) (fun _=>⟨trivial,trivial⟩) (fun _=>trivial) ?_ ?_ ?_
 ·rintro w0 ⟨m,t,b⟩ w1 g _ ⟨hm,l,ht,hd⟩ hb0 _
  dsimp only at hm hd ht
  subst ht
  have e5:((m:Nat):Int).tmod 16=((m%16:Nat):Int):=rfl
  have e6:i64.wrap (((m%16:Nat):Int)+1)=((m%16+1:Nat):Int):=by rw[ax (by omega) (by omega)];omega
  have e4:i64.wrap (((m:Nat):Int).tdiv 16)=((m/16:Nat):Int):=by
   have:((m:Nat):Int).tdiv 16=((m/16:Nat):Int):=rfl
   rw[this,ax (by omega) (by omega)]
  have go:ay n=ay m++l->(0<m∨b=true)->(T.need (0<=i64.wrap (((m:Nat):Int).tmod 16+1)/\i64.wrap (((m:Nat):Int).tmod 16+1)<=((16:Nat):Int)) (T.need (0<=((m:Nat):Int).tmod 16/\((m:Nat):Int).tmod 16<=(((i64.wrap (((m:Nat):Int).tmod 16+1)).toNat:Nat):Int))
    (T.need ((((((ByteArray.mk #[(48:UInt8),(49:UInt8),(50:UInt8),(51:UInt8),(52:UInt8),(53:UInt8),(54:UInt8),(55:UInt8),(56:UInt8),(57:UInt8),(97:UInt8),(98:UInt8),(99:UInt8),(100:UInt8),(101:UInt8),(102:UInt8)]).extract (((m:Nat):Int).tmod 16).toNat (i64.wrap (((m:Nat):Int).tmod 16+1)).toNat).size+(⟨l.toArray⟩:ByteArray).size:Nat):Int))<=i64.max)
    (T.leaf .normal [(.int .i64 (i64.wrap (((m:Nat):Int).tdiv 16)) false),(.str ((ByteArray.mk #[(48:UInt8),(49:UInt8),(50:UInt8),(51:UInt8),(52:UInt8),(53:UInt8),(54:UInt8),(55:UInt8),(56:UInt8),(57:UInt8),(97:UInt8),(98:UInt8),(99:UInt8),(100:UInt8),(101:UInt8),(102:UInt8)]).extract (((m:Nat):Int).tmod 16).toNat (i64.wrap (((m:Nat):Int).tmod 16+1)).toNat++⟨l.toArray⟩) false),(.bool false true)] (SS.mk [] [] true w1 []))))).holds
    (cS Tryz.prog (rQ (fun z:Nat×ByteArray×Bool=>[.int .i64 z.1 false,.str z.2.1 false,.bool z.2.2 false]) (fun z=>2*z.1+(if z.2.2 then 1 else 0)) (fun z _=>HY n z) (fun e lv _=>e=.exit 0/\lv=[.string ⟨(ay n).toArray⟩]) w0 (m,⟨l.toArray⟩,b))):=by
   intro hd' hmb
   have hlen:=congrArg List.length hd'
   rw[List.length_append]at hlen
   rw[Ij,e4,e5,e6]
   refine aa (by omega) (aa (by rw[Int.toNat_natCast];omega) (aa (by rw[aB,be];show((1+l.length:Nat):Int)<=_;omega) ?_))
   refine dM (Fine.nil hb0) fun β w' _ _=>⟨(m/16,⟨(bR (m%16) :: l).toArray⟩,false),?_,?_,Bq hm hd'⟩
   ·show 2*(m/16)+0<2*m+(if b then 1 else 0)
    rcases hmb with h |h
    ·omega
    ·rw[h];simp;omega
   ·show[_,Value.string ((⟨[bR (m%16)].toArray⟩:ByteArray)++⟨l.toArray⟩),_]=_
    rw[dg]
    rfl
  refine ah (Nx m _ b w1 g) (af (fun hb=>?_) (fun hb=>ak (fun hpos=>?_) (fun h0=>?_)))
  ·rw[if_neg (fun h=>by rw[hb]at h;cases h.1)]at hd
   exact go hd (.inr hb)
  ·rw[if_neg (fun h=>by omega)]at hd
   exact go hd (.inl (by omega))
  ·rw[if_pos ⟨hb,by omega⟩,List.nil_append]at hd
   exact cy (Fine.nil hb0) (by simp) fun β w' _ _=>⟨rfl,by rw[hd];rfl⟩
 ·intro β w0 hst hb
  exact⟨(n,⟨#[]⟩,true),rfl,by show n<_;omega,[],rfl,by simp⟩
 ·rintro β w0 hst hb e lv w' ⟨rfl,rfl⟩ hb0 hb1
  exact .inl ⟨_,rfl,rfl,fun g bs hbs=>aN (Fine.mk' hb1 hbs) fun β w' _ _=>rfl⟩
end
section
open Go Go.Rx Go.RowKit
@[reducible] def bO(l:List Int):List SObj:=[.ints .i64 l 100 0 0]
structure S6 where
 at_:Int
 most:Nat
 i:Nat
structure S6i where
 at_:Int
 most:Nat
 i:Nat
 n:Nat
structure S6s where
 at_:Int
 most:Nat
 s:ByteArray
 i:Nat
def Jv:SE->List Nat
 | .normal=>[0,3,12]
 | .exit _=>[0,3]
 |_=>[]
def Jw:SE->List Nat
 | .normal=>[3,5,6,57]
 | .exit _=>[3,5,6]
 |_=>[]
def JJ:SE->List Nat
 | .normal=>[3,5,6,7,8,57]
 | .exit _=>[3,5,6,7,8,57]
 |_=>[]
def Jx:SE->List Nat
 | .normal=>[3,5,6,9,10]
 | .exit _=>[9]
 |_=>[]
@[reducible] def AI(v:IV)(i:Nat):List SV:=[.xs v.A v.n v.c,.ptr 0 0,.int .i64 i false]
@[reducible] def xD(z:S6):List SV:=[.ptr 0 0,.int .i64 z.at_ false,.int .i64 z.most false,.int .i64 z.i false]
@[reducible] def so(z:S6i):List SV:=[.ptr 0 0,.int .i64 z.at_ false,.int .i64 z.most false,.int .i64 z.i false,.int .i64 z.n false,.int .i64 z.i false]
@[reducible] def qy(z:S6s):List SV:=[.ptr 0 0,.int .i64 z.at_ false,.int .i64 z.most false,.str z.s false,.int .i64 z.i false]
def kv(v:IV):LoopHook:=bv 115 (List Int) (.exit 0) [0,3] (fun _=>[.xs v.A v.n v.c,.ptr 0 0]) bO Unit .ret [] (fun _=>[]) (fun _=>bO [])
def kQ(l:List Int):LoopHook:=bv 115 (Int×Nat) (.exit 2) [3,5,6] (fun p=>[.ptr 0 0,.int .i64 p.1 false,.int .i64 p.2 false]) (fun _=>bO l) Unit .ret [] (fun _=>[]) (fun _=>bO [])
def Dh(l:List Int)(z:S6):LoopHook:=bv 115 Nat (.exit 4) [3,5,6,7,8,57] (fun n=>so ⟨z.at_,z.most,z.i,n⟩) (fun _=>bO l) Unit .ret [] (fun _=>[]) (fun _=>bO [])
def tp(l:List Int):LoopHook:=bv 115 ByteArray (.exit 6) [9] (fun s=>[.str s false]) (fun _=>bO l) Unit .ret [] (fun _=>[]) (fun _=>bO [])
def Ma(v:IV)(l:List Int):Hooks:={ calls:=fun f=>if f=47∨f=76 then some aL else none,loops:=fun _ k=>if k=4 then some (kv v) else if k=12 then some (kQ l) else some (tp l) }
def Kf(l:List Int)(z:S6):Hooks:={ calls:=fun _=>none,loops:=fun _ _=>some (Dh l z) }
noncomputable abbrev up(l:List Int)(x1:(LoopHook.X (kQ l))):List SV:=[(.raw (x1.snd 0)),(.raw (x1.snd 1)),(.raw (x1.snd 2)),(.ptr 0 0),(.raw (x1.snd 4)),(.int .i64 x1.fst.fst false),(.int .i64 ((↑x1.fst.snd:Int)) false),(.raw (x1.snd 7)),(.raw (x1.snd 8)),(.str (ByteArray.mk #[]) true),(.int .i64 0 true),(.raw (x1.snd 11)),(.raw (x1.snd 12)),(.raw (x1.snd 13)),(.raw (x1.snd 14)),(.raw (x1.snd 15)),(.raw (x1.snd 16)),(.raw (x1.snd 17)),(.raw (x1.snd 18)),(.raw (x1.snd 19)),(.raw (x1.snd 20)),(.raw (x1.snd 21)),(.raw (x1.snd 22)),(.raw (x1.snd 23)),(.raw (x1.snd 24)),(.raw (x1.snd 25)),(.raw (x1.snd 26)),(.raw (x1.snd 27)),(.raw (x1.snd 28)),(.raw (x1.snd 29)),(.raw (x1.snd 30)),(.raw (x1.snd 31)),(.raw (x1.snd 32)),(.raw (x1.snd 33)),(.raw (x1.snd 34)),(.raw (x1.snd 35)),(.raw (x1.snd 36)),(.raw (x1.snd 37)),(.raw (x1.snd 38)),(.raw (x1.snd 39)),(.raw (x1.snd 40)),(.raw (x1.snd 41)),(.raw (x1.snd 42)),(.raw (x1.snd 43)),(.raw (x1.snd 44)),(.raw (x1.snd 45)),(.raw (x1.snd 46)),(.raw (x1.snd 47)),(.raw (x1.snd 48)),(.raw (x1.snd 49)),(.raw (x1.snd 50)),(.raw (x1.snd 51)),(.raw (x1.snd 52)),(.raw (x1.snd 53)),(.raw (x1.snd 54)),(.raw (x1.snd 55)),(.raw (x1.snd 56)),(.raw (x1.snd 57)),(.raw (x1.snd 58)),(.raw (x1.snd 59)),(.raw (x1.snd 60)),(.raw (x1.snd 61)),(.raw (x1.snd 62)),(.raw (x1.snd 63)),(.raw (x1.snd 64)),(.raw (x1.snd 65)),(.raw (x1.snd 66)),(.raw (x1.snd 67)),(.raw (x1.snd 68)),(.raw (x1.snd 69)),(.raw (x1.snd 70)),(.raw (x1.snd 71)),(.raw (x1.snd 72)),(.raw (x1.snd 73)),(.raw (x1.snd 74)),(.raw (x1.snd 75)),(.raw (x1.snd 76)),(.raw (x1.snd 77)),(.raw (x1.snd 78)),(.raw (x1.snd 79)),(.raw (x1.snd 80)),(.raw (x1.snd 81)),(.raw (x1.snd 82)),(.raw (x1.snd 83)),(.raw (x1.snd 84)),(.raw (x1.snd 85)),(.raw (x1.snd 86)),(.raw (x1.snd 87)),(.raw (x1.snd 88)),(.raw (x1.snd 89)),(.raw (x1.snd 90)),(.raw (x1.snd 91)),(.raw (x1.snd 92)),(.raw (x1.snd 93)),(.raw (x1.snd 94)),(.raw (x1.snd 95)),(.raw (x1.snd 96)),(.raw (x1.snd 97)),(.raw (x1.snd 98)),(.raw (x1.snd 99)),(.raw (x1.snd 100)),(.raw (x1.snd 101)),(.raw (x1.snd 102)),(.raw (x1.snd 103)),(.raw (x1.snd 104)),(.raw (x1.snd 105)),(.raw (x1.snd 106)),(.raw (x1.snd 107)),(.raw (x1.snd 108)),(.raw (x1.snd 109)),(.raw (x1.snd 110)),(.raw (x1.snd 111)),(.raw (x1.snd 112)),(.raw (x1.snd 113)),(.raw (x1.snd 114))]
noncomputable abbrev mB(v:IV)(x0:(LoopHook.X (kv v))):Int:=(i64.wrap (↑(BitVec.ofInt 64 (x0.fst.getD 0 (0:Int)) |||BitVec.ofInt 64 (x0.fst.getD 1 (0:Int))).toNat:Int))
noncomputable abbrev pn(v:IV)(x0:(LoopHook.X (kv v))):Int:=(i64.wrap (↑(BitVec.ofInt 64 (i64.wrap (↑(BitVec.ofInt 64 (mB v x0) |||BitVec.ofInt 64 (x0.fst.getD 2 (0:Int))).toNat:Int)) |||BitVec.ofInt 64 (x0.fst.getD 3 (0:Int))).toNat:Int))
noncomputable abbrev uq(v:IV)(x0:(LoopHook.X (kv v))):SV:=(.int .i64 (i64.wrap (↑(BitVec.ofInt 64 (mB v x0) |||BitVec.ofInt 64 (x0.fst.getD 2 (0:Int))).toNat:Int)) false)
noncomputable abbrev km(v:IV)(x0:(LoopHook.X (kv v))):Int:=(↑(BitVec.ofInt 64 (pn v x0) |||BitVec.ofInt 64 (x0.fst.getD 4 (0:Int))).toNat:Int)
noncomputable abbrev ut(v:IV)(x0:(LoopHook.X (kv v))):List SV:=[(.xs v.A v.n v.c),(.raw (x0.snd 1)),(.raw (x0.snd 2)),(.ptr 0 0),(.raw (x0.snd 4)),(.int .i64 (-1) true),(.int .i64 1 true),(.raw (x0.snd 7)),(.raw (x0.snd 8)),(.raw (x0.snd 9)),(.raw (x0.snd 10)),(.raw (x0.snd 11)),(.raw (x0.snd 12)),(.raw (x0.snd 13)),(.raw (x0.snd 14)),(.raw (x0.snd 15)),(.raw (x0.snd 16)),(.raw (x0.snd 17)),(.raw (x0.snd 18)),(.raw (x0.snd 19)),(.raw (x0.snd 20)),(.raw (x0.snd 21)),(.raw (x0.snd 22)),(.raw (x0.snd 23)),(.raw (x0.snd 24)),(.raw (x0.snd 25)),(.raw (x0.snd 26)),(.raw (x0.snd 27)),(.raw (x0.snd 28)),(.raw (x0.snd 29)),(.raw (x0.snd 30)),(.raw (x0.snd 31)),(.raw (x0.snd 32)),(.ptr 0 0),(.int .i64 (x0.fst.getD 0 (0:Int)) false),(.ptr 0 1),(.int .i64 (x0.fst.getD 1 (0:Int)) false),(.int .i64 (mB v x0) false),(.ptr 0 2),(.int .i64 (x0.fst.getD 2 (0:Int)) false),(uq v x0),(.ptr 0 3),(.int .i64 (x0.fst.getD 3 (0:Int)) false),(.int .i64 (pn v x0) false),(.ptr 0 4),(.int .i64 (x0.fst.getD 4 (0:Int)) false),(.int .i64 (i64.wrap (km v x0)) false),(.bool (i64.wrap (km v x0) == (0:Int)) false),(.bool true true),(.ptr 0 5),(.int .i64 (x0.fst.getD 5 (0:Int)) false),(.bool (x0.fst.getD 5 (0:Int) == (65535:Int)) false),(.bool false true),(.raw (x0.snd 53)),(.raw (x0.snd 54)),(.raw (x0.snd 55)),(.raw (x0.snd 56)),(.int .i64 0 true),(.raw (x0.snd 58)),(.raw (x0.snd 59)),(.raw (x0.snd 60)),(.raw (x0.snd 61)),(.raw (x0.snd 62)),(.raw (x0.snd 63)),(.raw (x0.snd 64)),(.raw (x0.snd 65)),(.raw (x0.snd 66)),(.raw (x0.snd 67)),(.raw (x0.snd 68)),(.raw (x0.snd 69)),(.raw (x0.snd 70)),(.raw (x0.snd 71)),(.raw (x0.snd 72)),(.raw (x0.snd 73)),(.raw (x0.snd 74)),(.raw (x0.snd 75)),(.raw (x0.snd 76)),(.raw (x0.snd 77)),(.raw (x0.snd 78)),(.raw (x0.snd 79)),(.raw (x0.snd 80)),(.raw (x0.snd 81)),(.raw (x0.snd 82)),(.raw (x0.snd 83)),(.raw (x0.snd 84)),(.raw (x0.snd 85)),(.raw (x0.snd 86)),(.raw (x0.snd 87)),(.raw (x0.snd 88)),(.raw (x0.snd 89)),(.raw (x0.snd 90)),(.raw (x0.snd 91)),(.raw (x0.snd 92)),(.raw (x0.snd 93)),(.raw (x0.snd 94)),(.raw (x0.snd 95)),(.raw (x0.snd 96)),(.raw (x0.snd 97)),(.raw (x0.snd 98)),(.raw (x0.snd 99)),(.raw (x0.snd 100)),(.raw (x0.snd 101)),(.raw (x0.snd 102)),(.raw (x0.snd 103)),(.raw (x0.snd 104)),(.raw (x0.snd 105)),(.raw (x0.snd 106)),(.raw (x0.snd 107)),(.raw (x0.snd 108)),(.raw (x0.snd 109)),(.raw (x0.snd 110)),(.raw (x0.snd 111)),(.raw (x0.snd 112)),(.raw (x0.snd 113)),(.raw (x0.snd 114))]
noncomputable abbrev uw(v:IV)(x0:(LoopHook.X (kv v))):List SV:=[(.xs v.A v.n v.c),(.raw (x0.snd 1)),(.raw (x0.snd 2)),(.ptr 0 0),(.raw (x0.snd 4)),(.int .i64 (-1) true),(.int .i64 1 true),(.raw (x0.snd 7)),(.raw (x0.snd 8)),(.raw (x0.snd 9)),(.raw (x0.snd 10)),(.raw (x0.snd 11)),(.raw (x0.snd 12)),(.raw (x0.snd 13)),(.raw (x0.snd 14)),(.raw (x0.snd 15)),(.raw (x0.snd 16)),(.raw (x0.snd 17)),(.raw (x0.snd 18)),(.raw (x0.snd 19)),(.raw (x0.snd 20)),(.raw (x0.snd 21)),(.raw (x0.snd 22)),(.raw (x0.snd 23)),(.raw (x0.snd 24)),(.raw (x0.snd 25)),(.raw (x0.snd 26)),(.raw (x0.snd 27)),(.raw (x0.snd 28)),(.raw (x0.snd 29)),(.raw (x0.snd 30)),(.raw (x0.snd 31)),(.raw (x0.snd 32)),(.ptr 0 0),(.int .i64 (x0.fst.getD 0 (0:Int)) false),(.ptr 0 1),(.int .i64 (x0.fst.getD 1 (0:Int)) false),(.int .i64 (mB v x0) false),(.ptr 0 2),(.int .i64 (x0.fst.getD 2 (0:Int)) false),(uq v x0),(.ptr 0 3),(.int .i64 (x0.fst.getD 3 (0:Int)) false),(.int .i64 (pn v x0) false),(.ptr 0 4),(.int .i64 (x0.fst.getD 4 (0:Int)) false),(.int .i64 (i64.wrap (km v x0)) false),(.bool (i64.wrap (km v x0) == (0:Int)) false),(.bool false true),(.tup []),(.tup []),(.tup []),(.bool false true),(.raw (x0.snd 53)),(.raw (x0.snd 54)),(.raw (x0.snd 55)),(.raw (x0.snd 56)),(.int .i64 0 true),(.raw (x0.snd 58)),(.raw (x0.snd 59)),(.raw (x0.snd 60)),(.raw (x0.snd 61)),(.raw (x0.snd 62)),(.raw (x0.snd 63)),(.raw (x0.snd 64)),(.raw (x0.snd 65)),(.raw (x0.snd 66)),(.raw (x0.snd 67)),(.raw (x0.snd 68)),(.raw (x0.snd 69)),(.raw (x0.snd 70)),(.raw (x0.snd 71)),(.raw (x0.snd 72)),(.raw (x0.snd 73)),(.raw (x0.snd 74)),(.raw (x0.snd 75)),(.raw (x0.snd 76)),(.raw (x0.snd 77)),(.raw (x0.snd 78)),(.raw (x0.snd 79)),(.raw (x0.snd 80)),(.raw (x0.snd 81)),(.raw (x0.snd 82)),(.raw (x0.snd 83)),(.raw (x0.snd 84)),(.raw (x0.snd 85)),(.raw (x0.snd 86)),(.raw (x0.snd 87)),(.raw (x0.snd 88)),(.raw (x0.snd 89)),(.raw (x0.snd 90)),(.raw (x0.snd 91)),(.raw (x0.snd 92)),(.raw (x0.snd 93)),(.raw (x0.snd 94)),(.raw (x0.snd 95)),(.raw (x0.snd 96)),(.raw (x0.snd 97)),(.raw (x0.snd 98)),(.raw (x0.snd 99)),(.raw (x0.snd 100)),(.raw (x0.snd 101)),(.raw (x0.snd 102)),(.raw (x0.snd 103)),(.raw (x0.snd 104)),(.raw (x0.snd 105)),(.raw (x0.snd 106)),(.raw (x0.snd 107)),(.raw (x0.snd 108)),(.raw (x0.snd 109)),(.raw (x0.snd 110)),(.raw (x0.snd 111)),(.raw (x0.snd 112)),(.raw (x0.snd 113)),(.raw (x0.snd 114))]
noncomputable abbrev rc:List SV:=[(.int .i64 0 true),(.int .i64 0 true),(.int .i64 0 true),(.int .i64 0 true),(.int .i64 0 true),(.int .i64 0 true),(.int .i64 0 true),(.int .i64 0 true)]
noncomputable abbrev iy(w2:World)(b2:List Nat):SS:=(SS.mk [(.ints .i64 [] 100 0 0)] [] true w2 b2)
noncomputable abbrev bw(l:List Int)(w1:World)(b1:List Nat):SS:=(SS.mk [(.ints .i64 l 100 0 0)] [] true w1 b1)
noncomputable abbrev pq(v:IV):List SV:=([(.xs v.A v.n v.c),(.tup []),(.str (ByteArray.mk #[]) true),(.ptr 0 0),(.tup []),(.tup []),(.tup []),(.tup []),(.tup []),(.tup []),(.tup []),(.agg rc),(.int .i64 0 true)]++List.replicate 102 aA)
noncomputable abbrev fx(v:IV)(x0:(LoopHook.X (kv v)))(w0:World)(b0:List Nat):SS:=(SS.mk [(.ints .i64 x0.fst 100 0 0)] [] true w0 b0)
noncomputable abbrev uu(l:List Int)(x1:(LoopHook.X (kQ l)))(w1:World)(b1:List Nat):T:=(.loop 48 (ar Tryz.prog 48 22) (up l x1) (bw l w1 b1) (LoopHook.X (tp l)) (LoopHook.out (tp l) (up l x1) (bw l w1 b1)) (fun x2 w2 b2=>(.leaf .ret [(.str x2.fst false)] (bw l w2 b2))) (LoopHook.Y (tp l)) (LoopHook.out' (tp l) (up l x1) (bw l w1 b1)) (fun x2 w2 b2=>(.leaf .ret [(.raw (x2.snd 2))] (iy w2 b2))))
theorem HO(v:IV)(l:List Int)(w:World):am Tryz.prog (Ma v l) 1000 48 [.xs v.A v.n v.c] (SS.mk [] [] true w []) =
(.loop 48 (ar Tryz.prog 48 4) (pq v) (SS.mk [(.cells rc 8 100 0 0)] [] true w []) (LoopHook.X (kv v)) (LoopHook.out (kv v) (pq v) (SS.mk [(.cells rc 8 100 0 0)] [] true w [])) (fun x0 w0 b0=>(.need (0<x0.fst.length) (.need (1<x0.fst.length) (.need (2<x0.fst.length) (.need (3<x0.fst.length) (.need (4<x0.fst.length) (.split (i64.wrap (km v x0) == (0:Int)) (.need (5<x0.fst.length) (.split (x0.fst.getD 5 (0:Int) == (65535:Int)) (.need ((0:Int)<=(12:Int)/\(12:Int)<=(↑v.n:Int)) (.hc 47 [(.xs (if v.c=12 then v.A else Option.map (fun x=>x.add 12) v.A) (v.n-12) (v.c-12))] (fx v x0 w0 b0) (aL) fun x1 w1 b1=>(.need ((↑(7+ByteArray.size x1):Int)<=i64.max) (.leaf .ret [(.str (ByteArray.mk #[(58:UInt8),(58:UInt8),(102:UInt8),(102:UInt8),(102:UInt8),(102:UInt8),(58:UInt8)]++x1) false)] (fx v x0 w1 b1))))) (.loop 48 (ar Tryz.prog 48 12) (ut v x0) (fx v x0 w0 b0) (LoopHook.X (kQ l)) (LoopHook.out (kQ l) (ut v x0) (fx v x0 w0 b0)) (fun x1 w1 b1=>(uu l x1 w1 b1)) (LoopHook.Y (kQ l)) (LoopHook.out' (kQ l) (ut v x0) (fx v x0 w0 b0)) (fun x1 w1 b1=>(.leaf .ret [(.raw (x1.snd 2))] (iy w1 b1)))))) (.loop 48 (ar Tryz.prog 48 12) (uw v x0) (fx v x0 w0 b0) (LoopHook.X (kQ l)) (LoopHook.out (kQ l) (uw v x0) (fx v x0 w0 b0)) (fun x1 w1 b1=>(uu l x1 w1 b1)) (LoopHook.Y (kQ l)) (LoopHook.out' (kQ l) (uw v x0) (fx v x0 w0 b0)) (fun x1 w1 b1=>(.leaf .ret [(.raw (x1.snd 2))] (iy w1 b1))))))))))) (LoopHook.Y (kv v)) (LoopHook.out' (kv v) (pq v) (SS.mk [(.cells rc 8 100 0 0)] [] true w [])) (fun x0 w0 b0=>(.leaf .ret [(.raw (x0.snd 2))] (iy w0 b0)))):=by kernel_rfl
theorem NW(v:IV)(l:List Int)(w:World):(by have h:=HO v l w;unfold uu fx pq bw iy rc uw ut km uq pn mB up at h;exact type_of% h):=HO v l w
noncomputable abbrev nk(i:Nat):Int:=(i64.wrap ((2:Int)*(↑i:Int))+(1:Int))
theorem DU(v:IV)(l:List Int)(i:Nat)(w:World)(bs:List Nat)(g:Nat->Value):aK Tryz.prog au 1000 48 (ar Tryz.prog 48 4) (az ((Jv .normal).zip (AI v i)) g 115 0) (fun e a s=>.leaf e (ep Jv e a) s) (SS.mk (bO l) [] true w bs) =
(.split (decide ((↑i:Int)<(8:Int))) (.need ((0:Int)<=i64.wrap ((2:Int)*(↑i:Int))/\i64.wrap ((2:Int)*(↑i:Int))<(↑v.n:Int)) (.need (v.A.isSome=true) (.need (canRead w bs ((v.A.getD default).add ((i64.wrap ((2:Int)*(↑i:Int))).toNat*1)) [SV.int u8 (ai w (((v.A.getD default).add ((i64.wrap ((2:Int)*(↑i:Int))).toNat*1)).add 0)) false]) (.need ((0:Int)<=i64.wrap (nk i)/\i64.wrap (nk i)<(↑v.n:Int)) (.need (v.A.isSome=true) (.need (canRead w bs ((v.A.getD default).add ((i64.wrap (nk i)).toNat*1)) [SV.int u8 (ai w (((v.A.getD default).add ((i64.wrap (nk i)).toNat*1)).add 0)) false]) (.need ((0:Int)<=(↑i:Int)/\(↑i:Int)<(↑(8:Nat):Int)) (.need (0+(↑i:Int).toNat*1<l.length) (.need (ap 0 0 (0+(↑i:Int).toNat*1) 1=true) (.leaf .normal [(.xs v.A v.n v.c),(.ptr 0 0),(.int .i64 (i64.wrap ((↑i:Int)+(1:Int))) false)] (SS.mk [(.ints .i64 (l.set (0+(↑i:Int).toNat*1) (i64.wrap (↑(BitVec.ofInt 64 (i64.wrap (i64.wrap (ai w (((v.A.getD default).add ((i64.wrap ((2:Int)*(↑i:Int))).toNat*1)).add 0))*(2:Int)^8)) |||BitVec.ofInt 64 (i64.wrap (ai w (((v.A.getD default).add ((i64.wrap (nk i)).toNat*1)).add 0)))).toNat:Int))) 100 0 0)] [] true w bs))))))))))) (.leaf (.exit 0) [(.xs v.A v.n v.c),(.ptr 0 0)] (bw l w bs))):=by kernel_rfl
theorem Li(v:IV)(l:List Int)(i:Nat)(w:World)(bs:List Nat)(g:Nat->Value):(by have h:=DU v l i w bs g;unfold bw nk at h;exact type_of% h):=DU v l i w bs g
noncomputable abbrev ux(g:Nat->Value)(z:S6):List SV:=[(.raw (g 0)),(.raw (g 1)),(.raw (g 2)),(.ptr 0 0),(.raw (g 4)),(.int .i64 z.at_ false),(.int .i64 ((↑z.most:Int)) false),(.int .i64 ((↑z.i:Int)) false),(.int .i64 0 true),(.raw (g 9)),(.raw (g 10)),(.raw (g 11)),(.raw (g 12)),(.raw (g 13)),(.raw (g 14)),(.raw (g 15)),(.raw (g 16)),(.raw (g 17)),(.raw (g 18)),(.raw (g 19)),(.raw (g 20)),(.raw (g 21)),(.raw (g 22)),(.raw (g 23)),(.raw (g 24)),(.raw (g 25)),(.raw (g 26)),(.raw (g 27)),(.raw (g 28)),(.raw (g 29)),(.raw (g 30)),(.raw (g 31)),(.raw (g 32)),(.raw (g 33)),(.raw (g 34)),(.raw (g 35)),(.raw (g 36)),(.raw (g 37)),(.raw (g 38)),(.raw (g 39)),(.raw (g 40)),(.raw (g 41)),(.raw (g 42)),(.raw (g 43)),(.raw (g 44)),(.raw (g 45)),(.raw (g 46)),(.raw (g 47)),(.raw (g 48)),(.raw (g 49)),(.raw (g 50)),(.raw (g 51)),(.raw (g 52)),(.raw (g 53)),(.raw (g 54)),(.raw (g 55)),(.raw (g 56)),(.int .i64 ((↑z.i:Int)) false),(.bool true true),(.int .i64 ((↑z.i:Int)) false),(.raw (g 60)),(.raw (g 61)),(.raw (g 62)),(.raw (g 63)),(.raw (g 64)),(.raw (g 65)),(.raw (g 66)),(.raw (g 67)),(.raw (g 68)),(.raw (g 69)),(.raw (g 70)),(.raw (g 71)),(.raw (g 72)),(.raw (g 73)),(.raw (g 74)),(.raw (g 75)),(.raw (g 76)),(.raw (g 77)),(.raw (g 78)),(.raw (g 79)),(.raw (g 80)),(.raw (g 81)),(.raw (g 82)),(.raw (g 83)),(.raw (g 84)),(.raw (g 85)),(.raw (g 86)),(.raw (g 87)),(.raw (g 88)),(.raw (g 89)),(.raw (g 90)),(.raw (g 91)),(.raw (g 92)),(.raw (g 93)),(.raw (g 94)),(.raw (g 95)),(.raw (g 96)),(.raw (g 97)),(.raw (g 98)),(.raw (g 99)),(.raw (g 100)),(.raw (g 101)),(.raw (g 102)),(.raw (g 103)),(.raw (g 104)),(.raw (g 105)),(.raw (g 106)),(.raw (g 107)),(.raw (g 108)),(.raw (g 109)),(.raw (g 110)),(.raw (g 111)),(.raw (g 112)),(.raw (g 113)),(.raw (g 114))]
theorem DV(l:List Int)(z:S6)(w:World)(bs:List Nat)(g:Nat->Value):aK Tryz.prog (Kf l z) 1000 48 (ar Tryz.prog 48 12) (az ((Jw .normal).zip (xD z)) g 115 0) (fun e a s=>.leaf e (ep Jw e a) s) (SS.mk (bO l) [] true w bs) =
(.split (decide ((↑z.i:Int)<(8:Int))) (.loop 48 (ar Tryz.prog 48 15) (ux g z) (bw l w bs) (LoopHook.X (Dh l z)) (LoopHook.out (Dh l z) (ux g z) (bw l w bs)) (fun x0 w0 b0=>(.split (decide ((↑x0.fst:Int) > (↑z.most:Int))) (.leaf .normal [(.ptr 0 0),(.int .i64 ((↑z.i:Int)) false),(.int .i64 ((↑x0.fst:Int)) false),(.int .i64 (i64.wrap ((↑z.i:Int)+(1:Int))) false)] (bw l w0 b0)) (.leaf .normal [(.ptr 0 0),(.int .i64 z.at_ false),(.int .i64 ((↑z.most:Int)) false),(.int .i64 (i64.wrap ((↑z.i:Int)+(1:Int))) false)] (bw l w0 b0)))) (LoopHook.Y (Dh l z)) (LoopHook.out' (Dh l z) (ux g z) (bw l w bs)) (fun x0 w0 b0=>(.leaf .ret [] (iy w0 b0)))) (.leaf (.exit 2) [(.ptr 0 0),(.int .i64 z.at_ false),(.int .i64 ((↑z.most:Int)) false)] (bw l w bs))):=by kernel_rfl
theorem Lj(l:List Int)(z:S6)(w:World)(bs:List Nat)(g:Nat->Value):(by have h:=DV l z w bs g;unfold bw iy ux at h;exact type_of% h):=DV l z w bs g
noncomputable abbrev zf(z:S6i)(l:List Int)(w:World)(bs:List Nat):T:=(.leaf (.exit 4) [(.ptr 0 0),(.int .i64 z.at_ false),(.int .i64 ((↑z.most:Int)) false),(.int .i64 ((↑z.i:Int)) false),(.int .i64 ((↑z.n:Int)) false),(.int .i64 ((↑z.i:Int)) false)] (bw l w bs))
theorem DW(l:List Int)(z:S6i)(w:World)(bs:List Nat)(g:Nat->Value):aK Tryz.prog au 1000 48 (ar Tryz.prog 48 15) (az ((JJ .normal).zip (so z)) g 115 0) (fun e a s=>.leaf e (ep JJ e a) s) (SS.mk (bO l) [] true w bs) =
(.split (decide (i64.wrap ((↑z.i:Int)+(↑z.n:Int))<(8:Int))) (.need ((0:Int)<=i64.wrap ((↑z.i:Int)+(↑z.n:Int))/\i64.wrap ((↑z.i:Int)+(↑z.n:Int))<(↑(8:Nat):Int)) (.need (0+(i64.wrap ((↑z.i:Int)+(↑z.n:Int))).toNat*1<l.length) (.split (l.getD (0+(i64.wrap ((↑z.i:Int)+(↑z.n:Int))).toNat*1) (0:Int) == (0:Int)) (.leaf .normal [(.ptr 0 0),(.int .i64 z.at_ false),(.int .i64 ((↑z.most:Int)) false),(.int .i64 ((↑z.i:Int)) false),(.int .i64 (i64.wrap ((↑z.n:Int)+(1:Int))) false),(.int .i64 ((↑z.i:Int)) false)] (bw l w bs)) (zf z l w bs)))) (zf z l w bs)):=by kernel_rfl
theorem Lk(l:List Int)(z:S6i)(w:World)(bs:List Nat)(g:Nat->Value):(by have h:=DW l z w bs g;unfold zf bw at h;exact type_of% h):=DW l z w bs g
noncomputable abbrev ur(l:List Int)(z:S6s):SV:=(.int .i64 (l.getD (0+(↑z.i:Int).toNat*1) (0:Int)) false)
noncomputable abbrev pt(z:S6s):Prop:=((0:Int)<=(↑z.i:Int)/\(↑z.i:Int)<(↑(8:Nat):Int))
noncomputable abbrev zd(z:S6s)(l:List Int)(w:World)(bs:List Nat):T:=(.need ((↑(z.s.size+1):Int)<=i64.max) (.need (pt z) (.need (0+(↑z.i:Int).toNat*1<l.length) (.hc 76 [(ur l z)] (bw l w bs) (aL) fun x0 w0 b0=>(.need ((↑((z.s++ByteArray.mk #[(58:UInt8)]).size+ByteArray.size x0):Int)<=i64.max) (.leaf .normal [(.ptr 0 0),(.int .i64 z.at_ false),(.int .i64 ((↑z.most:Int)) false),(.str (z.s++ByteArray.mk #[(58:UInt8)]++x0) false),(.int .i64 (i64.wrap ((↑z.i:Int)+(1:Int))) false)] (bw l w0 b0)))))))
noncomputable abbrev ze(z:S6s)(l:List Int)(w:World)(bs:List Nat):T:=(.need (0+(↑z.i:Int).toNat*1<l.length) (.hc 76 [(ur l z)] (bw l w bs) (aL) fun x0 w0 b0=>(.need ((↑(z.s.size+ByteArray.size x0):Int)<=i64.max) (.leaf .normal [(.ptr 0 0),(.int .i64 z.at_ false),(.int .i64 ((↑z.most:Int)) false),(.str (z.s++x0) false),(.int .i64 (i64.wrap ((↑z.i:Int)+(1:Int))) false)] (bw l w0 b0)))))
theorem DX(v:IV)(l:List Int)(z:S6s)(w:World)(bs:List Nat)(g:Nat->Value):aK Tryz.prog (Ma v l) 1000 48 (ar Tryz.prog 48 22) (az ((Jx .normal).zip (qy z)) g 115 0) (fun e a s=>.leaf e (ep Jx e a) s) (SS.mk (bO l) [] true w bs) =
(.split (decide ((↑z.i:Int)<(8:Int))) (.split ((↑z.i:Int) == z.at_) (.need ((↑(z.s.size+2):Int)<=i64.max) (.leaf .normal [(.ptr 0 0),(.int .i64 z.at_ false),(.int .i64 ((↑z.most:Int)) false),(.str (z.s++ByteArray.mk #[(58:UInt8),(58:UInt8)]) false),(.int .i64 (i64.wrap (i64.wrap ((↑z.i:Int)+i64.wrap ((↑z.most:Int)-(1:Int)))+(1:Int))) false)] (bw l w bs))) (.split (decide ((↑z.i:Int) > (0:Int))) (.split (decide (z.at_<(0:Int))) (zd z l w bs) (.split ((↑z.i:Int) != i64.wrap (z.at_+(↑z.most:Int))) (zd z l w bs) (.need (pt z) (ze z l w bs)))) (.need (pt z) (ze z l w bs)))) (.leaf (.exit 6) [(.str z.s false)] (bw l w bs))):=by kernel_rfl
theorem Ll(v:IV)(l:List Int)(z:S6s)(w:World)(bs:List Nat)(g:Nat->Value):(by have h:=DX v l z w bs g;unfold ze zd pt ur bw at h;exact type_of% h):=DX v l z w bs g
end
section
open Go Go.Rx Go.RowKit
@[reducible] def tG:Hook:={ X:=Int×PV,out:=fun _ s x=>(.agg [.str x.2.name false,.int .i64 x.1 false,.xs x.2.A x.2.n x.2.c,.int .i64 x.2.size false,.bool x.2.path false,.one x.2.tr.1 x.2.tr.2],s.objs) }
def Kj:Hooks:={ calls:=fun f=>if f=88 then some tG else none,loops:=fun _ _=>none }
noncomputable abbrev Ew(w:World):SS:=(SS.mk [(.cells [(.str (ByteArray.mk #[]) true),(.int .i64 0 true),(.one (.slice none 0 0) rfl),(.int .i64 0 true),(.bool false true),(.one .nilIface rfl)] 6 88 0 0)] [] true w [])
noncomputable abbrev y6(x0:(Hook.X (tG))):List SV:=[(.str x0.snd.name false),(.int .i64 x0.fst false),(.xs x0.snd.A x0.snd.n x0.snd.c),(.int .i64 x0.snd.size false),(.bool x0.snd.path false),(.one (x0.snd.tr).1 (x0.snd.tr).2)]
theorem LZ(nm:ByteArray)(w:World):am Tryz.prog Kj 300 73 [.str nm false] (SS.mk [] [] true w []) =
(.hc 88 [(.str nm false)] (Ew w) (tG) fun x0 w0 b0=>(.leaf .ret [(.agg (y6 x0))] (SS.mk [(.cells (y6 x0) 6 88 0 0)] [] true w0 b0))):=by kernel_rfl
theorem QC(nm:ByteArray)(w:World):(by have h:=LZ nm w;unfold y6 Ew at h;exact type_of% h):=LZ nm w
end
section
open Go Go.Rx Go.RowKit
theorem yO(k:Int)(hk:k∈aY)(w:World):Calls Tryz.prog 73 #[.string ⟨(an k).name.toArray⟩] w (bF (Jy k w) w):=by
 refine aH (hk:=Kj) (n:=300) (args:=[.str ⟨(an k).name.toArray⟩ false]) ⟨trivial,trivial⟩ ?_
 refine ah (QC _ w) ?_
 refine dJ (R:=fun(x:Int×PV) w0 w'=>x.1=k/\x.2.Is k/\Fresh w0 x.2.A/\Bts w' w'.heap.size x.2.A x.2.n (an k).vc) (Fine.start w _) (fun x=>⟨rfl,trivial,trivial,trivial,trivial,trivial,trivial,trivial⟩) (fun β w0 hst ho hb=>?_) ?_
 ·refine(Fy k hk w0).mono ?_
  rintro e w' ⟨v,rfl,⟨x,rfl,h1⟩,hb'⟩
  exact⟨⟨k,x⟩,rfl,hb',rfl,h1⟩
 rintro⟨k',x⟩ w0 w1 bs hb0 ⟨rfl,h1,h3,h4⟩ hb1 hb hbs
 dsimp only at *
 refine aN (Fine.mk' hb fun b hb=>(hbs b hb).1) fun β w2 hst hb2=>⟨x,rfl,h1,h3.mono hb0.size,?_⟩
 have o:=hst.old rfl
 exact(o.bts h4 (Nat.le_refl _) (h3.notin fun b hb=>(hbs b hb).2)).mono o.sz
end
section
open Go Go.Rx Go.RowKit
theorem kL{n:Nat}(h:n<256):cP n=Lib.decDigits n:=by
 unfold cP
 split
 ·rename_i h1
  rw[Lib.decDigits_one h1]
 ·rename_i h1
  split
  ·rename_i h2
   rw[Lib.decDigits_two h1 h2]
  ·rename_i h2
   rw[Lib.decDigits,dif_neg h1,Lib.decDigits_two (i:=n/10) (by omega) (by omega)]
   rw[Nat.div_div_eq_div_mul]
   rfl
end
section
open Go Go.Rx Go.RowKit
def cN(b:List UInt8):List Int:=(List.range 8).map fun j=>(aO b j:Int)
theorem lV(b:List UInt8):(cN b).length=8:=rfl
theorem eV(b:List UInt8){j:Nat}(h:j<8):(cN b).getD j 0=(aO b j:Int):=by
 simp[cN,List.getD_eq_getElem?_getD,h]
theorem bn(l:List Int):(bO l).length=1/\∀o∈bO l,o.ok 1:=⟨rfl,fun o ho=>by
 simp only[bO,List.mem_singleton]at ho
 subst ho
 trivial⟩
theorem gp(m:Nat)(h:0<m):(SV.ptr 0 0).ok m:=h
theorem CE{b:List UInt8}{l:List Int}(hl:l.length=8)(h:∀j,j<8->l.getD j 0=(aO b j:Int)):l=cN b:=by
 apply List.ext_getElem (by rw[hl,lV])
 intro i h1 h2
 have h3:=h i (by omega)
 rw[List.getD_eq_getElem?_getD,List.getElem?_eq_getElem h1,Option.getD_some]at h3
 rw[h3]
 simp[cN]
theorem BP{s s0:SS}{a a0:List SV}{w:World}{A:Option Addr}{c B:Nat}{b:List UInt8}{Q:SE->List Value->World->Prop}{k:List Int×(Nat->Value)->World->List Nat->T}{k':Unit×(Nat->Value)->World->List Nat->T}(h:Bts w B A 16 b)(hB:B<=w.heap.size)(hf:Fine w s)(hgl:s.gl=[])
  (hobj:s.objs=[.cells [.int .i64 0 true,.int .i64 0 true,.int .i64 0 true,.int .i64 0 true,.int .i64 0 true,.int .i64 0 true,.int .i64 0 true,.int .i64 0 true] 8 100 0 0])
  (hN:a.length=115) (hsel:∀β,f6 Jv .normal (ae β a)=ae β (AI ⟨A,16,c⟩ 0))
  (hk:∀w' g bs,Below w.heap.size w w'->(∀b∈bs,w.heap.size<=b)->(k (cN b,g) w' bs).holds (cS Tryz.prog Q)) :
  (T.loop 48 (ar Tryz.prog 48 4) a s (LoopHook.X (kv ⟨A,16,c⟩)) (LoopHook.out (kv ⟨A,16,c⟩) a0 s0) k (LoopHook.Y (kv ⟨A,16,c⟩)) (LoopHook.out' (kv ⟨A,16,c⟩) a0 s0) k').holds (cS Tryz.prog Q):=by
 refine iJ (w:=w) hf hgl 1 (by show s.objs.length=1;rw[hobj];rfl) Jv (fun z:List Int×Nat=>AI ⟨A,16,c⟩ z.2) (fun z=>bO z.1) (fun z=>8-z.2) (fun _ z _=>z.1.length=8/\z.2<=8/\∀j,j<z.2->z.1.getD j 0=(aO b j:Int)) (fun _ l _=>l=cN b) (fun _ _ _=>False) (fun _=>au) 1000
  hN (by simp[Jv]) (by simp[Jv]) (fun _=>⟨trivial,gp 1 (by omega),trivial,trivial⟩) (fun _=>bn _) rfl rfl (by simp) (by simp) (fun _=>⟨⟨trivial,gp 1 (by omega),trivial⟩,bn _⟩) (fun _=>⟨trivial,bn _⟩) ?_ ?_ ?_ ?_
 ·rintro β w0 ⟨l,i⟩ w1 g hb0 ⟨hl,hi,hz⟩ hkp hge
  dsimp only at hl hi hz
  have hbl:∀x∈ac β 1,w.heap.size<=x:=fun x hx=>by
   simp[ac]at hx
   subst hx
   exact hge 0 (by omega)
  have hw1:Below w.heap.size w w1:=hkp.below hb0 (Nat.le_refl _) hbl
  refine ah (Li ⟨A,16,c⟩ l i w1 (ac β 1) g) (ak (fun hlt=>?_) (fun hge'=>?_))
  ·have hlt':i<8:=by omega
   obtain⟨n1,n2,n3,n4,n5,n6⟩:=lU h hB hw1 hbl hlt'
   refine aa n1 (aa n2 (aa n3 (aa n4 (aa n2 (aa n5 (aa (by omega) (aa (by simp;omega) (aa (by simp[ap]) ?_))))))))
   dsimp only
   rw[n6]
   refine aM ⟨rfl,hkp,fun b hb=>.inl hb⟩ fun β' w' hst hk'=>⟨(l.set (0+(i:Int).toNat*1) (aO b i:Int),i+1),by show 8-(i+1)<8-i;omega,?_,hst.objsAt rfl (bn _).2,⟨by simp[hl],by show i+1<=8;omega,fun j hj=>?_⟩,hk'⟩
   ·rw[show i64.wrap ((i:Int)+1)=((i+1:Nat):Int) by rw[ax (by omega) (by omega)];omega]
    have:=hst.base 0 (by show 0<1;omega)
    simp only[AI,ae,SV.den]
    rw[this]
   ·show(l.set (0+(i:Int).toNat*1) (aO b i:Int)).getD j 0=_
    replace hj:j<i+1:=hj
    rw[show 0+(i:Int).toNat*1=i by simp,cF (by omega)]
    split
    ·rename_i he
     rw[he]
    ·exact hz j (by omega)
  ·refine aM ⟨rfl,hkp,fun b hb=>.inl hb⟩ fun β' w' hst hk'=>⟨.inl ⟨l,rfl,?_,hst.objsAt rfl (bn _).2,CE hl fun j hj=>hz j (by omega)⟩,hk'⟩
   have:=hst.base 0 (by show 0<1;omega)
   simp only[ae,SV.den]
   rw[this]
 ·intro β w0 hst hb
  refine⟨(List.replicate 8 0,0),hsel β,?_,by simp,Nat.zero_le _,fun j hj=>absurd hj (Nat.not_lt_zero j)⟩
  intro i o hi
  match i,hi with
  |0,hi=>
   obtain⟨r,h1,h2⟩:=hst.at_ 0 _ (by rw[hobj];rfl)
   have hr:r=[]:=List.eq_nil_of_length_eq_zero (by have h2':8+r.length=8:=h2;omega)
   subst hr
   simp only[bO,List.getElem?_cons_zero,Option.some.injEq]at hi
   subst hi
   show w0.heap[β 0]?=_
   rw[h1]
   simp[ae,SV.den]
  |i+1,hi=>simp[bO]at hi
 ·rintro w0 l w' rfl hb0 hb1 g bs hbs
  exact hk w' g bs hb1 hbs
 ·rintro w0 q' w' h
  exact h.elim
def Ba(b:List UInt8)(i:Nat)(at_:Int)(most:Nat):Prop:=(bE b i=(255,255)/\at_ = -1/\most=1)∨(∃f t,bE b i=(f,t)/\f+2<=t/\t<=8/\at_=(f:Int)/\most=t-f)
theorem sr{s s0:SS}{a a0:List SV}{w:World}{b:List UInt8}{Q:SE->List Value->World->Prop}{k:(Int×Nat)×(Nat->Value)->World->List Nat->T}{k':Unit×(Nat->Value)->World->List Nat->T}(hf:Fine w s)(hgl:s.gl=[])
  (hobj:s.objs=bO (cN b)) (hN:a.length=115) (hsel:∀β,f6 Jw .normal (ae β a)=ae β (xD ⟨-1,1,0⟩))
  (hk:∀p w' g bs,Below w.heap.size w w'->(∀b∈bs,w.heap.size<=b)->Ba b 8 p.1 p.2->(k (p,g) w' bs).holds (cS Tryz.prog Q)) :
  (T.loop 48 (ar Tryz.prog 48 12) a s (LoopHook.X (kQ (cN b))) (LoopHook.out (kQ (cN b)) a0 s0) k (LoopHook.Y (kQ (cN b))) (LoopHook.out' (kQ (cN b)) a0 s0) k').holds (cS Tryz.prog Q):=by
 refine iJ (w:=w) hf hgl 1 (by show s.objs.length=1;rw[hobj];rfl) Jw xD (fun _=>bO (cN b)) (fun z=>8-z.i) (fun _ z _=>z.i<=8/\Ba b z.i z.at_ z.most) (fun _ p _=>Ba b 8 p.1 p.2) (fun _ _ _=>False) (fun z=>Kf (cN b) z) 1000
  hN (by simp[Jw]) (by simp[Jw]) (fun _=>⟨gp 1 (by omega),trivial,trivial,trivial,trivial⟩) (fun _=>bn _) rfl rfl (by simp) (by simp) (fun _=>⟨⟨gp 1 (by omega),trivial,trivial,trivial⟩,bn _⟩) (fun _=>⟨trivial,bn _⟩) ?_ ?_ ?_ ?_
 ·rintro β w0 z w1 g hb0 ⟨hi,hbest⟩ hkp hge
  refine ah (Lj (cN b) z w1 (ac β 1) g) (ak (fun hlt=>?_) (fun hge'=>?_))
  ·have hlt':z.i<8:=by omega
   refine kR (w:=w1) (bs:=ac β 1) ⟨rfl,Keep.refl _ _,fun b hb=>.inl hb⟩ rfl 1 rfl JJ (fun n:Nat=>so ⟨z.at_,z.most,z.i,n⟩) (fun _=>bO (cN b)) (fun n=>9-n)
    (fun _ n _=>z.i+n<=8/\∀k,z.i<=k->k<z.i+n->aO b k=0) (fun _ n _=>z.i+n<=8/\(∀k,z.i<=k->k<z.i+n->aO b k=0)/\(z.i+n=8∨aO b (z.i+n)≠0)) (fun _ _ _=>False) (fun _=>au) 1000
    (by simp) (by simp[JJ]) (by simp[JJ]) (fun _=>⟨gp 1 (by omega),trivial,trivial,trivial,trivial,trivial,trivial⟩) (fun _=>bn _) rfl rfl (by simp) (by simp) (fun _=>⟨⟨gp 1 (by omega),trivial,trivial,trivial,trivial,trivial,trivial⟩,bn _⟩) (fun _=>⟨trivial,bn _⟩) ?_ ?_ ?_ ?_
   ·rintro β2 w3 n w4 g2 ej ⟨hn8,hz⟩ hk34 hk24 hblk
    have e1:i64.wrap ((z.i:Int)+(n:Int))=((z.i+n:Nat):Int):=by rw[ax (by omega) (by omega)];omega
    have e2:i64.wrap ((n:Int)+1)=((n+1:Nat):Int):=by rw[ax (by omega) (by omega)];omega
    refine ah (Lk (cN b) ⟨z.at_,z.most,z.i,n⟩ w4 (ac β2 1) g2) ?_
    dsimp only
    rw[e1,e2]
    refine ak (fun hlt=>?_) (fun hge3=>?_)
    ·have hlt3:z.i+n<8:=by omega
     refine aa (by omega) (aa (by rw[lV];simp;omega) ?_)
     rw[show 0+((z.i+n:Nat):Int).toNat*1=z.i+n by rw[Int.toNat_natCast];omega,eV b hlt3]
     refine af (fun he=>?_) (fun he=>?_)
     ·refine aM ⟨rfl,hk34,fun b hb=>.inl hb⟩ fun β' w' hst hk'=>⟨n+1,by show 9-(n+1)<9-n;omega,?_,hst.objsAt rfl (bn _).2,⟨by omega,fun k h1 h2=>?_⟩,hk'⟩
      ·have:=hst.base 0 (by show 0<1;omega)
       simp only[so,ae,SV.den]
       rw[this]
      ·rcases Nat.lt_or_ge k (z.i+n) with h3 |h3
       ·exact hz k h1 h3
       ·have:k=z.i+n:=by omega
        subst this
        have:((aO b (z.i+n):Nat):Int)=0:=by simpa using he
        omega
     ·refine aM ⟨rfl,hk34,fun b hb=>.inl hb⟩ fun β' w' hst hk'=>⟨.inl ⟨n,rfl,?_,hst.objsAt rfl (bn _).2,hn8,hz,.inr fun hz0=>by rw[hz0]at he;simp at he⟩,hk'⟩
      have:=hst.base 0 (by show 0<1;omega)
      simp only[so,ae,SV.den]
      rw[this]
    ·refine aM ⟨rfl,hk34,fun b hb=>.inl hb⟩ fun β' w' hst hk'=>⟨.inl ⟨n,rfl,?_,hst.objsAt rfl (bn _).2,hn8,hz,.inl (by omega)⟩,hk'⟩
     have:=hst.base 0 (by show 0<1;omega)
     simp only[so,ae,SV.den]
     rw[this]
   ·intro β2 w3 hst ej
    exact⟨0,rfl,fun i o hi=>hst.at_ i o hi,by omega,fun k h1 h2=>by omega⟩
   ·rintro w3 n w4 ⟨hn8,hz,hend⟩ ej hk24 g2 bs' hbs'
    have hrun:=xC (i:=z.i) (j:=z.i+n) (by omega) hn8 hz hend
    rw[Nat.add_sub_cancel_left]at hrun
    dsimp only
    have e2:i64.wrap ((z.i:Int)+1)=((z.i+1:Nat):Int):=by rw[ax (by omega) (by omega)];omega
    rw[e2]
    have hmost:1<=z.most/\z.most<=8/\(bE b z.i).2-(bE b z.i).1<=z.most/\(z.most=1∨(bE b z.i).2-(bE b z.i).1=z.most)/\(z.most=1->(bE b z.i).2-(bE b z.i).1=0):=by
     rcases hbest with⟨h1,_,h3⟩ |⟨f,t,h1,h2,h3,_,h5⟩
     ·rw[h1];simp;omega
     ·rw[h1];simp;omega
    refine ak (fun hgt=>?_) (fun hle=>?_)
    ·refine aM ⟨rfl,hkp.trans hk24,fun x hx=>((hbs' x hx).1).imp id (Nat.le_trans hkp.size)⟩ fun β' w' hst hk'=>⟨⟨(z.i:Int),n,z.i+1⟩,by show 8-(z.i+1)<8-z.i;omega,?_,hst.objsAt rfl (bn _).2,⟨by show z.i+1<=8;omega,.inr ⟨z.i,z.i+n,?_,by omega,by omega,rfl,by show n=_;omega⟩⟩,hk'⟩
     ·have:=hst.base 0 (by show 0<1;omega)
      simp only[xD,ae,SV.den]
      rw[this]
     ·show bE b (z.i+1)=_
      rw[dw]
      unfold oB
      rw[hrun,if_pos ⟨by omega,by omega⟩]
    ·refine aM ⟨rfl,hkp.trans hk24,fun x hx=>((hbs' x hx).1).imp id (Nat.le_trans hkp.size)⟩ fun β' w' hst hk'=>⟨⟨z.at_,z.most,z.i+1⟩,by show 8-(z.i+1)<8-z.i;omega,?_,hst.objsAt rfl (bn _).2,⟨by show z.i+1<=8;omega,?_⟩,hk'⟩
     ·have:=hst.base 0 (by show 0<1;omega)
      simp only[xD,ae,SV.den]
      rw[this]
     ·show Ba b (z.i+1) z.at_ z.most
      have:bE b (z.i+1)=bE b z.i:=by
       rw[dw]
       unfold oB
       rw[hrun,if_neg (by omega)]
      unfold Ba
      rw[this]
      exact hbest
   ·rintro w3 n w4 hf
    exact hf.elim
  ·refine aM ⟨rfl,hkp,fun b hb=>.inl hb⟩ fun β' w' hst hk'=>⟨.inl ⟨(z.at_,z.most),rfl,?_,hst.objsAt rfl (bn _).2,?_⟩,hk'⟩
   ·have:=hst.base 0 (by show 0<1;omega)
    simp only[ae,SV.den]
    rw[this]
   ·have:z.i=8:=by omega
    rw[this]at hbest
    exact hbest
 ·intro β w0 hst hb
  exact⟨⟨-1,1,0⟩,hsel β,fun i o hi=>hst.at_ i o (by rw[hobj];exact hi),Nat.zero_le _,.inl ⟨rfl,rfl,rfl⟩⟩
 ·rintro w0 p w' hp hb0 hb1 g bs hbs
  exact hk p w' g bs hb1 hbs hp
 ·rintro w0 q' w' h
  exact h.elim
def Be(b:List UInt8)(f t:Nat)(z:S6s):Prop:=
 z.i<=8/\((f=255/\z.at_ = -1/\z.most=1)∨(f+2<=t/\t<=8/\z.at_=(f:Int)/\z.most=t-f))/\z.s.size<=70000*z.i/\(((f=255∨z.i<=f)/\z.s=⟨(jn (kW b 0 z.i)).toArray⟩)∨(f≠255/\t<=z.i/\z.s=⟨(jn (kW b 0 f)++[58,58]++jn (kW b t z.i)).toArray⟩))
theorem ss{s s0:SS}{a a0:List SV}{w:World}{v:IV}{b:List UInt8}{p:Int×Nat}{Q:SE->List Value->World->Prop}{k:ByteArray×(Nat->Value)->World->List Nat->T}{k':Unit×(Nat->Value)->World->List Nat->T}(hf:Fine w s)(hgl:s.gl=[])
  (hobj:s.objs=bO (cN b)) (hN:a.length=115) (hp:Ba b 8 p.1 p.2) (hsel:∀β,f6 Jx .normal (ae β a)=ae β (qy ⟨p.1,p.2,⟨#[]⟩,0⟩))
  (hk:∀w' g bs,Below w.heap.size w w'->(∀b∈bs,w.heap.size<=b)->(k (⟨(iY b).toArray⟩,g) w' bs).holds (cS Tryz.prog Q)) :
  (T.loop 48 (ar Tryz.prog 48 22) a s (LoopHook.X (tp (cN b))) (LoopHook.out (tp (cN b)) a0 s0) k (LoopHook.Y (tp (cN b))) (LoopHook.out' (tp (cN b)) a0 s0) k').holds (cS Tryz.prog Q):=by
 obtain⟨f,t,hft⟩:∃f t,bE b 8=(f,t):=⟨_,_,rfl⟩
 have hgood:Good b f t:=by have:=eJ b 8 (Nat.le_refl _);rw[hft]at this;exact this
 have htxt:iY b=gB b f t:=by unfold iY;rw[hft]
 have hst0:(f=255/\p.1 = -1/\p.2=1)∨(f+2<=t/\t<=8/\p.1=(f:Int)/\p.2=t-f):=by
  rcases hp with⟨h1,h2,h3⟩ |⟨f',t',h1,h2,h3,h4,h5⟩
  ·rw[hft]at h1
   cases h1
   exact .inl ⟨rfl,h2,h3⟩
  ·rw[hft]at h1
   cases h1
   exact .inr ⟨h2,h3,h4,h5⟩
 rw[htxt]at hk
 refine iJ (w:=w) hf hgl 1 (by show s.objs.length=1;rw[hobj];rfl) Jx qy (fun _=>bO (cN b)) (fun z=>8-z.i) (fun _ z _=>Be b f t z) (fun _ s _=>s=⟨(gB b f t).toArray⟩) (fun _ _ _=>False) (fun _=>Ma v (cN b)) 1000
  hN (by simp[Jx]) (by simp[Jx]) (fun _=>⟨gp 1 (by omega),trivial,trivial,trivial,trivial,trivial⟩) (fun _=>bn _) rfl rfl (by simp) (by simp) (fun _=>⟨⟨trivial,trivial⟩,bn _⟩) (fun _=>⟨trivial,bn _⟩) ?_ ?_ ?_ ?_
 ·rintro β w3 z w4 g2 hb3 ⟨hi,hat,hsz,hs⟩ hkp hge
  have kf:KFine (ac β 1) w4 (SS.mk (bO (cN b)) [] true w4 (ac β 1)):=⟨rfl,Keep.refl _ _,fun b hb=>.inl hb⟩
  have next:∀(s':ByteArray) (i':Nat) (w5:World) (bs5:List Nat),Keep (ac β 1) w4 w5->(∀x∈bs5,x∈ac β 1∨w4.heap.size<=x)->z.i<i'->Be b f t ⟨z.at_,z.most,s',i'⟩ ->
    (T.leaf .normal [.ptr 0 0,.int .i64 z.at_ false,.int .i64 z.most false,.str s' false,.int .i64 (i':Int) false] (SS.mk (bO (cN b)) [] true w5 bs5)).holds { P:=Tryz.prog,β0:=β,n0:=1,Q:=rI β (ac β 1) qy (fun _=>bO (cN b)) (fun z=>8-z.i) (fun z _=>Be b f t z) (.exit 6) (fun s=>[.str s false]) (fun _=>bO (cN b)) (fun s _=>s=⟨(gB b f t).toArray⟩) .ret (fun _:Unit=>[]) (fun _=>bO []) (fun _ _=>False) w3 z }:=fun s' i' w5 bs5 o8 hbs5 hlt hinv=>by
   have hi8:i'<=8:=hinv.1
   refine aM ⟨rfl,hkp.trans o8,fun x hx=>(hbs5 x hx).imp id (Nat.le_trans hkp.size)⟩ fun β' w' hst hk'=>⟨⟨z.at_,z.most,s',i'⟩,by show 8-i'<8-z.i;omega,?_,hst.objsAt rfl (bn _).2,hinv,hk'⟩
   have:=hst.base 0 (by show 0<1;omega)
   simp only[qy,ae,SV.den]
   rw[this]
  have hexK:∀ {s':ByteArray}{kk:ByteArray->World->List Nat->T},z.i<8->(∀w' bs',Keep (ac β 1) w4 w'->(∀x∈bs',x∈ac β 1∨w4.heap.size<=x)->(kk ⟨(ay (aO b z.i)).toArray⟩ w' bs').holds { P:=Tryz.prog,β0:=β,n0:=1,Q:=rI β (ac β 1) qy (fun _=>bO (cN b)) (fun z=>8-z.i) (fun z _=>Be b f t z) (.exit 6) (fun s=>[.str s false]) (fun _=>bO (cN b)) (fun s _=>s=⟨(gB b f t).toArray⟩) .ret (fun _:Unit=>[]) (fun _=>bO []) (fun _ _=>False) w3 z }) ->
    (T.call 76 [.int .i64 ((cN b).getD (0+(z.i:Int).toNat*1) 0) false] (SS.mk (bO (cN b)) [] true w4 (ac β 1)) ByteArray (fun y=>(.str y false,bO (cN b))) kk).holds { P:=Tryz.prog,β0:=β,n0:=1,Q:=rI β (ac β 1) qy (fun _=>bO (cN b)) (fun z=>8-z.i) (fun z _=>Be b f t z) (.exit 6) (fun s=>[.str s false]) (fun _=>bO (cN b)) (fun s _=>s=⟨(gB b f t).toArray⟩) .ret (fun _:Unit=>[]) (fun _=>bO []) (fun _ _=>False) w3 z }:=fun{s'} {kk} hlt hkk=>by
   rw[show 0+(z.i:Int).toNat*1=z.i by simp,eV b hlt]
   refine bZ (R:=fun y _ _=>y=⟨(ay (aO b z.i)).toArray⟩) kf (fun y=>⟨rfl,trivial⟩) (fun β w0 hst ho hb=>?_) (fun y w0 w' bs' _ hr _ hb hbs=>by subst hr;exact hkk w' bs' hb hbs)
   refine(Fv (aO b z.i) (by have:=dh b z.i;omega) w0).mono ?_
   rintro e w' ⟨v,rfl,rfl,hb'⟩
   exact⟨_,rfl,hb',rfl⟩
  have hhl:∀j,(ay (aO b j)).length<=65536:=fun j=>by
   have:=cK (aO b j)
   have:=dh b j
   omega
  refine ah (Ll v (cN b) z w4 (ac β 1) g2) (ak (fun hlt=>?_) (fun hge'=>?_))
  ·have hlt':z.i<8:=by omega
   have hl:=hhl z.i
   have e2:i64.wrap ((z.i:Int)+1)=((z.i+1:Nat):Int):=by rw[ax (by omega) (by omega)];omega
   have glen:0+(z.i:Int).toNat*1<(cN b).length:=by rw[lV];simp;omega
   refine af (fun hat0=>?_) (fun hnat=>?_)
   ·have hat1:(z.i:Int)=z.at_:=eq_of_beq hat0
    obtain⟨h1,h2,h3,h4⟩:f+2<=t/\t<=8/\z.at_=(f:Int)/\z.most=t-f:=by
     rcases hat with⟨_,h,_⟩ |h
     ·omega
     ·exact h
    have hif:z.i=f:=by omega
    have hs':z.s=⟨(jn (kW b 0 f)).toArray⟩:=by
     rcases hs with⟨_,h⟩ |⟨_,h,_⟩
     ·rw[hif]at h;exact h
     ·omega
    have e3:i64.wrap (i64.wrap ((z.i:Int)+i64.wrap ((z.most:Int)-1))+1)=((t:Nat):Int):=by
     rw[ax (n:=(z.most:Int)-1) (by omega) (by omega),ax (n:=(z.i:Int)+((z.most:Int)-1)) (by omega) (by omega),ax (by omega) (by omega)]
     omega
    refine aa (by rw[be];omega) ?_
    rw[e3]
    refine next _ _ _ _ (Keep.refl _ _) (fun x hx=>.inl hx) (by omega) ⟨h2,.inr ⟨h1,h2,h3,h4⟩,?_,.inr ⟨by omega,Nat.le_refl _,?_⟩⟩
    ·show(z.s++ByteArray.mk #[(58:UInt8),(58:UInt8)]).size<=70000*t
     rw[ByteArray.size_append]
     show z.s.size+2<=_
     omega
    ·show z.s++ByteArray.mk #[(58:UInt8),(58:UInt8)]=_
     rw[hs',dg,kb]
     simp[jn]
   ·have hnat':(z.i:Int)≠z.at_:=fun h=>by rw[h]at hnat;simp at hnat
    have hsnoc:∀s',s'=(if(f=255∨z.i<=f)/\0<z.i∨(f≠255/\t<z.i) then z.s++ByteArray.mk #[(58:UInt8)] else z.s)++⟨(ay (aO b z.i)).toArray⟩->Be b f t ⟨z.at_,z.most,s',z.i+1⟩:=by
     rintro s' rfl
     have hsize:∀c:ByteArray,c.size<=z.s.size+1->(c++(⟨(ay (aO b z.i)).toArray⟩:ByteArray)).size<=70000*(z.i+1):=fun c hc=>by
      rw[ByteArray.size_append,aB (ay (aO b z.i))]
      omega
     have hs1:(z.s++ByteArray.mk #[(58:UInt8)]).size=z.s.size+1:=by rw[ByteArray.size_append];rfl
     refine⟨by show z.i+1<=8;omega,hat,?_,?_⟩
     ·show(_++(⟨(ay (aO b z.i)).toArray⟩:ByteArray)).size<=_
      apply hsize
      split
      ·omega
      ·omega
     ·show((f=255∨z.i+1<=f)/\_=_)∨(f≠255/\t<=z.i+1/\_=_)
      rcases hs with⟨h1,h2⟩ |⟨h1,h2,h3⟩
      ·have hf1:f=255∨z.i+1<=f:=by
        rcases h1 with h |h
        ·exact .inl h
        ·rcases hat with⟨h',_⟩ |⟨_,_,h',_⟩
         ·exact .inl h'
         ·exact .inr (by omega)
       refine .inl ⟨hf1,?_⟩
       rcases Nat.eq_zero_or_pos z.i with h0 |h0
       ·rw[if_neg (by rintro(⟨_,h⟩ |⟨h,h'⟩) <;> omega),h2,dg,dj b (Nat.zero_le _),h0,kb]
        simp[jn]
       ·rw[if_pos (.inl ⟨h1,h0⟩),h2,dg,dg,dj b (Nat.zero_le _),l6,if_neg (qz b h0)]
      ·refine .inr ⟨h1,by omega,?_⟩
       rcases Nat.lt_or_ge t z.i with h0 |h0
       ·rw[if_pos (.inr ⟨h1,h0⟩),h3,dg,dg,dj b (Nat.le_of_lt h0),l6,if_neg (qz b h0)]
        simp
       ·have hti:z.i=t:=by omega
        have hft2:f+2<=t:=by
         rcases hat with⟨h',_⟩ |⟨h',_⟩
         ·exact absurd h' h1
         ·exact h'
        rw[if_neg (by rintro(⟨h |h,_⟩ |⟨_,h'⟩) <;> omega),h3,dg,dj b (by omega),hti,kb]
        simp[jn]
    rw[e2]
    refine ak (fun hpos=>ak (fun hneg=>?_) (fun hnn=>af (fun hne=>?_) (fun heq=>?_))) (fun hz0=>?_)
    ·have hf255:f=255:=by
      rcases hat with⟨h,_⟩ |⟨_,_,h,_⟩
      ·exact h
      ·omega
     refine aa (by rw[be];omega) (aa (by omega) (aa glen (hexK (s':=z.s) hlt' fun w5 bs5 o8 hbs5=>?_)))
     refine aa (by rw[ByteArray.size_append,aB (ay (aO b z.i)),be];show((z.s.size+1+_:Nat):Int)<=_;omega) ?_
     refine next _ _ _ _ o8 hbs5 (by omega) (hsnoc _ ?_)
     rw[if_pos (.inl ⟨.inl hf255,by omega⟩)]
    ·have hne':(z.i:Int)≠i64.wrap (z.at_+(z.most:Int)):=bne_iff_ne.1 hne
     refine aa (by rw[be];omega) (aa (by omega) (aa glen (hexK (s':=z.s) hlt' fun w5 bs5 o8 hbs5=>?_)))
     refine aa (by rw[ByteArray.size_append,aB (ay (aO b z.i)),be];show((z.s.size+1+_:Nat):Int)<=_;omega) ?_
     refine next _ _ _ _ o8 hbs5 (by omega) (hsnoc _ ?_)
     rw[if_pos]
     rcases hat with⟨_,h,_⟩ |⟨g1,g2,g3,g4⟩
     ·omega
     ·rw[ax (by omega) (by omega)]at hne'
      rcases hs with⟨h1,_⟩ |⟨h1,h2,_⟩
      ·exact .inl ⟨h1,by omega⟩
      ·exact .inr ⟨h1,by omega⟩
    ·have heq':(z.i:Int)=i64.wrap (z.at_+(z.most:Int)):=by simpa using heq
     refine aa (by omega) (aa glen (hexK (s':=z.s) hlt' fun w5 bs5 o8 hbs5=>?_))
     refine aa (by rw[aB (ay (aO b z.i)),be];omega) ?_
     refine next _ _ _ _ o8 hbs5 (by omega) (hsnoc _ ?_)
     rw[if_neg]
     rcases hat with⟨_,h,_⟩ |⟨g1,g2,g3,g4⟩
     ·omega
     ·rw[ax (by omega) (by omega)]at heq'
      rintro(⟨h |h,_⟩ |⟨_,h⟩) <;> omega
    ·refine aa (by omega) (aa glen (hexK (s':=z.s) hlt' fun w5 bs5 o8 hbs5=>?_))
     refine aa (by rw[aB (ay (aO b z.i)),be];omega) ?_
     refine next _ _ _ _ o8 hbs5 (by omega) (hsnoc _ ?_)
     rw[if_neg]
     rintro(⟨_,h⟩ |⟨h,h'⟩) <;> omega
  ·have hi8:z.i=8:=by omega
   refine aM ⟨rfl,hkp,fun b hb=>.inl hb⟩ fun β' w' hst hk'=>⟨.inl ⟨z.s,rfl,rfl,hst.objsAt rfl (bn _).2,?_⟩,hk'⟩
   rcases hs with⟨h1,h2⟩ |⟨h1,h2,h3⟩
   ·have hf255:f=255:=by
     rcases h1 with h |h
     ·exact h
     ·rcases hat with⟨h',_⟩ |⟨h',h'',_⟩
      ·exact h'
      ·omega
    rw[h2,gB,if_pos hf255,hi8]
   ·rw[h3,gB,if_neg h1,hi8]
 ·intro β w3 hst hb3
  exact⟨⟨p.1,p.2,⟨#[]⟩,0⟩,hsel β,fun i o hi=>hst.at_ i o (by rw[hobj];exact hi),Nat.zero_le _,hst0,Nat.zero_le _,.inl ⟨.inr (Nat.zero_le _),rfl⟩⟩
 ·rintro w3 s w4 rfl hb3 hb4 g2 bs3 hbs3
  exact hk w4 g2 bs3 hb4 hbs3
 ·rintro w3 s w4 hf
  exact hf.elim
theorem Md{x y:Nat}(hx:x<65536)(hy:y<65536):i64.wrap (((BitVec.ofInt 64 (x:Int) |||BitVec.ofInt 64 (y:Int)).toNat:Nat):Int)=((x |||y:Nat):Int):=by
 have f1:∀m:Nat,m<65536->(BitVec.ofInt 64 (m:Int)).toNat=m:=fun m hm=>by
  simp
  omega
 have h:x |||y<2^16:=Nat.or_lt_two_pow hx hy
 rw[BitVec.toNat_or,f1 x hx,f1 y hy]
 exact ax (by omega) (by omega)
theorem Mc{x y:Nat}:x |||y=0 ↔ x=0/\y=0:=by
 constructor
 ·intro h
  constructor
  ·have:=Nat.left_le_or (n:=x) (m:=y)
   omega
  ·have:=Nat.right_le_or (n:=x) (m:=y)
   omega
 ·rintro⟨rfl,rfl⟩
  rfl
theorem kS{b:List UInt8}(hl:b.length=16):ct b ↔ (aO b 0=0/\aO b 1=0/\aO b 2=0/\aO b 3=0/\aO b 4=0/\aO b 5=65535):=by
 match b,hl with
 |[a0,a1,a2,a3,a4,a5,a6,a7,a8,a9,a10,a11,a12,a13,a14,a15],_=>
  have h10:=a10.toNat_lt
  have h11:=a11.toNat_lt
  have z:∀ {x y:UInt8},x.toNat*256+y.toNat=0 ↔ x=0/\y=0:=fun{x y}=>by
   constructor
   ·intro h
    exact⟨UInt8.toNat_inj.1 (by show x.toNat=0;omega),UInt8.toNat_inj.1 (by show y.toNat=0;omega)⟩
   ·rintro⟨rfl,rfl⟩
    rfl
  have m:a10.toNat*256+a11.toNat=65535 ↔ a10=255/\a11=255:=by
   constructor
   ·intro h
    exact⟨UInt8.toNat_inj.1 (by show a10.toNat=255;omega),UInt8.toNat_inj.1 (by show a11.toNat=255;omega)⟩
   ·rintro⟨rfl,rfl⟩
    rfl
  show[a0,a1,a2,a3,a4,a5,a6,a7,a8,a9,a10,a11]=[0,0,0,0,0,0,0,0,0,0,255,255] ↔ (a0.toNat*256+a1.toNat=0/\a2.toNat*256+a3.toNat=0/\a4.toNat*256+a5.toNat=0/\a6.toNat*256+a7.toNat=0/\a8.toNat*256+a9.toNat=0/\a10.toNat*256+a11.toNat=65535)
  rw[z,z,z,z,z,m]
  simp only[List.cons.injEq,and_true,and_assoc]
theorem F2(a b c d:UInt8):eg [a,b,c,d]=aF a b c d:=by
 simp only[eg,aF,kL a.toNat_lt,kL b.toNat_lt,kL c.toNat_lt,kL d.toNat_lt]
 simp
theorem Fw(A:Option Addr)(n c:Nat)(b:List UInt8)(B:Nat)(w:World)(h:Bts w B A n b)(hl:b.length=16)(hc:n<=c)(hB:B<=w.heap.size):Calls Tryz.prog 48 #[.slice A n c] w (bF (fun v _=>v=.string ⟨(ph b).toArray⟩) w):=by
 have hn:n=16:=by have:=h.1;omega
 subst hn
 refine aH (hk:=Ma ⟨A,16,c⟩ (cN b)) (n:=1000) (args:=[.xs A 16 c]) ⟨trivial,trivial⟩ ?_
 refine ah (NW ⟨A,16,c⟩ (cN b) w) ?_
 refine BP (c:=c) h hB (Fine.start w _) rfl rfl rfl (fun β=>rfl) ?_
 intro w1 g1 bs1 hw1 hbs1
 dsimp only
 have hg:∀j,aO b j<65536:=dh b
 have glen:=lV b
 simp only[eV b (show 0<8 by omega),eV b (show 1<8 by omega),eV b (show 2<8 by omega),eV b (show 3<8 by omega),eV b (show 4<8 by omega),eV b (show 5<8 by omega)]
 have o1:aO b 0 |||aO b 1<65536:=Nat.or_lt_two_pow (n:=16) (hg 0) (hg 1)
 have o2:aO b 0 |||aO b 1 |||aO b 2<65536:=Nat.or_lt_two_pow (n:=16) o1 (hg 2)
 have o3:aO b 0 |||aO b 1 |||aO b 2 |||aO b 3<65536:=Nat.or_lt_two_pow (n:=16) o2 (hg 3)
 rw[Md (hg 0) (hg 1),Md o1 (hg 2),Md o2 (hg 3),Md o3 (hg 4)]
 refine aa (by omega) (aa (by omega) (aa (by omega) (aa (by omega) (aa (by omega) (af (fun h0=>aa (by omega) (af (fun h5=>?_) (fun h5=>?_))) (fun h0=>?_))))))
 ·have hz:aO b 0 |||aO b 1 |||aO b 2 |||aO b 3 |||aO b 4=0:=by have:=eq_of_beq h0;omega
  have h5':aO b 5=65535:=by have:=eq_of_beq h5;omega
  rw[Mc,Mc,Mc,Mc]at hz
  have hm:ct b:=(kS hl).2 ⟨hz.1.1.1.1,hz.1.1.1.2,hz.1.1.2,hz.1.2,hz.2,h5'⟩
  obtain⟨a,rfl,_⟩:=h.2 (by omega)
  refine aa (by omega) ?_
  refine eK (Γ:=cS Tryz.prog _) (w:=w) (R:=fun(x:ByteArray) _ _=>x=⟨(aF (b.getD 12 0) (b.getD 13 0) (b.getD 14 0) (b.getD 15 0)).toArray⟩) (Fine.mk' hw1 hbs1) (fun x=>⟨rfl,trivial⟩) (fun β w2 hst ho hb=>?_) ?_
  ·have hd:=lK (h.below (hb.mono hB) (Nat.le_refl _)) (show 12<=16 by omega)
   rw[C2 hl]at hd
   have hc12:(if c=12 then some a else Option.map (fun x=>x.add 12) (some a))=some (a.add 12):=by rw[if_neg (by omega)];rfl
   show Calls Tryz.prog 47 #[.slice (if c=12 then some a else Option.map (fun x=>x.add 12) (some a)) (16-12) (c-12)] w2 _
   rw[hc12]
   refine(xm (some (a.add 12)) 4 (c-12) _ B w2 hd (Nat.le_trans hB hb.size) (by simp)).mono ?_
   rintro e w' ⟨v,rfl,rfl,hb'⟩
   rw[F2]
   exact⟨_,rfl,hb',rfl⟩
  rintro x w2 w3 b3 _ rfl _ hb3 hbs3
  refine aa ?_ (aN (Fine.mk' hb3 hbs3) fun β w' _ _=>?_)
  ·rw[aB,be]
   have:=ke (b.getD 12 0) (b.getD 13 0) (b.getD 14 0) (b.getD 15 0)
   omega
  ·show Value.string ((⟨[58,58,102,102,102,102,58].toArray⟩:ByteArray)++⟨(aF (b.getD 12 0) (b.getD 13 0) (b.getD 14 0) (b.getD 15 0)).toArray⟩)=_
   rw[dg]
   unfold ph
   rw[if_pos hm]
 ·have hm:¬ct b:=fun hm=>by
   have:=((kS hl).1 hm).2.2.2.2.2
   rw[this]at h5
   simp at h5
  unfold ph
  rw[if_neg hm]
  refine sr (w:=w) (b:=b) (Fine.mk' hw1 hbs1) rfl rfl rfl (fun β=>rfl) ?_
  intro p w2 g2 bs2 hw2 hbs2 hp
  refine ss (w:=w) (v:=⟨A,16,c⟩) (b:=b) (p:=p) (Fine.mk' hw2 hbs2) rfl rfl rfl hp (fun β=>rfl) ?_
  intro w3 g3 bs3 hw3 hbs3
  exact aN (Fine.mk' hw3 hbs3) fun β w' _ _=>rfl
 ·have hm:¬ct b:=fun hm=>by
   obtain⟨q0,q1,q2,q3,q4,_⟩:=(kS hl).1 hm
   rw[q0,q1,q2,q3,q4]at h0
   simp at h0
  unfold ph
  rw[if_neg hm]
  refine sr (w:=w) (b:=b) (Fine.mk' hw1 hbs1) rfl rfl rfl (fun β=>rfl) ?_
  intro p w2 g2 bs2 hw2 hbs2 hp
  refine ss (w:=w) (v:=⟨A,16,c⟩) (b:=b) (p:=p) (Fine.mk' hw2 hbs2) rfl rfl rfl hp (fun β=>rfl) ?_
  intro w3 g3 bs3 hw3 hbs3
  exact aN (Fine.mk' hw3 hbs3) fun β w' _ _=>rfl
end
section
open Go Go.Rx Go.RowKit
def N1(code:Int)(v:Value)(_:World):Prop:=
 ∃x:PX,v=.tuple #[.agg #[.string x.name,.int .i64 x.cd,.int .i64 x.size,.bool x.path,.slice none 0 0],.bool x.ok]/\(x.ok=true->code∈aY/\x=⟨⟨(an code).name.toArray⟩,code,(an code).size,(an code).path,true⟩)/\(code∈aY->x.ok=true)
theorem l8(code:Int)(w:World):Calls Tryz.prog 14 #[.int .i64 code] w (bF (N1 code) w):=by
 refine aH (hk:=au) (n:=1000) (args:=[.int .i64 code false]) ⟨trivial,trivial⟩ ?_
 rw[Qd]
 have leaf:∀(nm:ByteArray) (sz:Int) (l1 l2 l3 l4 l5:Bool) (objs:List SObj),code∈aY->nm=⟨(an code).name.toArray⟩->sz=(an code).size->(code == 400)=(an code).path ->
   (T.leaf .ret [(.tup [(.agg [(.str nm l1),(.int .i64 code l2),(.int .i64 sz l3),(.bool (code == 400) l4),(.one (.slice none 0 0) rfl)]),(.bool true l5)])] (SS.mk objs [] true w [])).holds (cS Tryz.prog (bC fun v w'=>N1 code v w'/\Below w.heap.size w w')):=
  fun nm sz _ _ _ _ _ objs h h1 h2 h3=>aN (Fine.start _ _) fun β w' _ _=>⟨⟨nm,code,sz,(code == 400),true⟩,rfl,fun _=>⟨h,by rw[h1,h2,h3]⟩,fun _=>rfl⟩
 repeat' (refine af (fun _=>?_) (fun _=>?_))
 all_goals first
  |(rename_i hc;have hcode:=eq_of_beq hc;subst hcode;exact leaf _ _ _ _ _ _ _ _ (by decide) rfl rfl rfl)
  |(refine aN (Fine.start _ _) fun β w' _ _=>⟨⟨_,_,_,_,false⟩,rfl,fun h=>Bool.noConfusion h,fun h=>?_⟩
    simp only[aY,List.mem_cons,List.not_mem_nil,or_false]at h
    simp_all)
theorem kU{Q:SE->List Value->World->Prop}{s:SS}{w:World}{code:Int}{a0:List SV}{s0:SS}{k:PX->World->List Nat->T}(hf:Fine w s)(hs0:s0.objs=s.objs)
  (hk:∀x w' bs,Below w.heap.size w w'->(∀b∈bs,w.heap.size<=b)->(x.ok=true->code∈aY/\x=⟨⟨(an code).name.toArray⟩,code,(an code).size,(an code).path,true⟩)->(code∈aY->x.ok=true)->(k x w' bs).holds (cS Tryz.prog Q)) :
  (T.call 14 [.int .i64 code false] s (Hook.X bL) (Hook.out bL a0 s0) k).holds (cS Tryz.prog Q):=by
 refine eK (Γ:=cS Tryz.prog Q) (R:=fun x _ _=>(x.ok=true->code∈aY/\x=⟨⟨(an code).name.toArray⟩,code,(an code).size,(an code).path,true⟩)/\(code∈aY->x.ok=true)) hf (fun x=>⟨hs0,⟨trivial,trivial,trivial,trivial,trivial,trivial⟩,trivial,trivial⟩) (fun β w0 hst ho hb=>?_) (fun x w0 w' bs _ hr _ hb hbs=>hk x w' bs hb hbs hr.1 hr.2)
 refine(l8 code w0).mono ?_
 rintro e w' ⟨v,rfl,⟨x,rfl,hx⟩,hb'⟩
 exact⟨x,rfl,hb',hx⟩
theorem sg(l:List UInt8)(hl:l.length<2^62)(w:World):Calls Tryz.prog 38 #[.string ⟨l.toArray⟩] w (bF (f7 fun b=>b=true->Nm l/\l.length<=60) w):=by
 refine aH (hk:=wV ⟨l.toArray⟩) (n:=1000) (args:=[.str ⟨l.toArray⟩ false]) ⟨trivial,trivial⟩ ?_
 rw[Qf]
 have hsz:(⟨l.toArray⟩:ByteArray).size=l.length:=aB _
 have hget:∀j,((⟨l.toArray⟩:ByteArray).data.toList.getD j 0)=l.getD j 0:=fun j=>rfl
 refine fm (Fine.start w _) JE (α:=Nat) (fun i=>[.str ⟨l.toArray⟩ false,.int .i64 i false]) (fun i=>l.length-i) (fun _ i _=>i<=l.length/\∀j,j<i->l.getD j 0≠47)
  (fun _ e lv _=>(e=.ret/\lv=[.bool false])∨(e=.exit 0/\lv=[.string ⟨l.toArray⟩]/\∀j,j<l.length->l.getD j 0≠47)) (fun _=>au) 1000 (by simp) (by simp[JE]) (by simp[JE]) (fun _=>⟨trivial,trivial,trivial⟩) rfl rfl rfl
  (by simp) (by simp) (fun _=>⟨trivial,trivial⟩) (fun _=>⟨trivial,trivial⟩) ?_ ?_ ?_
 ·rintro w0 i w1 g _ ⟨hi,hall⟩ hb0 _
  refine ah (NL _ w1 i g) ?_
  simp only[hsz,hget,Int.toNat_natCast]
  refine ak (fun hlt=>?_) (fun hge=>cy (Fine.nil hb0) (by simp) fun β w' _ _=>.inr ⟨rfl,rfl,fun j hj=>hall j (by omega)⟩)
  have hlt':i<l.length:=by omega
  refine aa (by omega) ?_
  by_cases hc:l.getD i 0=47
  ·simp only[hc]
   refine af (fun _=>af (fun _=>af (fun _=>af (fun _=>af (fun _=>af (fun _=>cy (Fine.nil hb0) (by simp) fun β w' _ _=>.inl ⟨rfl,rfl⟩) (fun h=>absurd h (by decide))) (fun h=>absurd h (by decide))) (fun h=>absurd h (by decide))) (fun h=>absurd h (by decide))) (fun h=>absurd h (by decide))) (fun h=>absurd h (by decide))
  ·have hnext:∀(β:Nat->Nat),∃y,l.length-y<l.length-i/\ae β [(.str ⟨l.toArray⟩ false),(.int .i64 (i64.wrap ((i:Int)+1)) false)]=ae id [.str ⟨l.toArray⟩ false,.int .i64 (y:Nat) false]/\y<=l.length/\∀j,j<y->l.getD j 0≠47:=by
    intro β
    refine⟨i+1,by omega,?_,by omega,fun j hj=>?_⟩
    ·rw[gz hlt' (by omega)]
     rfl
    ·by_cases h:j=i
     ·rw[h];exact hc
     ·exact hall j (by omega)
   repeat' (refine af (fun _=>?_) (fun _=>?_))
   all_goals first
    |exact dM (Fine.nil hb0) fun β w' _ _=>hnext β
    |exact cy (Fine.nil hb0) (by simp) fun β w' _ _=>.inl ⟨rfl,rfl⟩
 ·intro β w0 hst hb
  exact⟨0,rfl,Nat.zero_le _,fun j hj=>absurd hj (Nat.not_lt_zero j)⟩
 ·rintro β w0 hst hb e lv w' (⟨rfl,rfl⟩ |⟨rfl,rfl,hall⟩) hb0 hb1
  ·exact .inl ⟨(),rfl,rfl,fun g bs hbs=>aN (Fine.mk' hb1 hbs) fun β w' _ _=>⟨_,rfl,fun h=>Bool.noConfusion h⟩⟩
  ·refine .inr ⟨(),rfl,rfl,fun g bs hbs=>?_⟩
   rw[hsz]
   refine af (fun h1=>?_) (fun _=>aN (Fine.mk' hb1 hbs) fun β w' _ _=>⟨_,rfl,fun h=>Bool.noConfusion h⟩)
   refine aN (Fine.mk' hb1 hbs) fun β w' _ _=>⟨_,rfl,fun h2=>⟨⟨?_,fun x hx=>?_⟩,?_⟩⟩
   ·rintro rfl
    simp at h1
   ·obtain⟨j,hj,rfl⟩:=List.getElem_of_mem hx
    have:=hall j hj
    rw[List.getD_eq_getElem?_getD,List.getElem?_eq_getElem hj]at this
    exact this
   ·have:=of_decide_eq_true h2
    omega
theorem CB(l:List UInt8)(n:Nat):(⟨l.toArray⟩:ByteArray).extract 1 n=⟨((l.take n).drop 1).toArray⟩:=by
 apply ByteArray.ext
 rw[ByteArray.data_extract]
 apply Array.ext'
 simp[List.drop_take]
theorem Dn(l:List UInt8)(hl:l.length<2^61)(w:World):Calls Tryz.prog 37 #[.string ⟨l.toArray⟩] w (bF (f7 fun b=>b=true->Pth l) w):=by
 refine aH (hk:=J1) (n:=1000) (args:=[.str ⟨l.toArray⟩ false]) ⟨trivial,trivial⟩ ?_
 rw[Qe]
 refine fm (Fine.start w _) JD (α:=List UInt8) (fun u=>[.str ⟨u.toArray⟩ false]) (fun u=>u.length) (fun _ u _=>∃pre,l=pre++u/\(pre=[] ∨ l.getD 0 0=47))
  (fun _ e lv _=>(e=.ret/\∃b,lv=[.bool b]/\(b=true->Pth l))∨(e=.exit 0/\lv=[])) (fun u=>Gc ⟨u.toArray⟩) 1000 (by simp) (by simp[JD]) (by simp[JD]) (fun _=>⟨trivial,trivial⟩) rfl rfl rfl
  (by simp) (by simp) (fun _=>⟨trivial,trivial⟩) (fun _=>trivial) ?_ ?_ ?_
 ·rintro w0 u w1 g hbw0 ⟨pre,hpre,h47⟩ hb0 hbw
  have hul:u.length<=l.length:=by rw[hpre];simp
  have hsz:(⟨u.toArray⟩:ByteArray).size=u.length:=aB _
  refine ah (P0 ⟨u.toArray⟩ w1 g) ?_
  rw[hsz]
  refine ak (fun hpos=>?_) (fun _=>cy (Fine.nil hb0) (by simp) fun β w' _ _=>.inr ⟨rfl,rfl⟩)
  have hpos':0<u.length:=by omega
  refine aa (by omega) ?_
  refine af (fun _=>cy (Fine.nil hb0) (by simp) fun β w' _ _=>.inl ⟨rfl,_,rfl,fun h=>Bool.noConfusion h⟩) (fun hne=>?_)
  have hu0:u.getD 0 0=47:=by
   have h1:((((⟨u.toArray⟩:ByteArray).data.toList.getD 0 0).toNat:Nat):Int)=47:=by simpa using hne
   have h2:(u.getD 0 0).toNat=47:=by
    have h1':(((u.getD 0 0).toNat:Nat):Int)=47:=h1
    omega
   exact UInt8.toNat_inj.1 h2
  have hl0:l.getD 0 0=47:=by
   rcases h47 with rfl |h
   ·rw[hpre];exact hu0
   ·exact h
  refine fm (w:=w0) (Fine.nil hb0) (Cf ⟨u.toArray⟩) (α:=Nat) (fun n=>[.str ⟨u.toArray⟩ false,.int .i64 n false]) (fun n=>u.length-n) (fun _ n _=>1<=n/\n<=u.length)
   (fun _ e lv _=>e=.exit 2/\∃n:Nat,1<=n/\n<=u.length/\lv=[.string ⟨u.toArray⟩,.int .i64 n]) (fun _=>au) 1000 (by simp) (by simp[Cf]) (by simp[Cf]) (fun _=>⟨trivial,trivial,trivial⟩) rfl rfl rfl
   (by simp) (by simp) (fun _=>⟨trivial,trivial,trivial⟩) (fun _=>trivial) ?_ ?_ ?_
  ·rintro w2 n w3 g2 _ ⟨hn1,hn2⟩ hb3 _
   refine ah (Nq ⟨u.toArray⟩ n w3 g2) ?_
   rw[hsz]
   refine ak (fun hlt=>?_) (fun _=>cy (Fine.nil hb3) (by simp) fun β w' _ _=>⟨rfl,n,hn1,hn2,rfl⟩)
   have hlt':n<u.length:=by omega
   refine aa (by omega) ?_
   refine af (fun _=>dM (Fine.nil hb3) fun β w' _ _=>⟨n+1,by omega,?_,by omega,by omega⟩) (fun _=>cy (Fine.nil hb3) (by simp) fun β w' _ _=>⟨rfl,n,hn1,hn2,rfl⟩)
   rw[gz hlt' (by omega)]
   rfl
  ·intro β w2 hst hb
   exact⟨1,rfl,Nat.le_refl _,hpos'⟩
  ·rintro β w2 hst hb e lv w3 ⟨rfl,n,hn1,hn2,rfl⟩ hb23 hb03
   refine .inl ⟨n,rfl,rfl,fun g2 bs hbs=>?_⟩
   have hf3:Fine w0 (SS.mk [] [] true w3 bs):=Fine.mk' hb03 hbs
   refine aa (by dsimp only;omega) (aa (by dsimp only;omega) ?_)
   dsimp only
   rw[Int.toNat_natCast,CB]
   refine ed (fun b=>b=true->Nm ((u.take n).drop 1)/\((u.take n).drop 1).length<=60) hf3 rfl (fun β w4 _ _ _=>sg _ (by simp;omega) w4) (fun b w4 bs4 hR hb4 hbs4=>?_)
   have hf4:Fine w0 (SS.mk [] [] true w4 bs4):=Fine.mk' hb4 hbs4
   refine af (fun _=>cy hf4 (by simp) fun β w' _ _=>.inl ⟨rfl,_,rfl,fun h=>Bool.noConfusion h⟩) (fun hbt=>aa (by omega) ?_)
   have hbt':b=true:=by simpa using hbt
   obtain⟨hnm,_⟩:=hR hbt'
   rw[show(⟨u.toArray⟩:ByteArray).extract n u.length=⟨(u.drop n).toArray⟩ by rw[<- hsz,jh]]
   refine af (fun hend=>cy hf4 (by simp) fun β w' _ _=>.inl ⟨rfl,_,rfl,fun _=>?_⟩) (fun hnend=>dM hf4 fun β w' _ _=>⟨u.drop n,?_,rfl,pre++u.take n,?_,.inr hl0⟩)
   ·have hd:u.drop n=[]:=by
     have h1:(⟨(u.drop n).toArray⟩:ByteArray).toList=(ByteArray.mk #[]).toList:=eq_of_beq hend
     rw[ByteArray.toList_eq,ByteArray.toList_eq]at h1
     simpa using h1
    have hnu:n=u.length:=by
     have:=congrArg List.length hd
     simp at this
     omega
    have htk:u.take n=u:=by rw[hnu];exact List.take_length
    rw[htk]at hnm
    have hu2:2<=u.length:=by
     have:=List.length_pos_iff.2 hnm.1
     simp at this
     omega
    have hlen:l.length=pre.length+u.length:=by rw[hpre];simp
    refine⟨by omega,hl0,?_⟩
    have hlast:l.getD (l.length-1) 0=u.getD (u.length-1) 0:=by
     rw[List.getD_eq_getElem?_getD,List.getD_eq_getElem?_getD,hlen]
     conv=>lhs;rw[hpre,List.getElem?_append_right (by omega)]
     congr 2
     omega
    rw[hlast,List.getD_eq_getElem?_getD,List.getElem?_eq_getElem (by omega)]
    refine hnm.2 _ ?_
    rw[List.mem_drop_iff_getElem]
    exact⟨u.length-2,by omega,by simp only[Option.getD_some];congr 1;omega⟩
   ·rw[List.length_drop]
    omega
   ·rw[List.append_assoc,List.take_append_drop]
    exact hpre
 ·intro β w0 hst hb
  exact⟨l,rfl,[],rfl,.inl rfl⟩
 ·rintro β w0 hst hb e lv w' (⟨rfl,b,rfl,hp⟩ |⟨rfl,rfl⟩) hb0 hb1
  ·exact .inl ⟨b,rfl,rfl,fun g bs hbs=>aN (Fine.mk' hb1 hbs) fun β w' _ _=>⟨_,rfl,hp⟩⟩
  ·exact .inr ⟨(),rfl,rfl,fun g bs hbs=>aN (Fine.mk' hb1 hbs) fun β w' _ _=>⟨_,rfl,fun h=>Bool.noConfusion h⟩⟩
end
end Go.Proofs.YtnklanajebphpaaGreatDoor
