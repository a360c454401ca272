/- Joined texts: K16 K20 K20n K20a K32a K33 K34 K35 K41 S8 K43. -/
import Derived.Test.YtnklanajebphpaaGreatDoorJ9
import Derived.Laws.AppendOwnNone
set_option maxRecDepth 100000
set_option maxHeartbeats 4000000
set_option linter.unusedVariables false
set_option linter.unusedSimpArgs false
namespace Go.Proofs.YtnklanajebphpaaGreatDoor
open IntKind
section
open Go Go.Rx Go.RowKit
theorem Bts.ints{w:World}{B n:Nat}{A:Option Addr}{l:List UInt8}(h:Bts w B A n l):List.map aM (valsAt w A n)=ints l:=by
 rw[h.valsAt,List.map_map]
 rfl
theorem tP(l:List UInt8):bytesOf (ints l)=⟨l.toArray⟩:=by
 rw[gz,List.map_map]
 congr 2
 refine(List.map_congr_left (g:=id) fun x _=>?_).trans (List.map_id l)
 simp
def CN(w:World)(p:Nat)(k:Int)(val:List UInt8)(w':World):Prop:=w.heap.size<=p/\p<w'.heap.size/\∃b,w'.heap[p]?=some (.cells #[.string ⟨(bW k val++val).toArray⟩,.pointer (some ⟨b,0,none⟩),.int .i64 ((bW k val).length:Int)] 64 (0,0))/\ProtN w b k w'
theorem CN.at_{w w':World}{p:Nat}{k:Int}{val:List UInt8}(h:CN w p k val w'):CAt w' w'.heap.size p k val:=by
 obtain⟨_,h1,b,h2,h3⟩:=h
 exact⟨h1,b,h2,h3.b⟩
theorem CN.from{w w1 w':World}{p:Nat}{k:Int}{val:List UInt8}(h:CN w1 p k val w')(hz:w.heap.size<=w1.heap.size):CN w p k val w':=by
 obtain⟨h0,h1,b,h2,h3⟩:=h
 exact⟨by omega,h1,b,h2,h3.from hz⟩
theorem CN.keep{w0 w w':World}{p:Nat}{k:Int}{val:List UInt8}{bs:List Nat}(h:CN w0 p k val w)(hk:Keep bs w w')(hp:∀i∈bs,i<w0.heap.size∨w.heap.size<=i):CN w0 p k val w':=by
 obtain⟨h0,h1,b,h2,h3⟩:=h
 refine⟨h0,Nat.lt_of_lt_of_le h1 hk.size,b,?_,h3.keep hk hp⟩
 rw[hk.block p h1 fun hm=>by have:=hp _ hm;omega]
 exact h2
theorem CN.old{β:Nat->Nat}{s:SS}{w0 w:World}{p:Nat}{k:Int}{val:List UInt8}(o:Old β s w)(hx:s.ext=true)(h:CN w0 p k val s.w0)(hp:∀i∈s.pre,i<w0.heap.size):CN w0 p k val w:=
 h.keep (bs:=s.pre) (o.keepK ⟨hx,Keep.refl _ _,fun b hb=>.inl hb⟩) fun i hi=>.inl (hp i hi)
theorem qF{w:World}{β:Nat->Nat}{k:Int}{val:List UInt8}{b p:Nat}(h:SObj.At β (.cells [.str ⟨(bW k val++val).toArray⟩ false,.xp ⟨b,0,none⟩,.int .i64 ((bW k val).length:Int) false] 3 64 0 0) w.heap[p]?) :
  w.heap[p]?=some (.cells #[.string ⟨(bW k val++val).toArray⟩,.pointer (some ⟨b,0,none⟩),.int .i64 ((bW k val).length:Int)] 64 (0,0)):=by
 obtain⟨r,h1,h2⟩:=h
 have hr:r=[]:=List.eq_nil_of_length_eq_zero (by have h2':3+r.length=3:=h2;omega)
 subst hr
 simpa [af,SV.den] using h1
def pk(k:Int)(val:List UInt8)(w:World)(v:Value)(w':World):Prop:=∃p,v=.tuple #[.pointer (some ⟨p,0,none⟩),.nilIface]/\CN w p k val w'
theorem BD{P Z V:List Int}{off n:Nat}(hoff:off=P.length∨n=0)(hZ:Z.length=n)(hV:V.length=n):(P++Z).take off++V++(P++Z).drop (off+n)=P++V:=by
 rcases hoff with rfl |h0
 ·rw[List.take_left,<- hZ,<- List.length_append,List.drop_length,List.append_nil]
 ·subst h0
  have hZ':Z=[]:=List.eq_nil_of_length_eq_zero hZ
  have hV':V=[]:=List.eq_nil_of_length_eq_zero hV
  subst hZ' hV'
  simp[List.take_append_drop]
theorem BF{P V:List Int}{N:Nat}{l:List UInt8}(h:P++V=ints l)(hN:l.length=N):bytesOf (List.take N (P++V))=⟨l.toArray⟩:=by
 rw[h,List.take_of_length_le (by simp[ints];omega),tP]
theorem dm{k:Int}{val txt:List UInt8}(hs:Simple k val txt)(nm:ByteArray)(A0:Option Addr)(n0 c0:Nat)(pth:Bool)(tr:{ v:Value // v.oneCell'=true })(A:Option Addr)(n c B:Nat)(w:World)(h:Bts w B A n val)(hv:Bts w B A0 n0 (ai k).vc)(hB:B<=w.heap.size)(ht:Tens w)(hl:val.length<=2147483647) :
  Calls Tryz.prog 74 #[.agg #[.string nm,.int .i64 k,.slice A0 n0 c0,.int .i64 (ai k).size,.bool pth,tr.1],.slice A n c] w (bB (pk k val w) w):=by
 have hk:=hs.tab
 have hvl:=dh k hk
 have hn:n=val.length:=h.1
 have hn0:n0=(ai k).vc.length:=hv.1
 have hul:=iP 9 n (by omega)
 obtain⟨sz,hsz⟩:∃sz,sz=(ai k).size:=⟨_,rfl⟩
 rw[<- hsz]
 refine aF (hk:=KE) (n:=2000) (args:=[.agg [.str nm false,.int .i64 k false,.xs A0 n0 c0,.int .i64 sz false,.bool pth false,.one tr.1 tr.2],.xs A n c]) ⟨⟨trivial,trivial,trivial,trivial,trivial,trivial,trivial⟩,trivial,trivial⟩ ?_
 refine ah (Qm ⟨nm,A0,n0,c0,sz,pth,tr⟩ k A n c w) ?_
 refine c7 (R:=fun(p:Addr) w0 w'=>∃b,p=⟨b,0,none⟩/\ProtN w0 b k w') (Fine.start w _) (fun x=>⟨rfl,trivial⟩) (fun β w0 hst ho hb=>?_) ?_
 ·refine(Ew k hk w0).mono ?_
  rintro e w' ⟨v,rfl,⟨b,rfl,h1⟩,hb'⟩
  exact⟨⟨b,0,none⟩,rfl,hb',b,rfl,h1⟩
 rintro p wA w0 b0 hbA ⟨b,rfl,hP⟩ hbA0 hb0 hbs0
 have wk:∀ {w':World},Keep b0 w0 w'->Below w.heap.size w w':=fun hk=>hk.below hb0 (Nat.le_refl _) fun i hi=>(hbs0 i hi).1
 have hu:u64.wrap (n:Int)=(n:Int):=by
  simp[IntKind.wrap,IntKind.bits,IntKind.signed]
  omega
 have canB:∀ {w':World}{bs:List Nat}{A:Option Addr}{n:Nat}{l:List UInt8},Bts w B A n l->Keep b0 w0 w'->(∀i∈bs,i∈b0∨w0.heap.size<=i)->canBytes w' bs A n/\List.map aM (valsAt w' A n)=ints l:=fun{w'} {bs} {A} {n} {l} hB' hk' hbs'=>by
  have hb':=wk hk'
  have:=hB'.below (hb'.mono hB) (Nat.le_refl _)
  refine⟨this.canBytes (Nat.le_trans hB hb'.size) fun i hi=>?_,Bts.ints this⟩
  have:=hb0.size
  rcases hbs' i hi with h |h
  ·exact Nat.le_trans hB (hbs0 i h).1
  ·omega
 have fin:∀ {w1:World}{bs1:List Nat}{S:ByteArray}{off:Nat}{L:List Int}{o0:SObj},Keep b0 w0 w1->(∀i∈bs1,i∈b0∨w0.heap.size<=i)->S=⟨(bW k val++val).toArray⟩->off=(bW k val).length ->
   (T.call 91 [.ptr 2 0] (SS.mk [o0,.ints .u8 L 5 0 0,.cells [.str S false,.xp ⟨b,0,none⟩,.int .i64 (off:Int) false] 3 64 0 0] [] true w1 bs1) Unit (fun _=>(.one .nilIface rfl,[o0,.ints .u8 L 5 0 0,.cells [.str S false,.xp ⟨b,0,none⟩,.int .i64 (off:Int) false] 3 64 0 0])) fun _ w2 b2=>
    (T.leaf .ret [.tup [.ptr 2 0,.one .nilIface rfl]] (SS.mk [o0,.ints .u8 L 5 0 0,.cells [.str S false,.xp ⟨b,0,none⟩,.int .i64 (off:Int) false] 3 64 0 0] [] true w2 b2))).holds (c8 Tryz.prog (bH fun v w'=>pk k val w v w'/\Below w.heap.size w w')):=by
  rintro w1 bs1 S off L o0 hk01 hbs1 rfl rfl
  refine aY (w:=w0) (bs:=b0) (R:=fun(_:Unit) _ _=>True) ⟨rfl,hk01,hbs1⟩ (fun x=>⟨rfl,trivial⟩) (fun β wc hst ho hkc=>?_) ?_
  ·have hPw:=hP.keep hkc fun i hi=>.inl (hbs0 i hi).2
   refine(BL hs hl (mg (hst.at_ 2 _ rfl) (hst.lt 2 (by simp[SS.n])) hPw) (Nat.le_refl _) (ht.below (wk hkc) ht.lt)).mono ?_
   rintro e w' ⟨rfl,hb'⟩
   exact⟨(),rfl,hb',trivial⟩
  rintro _ wc w2 b2 hkc _ hbc2 hk02 hbs2
  refine aJ (w:=w0) (bs:=b0) ⟨rfl,hk02,fun i hi=>(hbs2 i hi).1⟩ fun β w3 hst hk03=>⟨_,rfl,⟨β 2,rfl,?_,hst.lt 2 (by simp[SS.n]),b,qF (hst.at_ 2 _ rfl),(hP.keep hk03 fun i hi=>.inl (hbs0 i hi).2).from hbA.size⟩,wk hk03⟩
  ·have:=hb0.size
   rcases(hst.old rfl).pos (i:=2) (by simp[SS.n]) with hm |hm
   ·rcases(hbs2 _ hm).1 with h |h
    ·exact(hbs0 _ h).1
    ·omega
   ·have:=hk02.size
    have hm':w2.heap.size<=β 2:=hm
    omega
 simp only[hu]
 refine ak (fun hneg=>?_) (fun hneg=>?_)
 ·have hneg':(ai k).size<0:=hsz ▸ hneg
  have hhd:bW k val=(ai k).vc++uv n:=by unfold bW;rw[if_pos hneg',hn]
  refine aY (w:=w0) (bs:=b0) (R:=fun(r:Nat) _ _=>r=(uv n).length) ⟨rfl,Keep.refl _ _,fun b hb=>.inl hb⟩ (fun x=>⟨rfl,trivial⟩) (fun β wc hst ho hkc=>?_) ?_
  ·refine(E3 n wc (by omega)).mono ?_
   rintro e w' ⟨v,rfl,⟨r,rfl,rfl⟩,hb'⟩
   exact⟨_,rfl,hb',rfl⟩
  rintro r wc w1 b1 hkc hr hbc1 hk01 hbs1
  obtain⟨r,rfl⟩:∃q:Nat,q=r:=⟨r,rfl⟩
  have hbs1':∀i∈b1,i∈b0∨w0.heap.size<=i:=fun i hi=>(hbs1 i hi).1
  have hr1:1<=r:=by rw[hr];exact fv n
  have hr9:r<=10:=by rw[hr];exact hul
  obtain⟨N,hN⟩:∃N,N=n+n0+r:=⟨_,rfl⟩
  have e1:i64.wrap (i64.wrap ((n:Int)+(n0:Int))+(r:Int))=((N:Nat):Int):=by rw[aq (n:=(n:Int)+n0) (by omega) (by omega),aq (by omega) (by omega)];omega
  have e2:i64.wrap ((0:Int)+(n0:Int))=(n0:Int):=by rw[aq (by omega) (by omega)];omega
  have e3:i64.wrap ((n0:Int)+(r:Int))=((n0+r:Nat):Int):=by rw[aq (by omega) (by omega)];omega
  have e4:i64.wrap (((n0+r:Nat):Int)+(n:Int))=((N:Nat):Int):=by rw[aq (by omega) (by omega)];omega
  have i1:(if N=n0 then 0 else n0*1)=n0:=by rw[if_neg (by omega)];omega
  simp only[e1,e2,e3,Int.toNat_natCast,ite_self,i1,Nat.zero_add,List.take_zero,List.nil_append]
  obtain⟨c1,c2⟩:=canB hv hk01 hbs1'
  rw[c2]
  refine aa ⟨by omega,by omega,by omega,by omega⟩ (GI ?_ ?_)
  all_goals
   refine aa (by omega) (aa c1 (aa (by omega) (aa ⟨by simp;omega,by simp[an]⟩ (ak (fun _=>?_) (fun h=>absurd hneg h)))))
   refine aa (by omega) ?_
   refine tT (w:=w0) (bs:=b0) (R:=fun(x:PU) _ _=>x=⟨r,ints (ai k).vc++(ints (uv n)++List.replicate n 0)⟩) ⟨rfl,hk01,hbs1'⟩ rfl (fun x=>⟨rfl,fun u hu=>?_,trivial⟩) (fun β w2 hst hk02=>?_) ?_
   ·simp only[pJ,List.set,List.mem_cons,List.not_mem_nil,or_false]at hu
    rcases hu with rfl |rfl
    ·exact⟨trivial,trivial,trivial,trivial,trivial,trivial,trivial⟩
    ·trivial
   ·have h1:w2.heap[β 1]?=some (.cells ((ints (ai k).vc++List.drop n0 (List.replicate N (0:Int))).map (Value.int .u8)).toArray 5 (0,0)):=hst.at_ 1 _ rfl
    have hp:=Gk (β 1) (N-n0) (N-n0) n _ _ w2 h1 (by simp;omega) (by omega) (by omega)
    have hlen:(ints (ai k).vc).length=n0:=by simp[ints,hn0]
    rw[hlen]at hp
    have hzz:List.drop (uv n).length (List.drop n0 (List.replicate N (0:Int)))=List.replicate n 0:=by
     rw[List.drop_replicate,List.drop_replicate]
     congr 1
     omega
    rw[hzz]at hp
    refine hp.mono ?_
    rintro e w' ⟨rfl,hk',hat⟩
    refine⟨⟨r,_⟩,by rw[hr];rfl,Keep.mono hk' fun b hb=>?_,?_,rfl⟩
    ·simp only[List.mem_singleton]at hb
     subst hb
     exact List.mem_map.2 ⟨1,by simp[SS.n],rfl⟩
    ·intro i o hi
     match i,hi with
     |0,hi=>
      rw[hk'.block _ (hst.lt 0 (by simp[SS.n])) fun hm=>by
       simp only[List.mem_singleton]at hm
       have:=hst.inj 0 1 (by simp[SS.n]) (by simp[SS.n]) hm
       omega]
      exact hst.at_ 0 o hi
     |1,hi=>
      simp[pJ]at hi
      subst hi
      exact hat
     |i+2,hi=>simp[pJ]at hi
   rintro x w2 w3 b3 rfl hk03 hbs3
   obtain⟨d1,d2⟩:=canB h hk03 hbs3
   simp only[e3,e4,Int.toNat_natCast,Nat.zero_add]
   rw[d2]
   have hLl:(ints (ai k).vc++(ints (uv n)++List.replicate n 0)).length=N:=by simp[ints];omega
   have hoff:(if N=n0+r then 0 else(n0+r)*1)=n0+r∨n=0:=by
    by_cases h0:n=0
    ·exact .inr h0
    ·exact .inl (by rw[if_neg (by omega)];omega)
   have hol:(if N=n0+r then 0 else(n0+r)*1)<=n0+r:=by split <;> omega
   generalize (if N=n0+r then 0 else(n0+r)*1)=off at *
   have hrow:=BD (P:=ints (ai k).vc++ints (uv n)) (Z:=List.replicate n 0) (V:=ints val) (off:=off) (n:=n) (hoff.imp (fun h=>by rw[h];simp[ints];omega) id) (by simp) (by simp[ints,hn])
   rw[List.append_assoc (ints (ai k).vc) (ints (uv n)) (List.replicate n 0)]at hrow
   rw[hrow]
   refine aa (by omega) (aa d1 (aa (by omega) (aa ⟨by rw[hLl];omega,by simp[an]⟩ (ae (fun h=>by simp at h) (fun _=>aa ?_ ?_)))))
   ·simp[ints];omega
   refine fin hk03 hbs3 ?_ ?_
   ·rw[List.drop_zero]
    refine BF ?_ ?_
    ·rw[hhd];simp[ints]
    ·rw[hhd];simp;omega
   ·rw[hhd];simp;omega
 ·have hneg':¬(ai k).size<0:=hsz ▸ hneg
  have hhd:bW k val=(ai k).vc:=by unfold bW;rw[if_neg hneg',List.append_nil]
  obtain⟨N,hN⟩:∃N,N=n+n0:=⟨_,rfl⟩
  have e1:i64.wrap ((n:Int)+(n0:Int))=((N:Nat):Int):=by rw[aq (by omega) (by omega)];omega
  have e2:i64.wrap ((0:Int)+(n0:Int))=(n0:Int):=by rw[aq (by omega) (by omega)];omega
  have e3:i64.wrap ((n0:Int)+(n:Int))=((N:Nat):Int):=by rw[aq (by omega) (by omega)];omega
  simp only[e1,e2,e3,Int.toNat_natCast,ite_self,Nat.zero_add,List.take_zero,List.nil_append]
  obtain⟨c1,c2⟩:=canB hv (Keep.refl b0 w0) fun i hi=>.inl hi
  obtain⟨d1,d2⟩:=canB h (Keep.refl b0 w0) fun i hi=>.inl hi
  rw[c2]
  refine aa ⟨by omega,by omega,by omega,by omega⟩ (GI ?_ ?_)
  all_goals
   refine aa (by omega) (aa c1 (aa (by omega) (aa ⟨by simp;omega,by simp[an]⟩ (ak (fun h=>absurd h hneg) (fun _=>?_)))))
   rw[d2]
   have hd0:List.drop n0 (List.replicate N (0:Int))=List.replicate n 0:=by
    rw[List.drop_replicate]
    congr 1
    omega
   simp only[hd0]
   have hLl:(ints (ai k).vc++List.replicate n (0:Int)).length=N:=by simp[ints];omega
   have hoff:(if N=n0 then 0 else n0*1)=n0∨n=0:=by
    by_cases h0:n=0
    ·exact .inr h0
    ·exact .inl (by rw[if_neg (by omega)];omega)
   have hol:(if N=n0 then 0 else n0*1)<=n0:=by split <;> omega
   generalize (if N=n0 then 0 else n0*1)=off at *
   have hrow:=BD (P:=ints (ai k).vc) (Z:=List.replicate n 0) (V:=ints val) (off:=off) (n:=n) (hoff.imp (fun h=>by rw[h];simp[ints];omega) id) (by simp) (by simp[ints,hn])
   rw[hrow]
   refine aa (by omega) (aa d1 (aa (by omega) (aa ⟨by rw[hLl];omega,by simp[an]⟩ (ae (fun h=>by simp at h) (fun _=>aa ?_ ?_)))))
   ·simp[ints];omega
   refine fin (Keep.refl b0 w0) (fun i hi=>.inl hi) ?_ ?_
   ·rw[List.drop_zero]
    refine BF ?_ ?_
    ·rw[hhd];simp[ints]
    ·rw[hhd];simp;omega
   ·rw[hhd];omega
end
section
open Go Go.Rx Go.RowKit
@[reducible] def eO:Hook:={ X:=Addr,out:=fun _ s x=>(.tup [.xp x,.one .nilIface rfl],s.objs) }
def xn(k:Int)(size:Int)(tr:SV):Hooks:={ calls:=fun f=>if f=74 then some eO else(PP k size tr).calls f,loops:=fun _ _=>none }
@[reducible] def ur:Hook:={ X:=Int×PV,out:=fun _ s x=>(.agg [.str x.2.name false,.int .i64 x.1 false,.xs x.2.A x.2.n x.2.c,.int .i64 x.2.size false,.bool x.2.path false,.one x.2.tr.1 x.2.tr.2],s.objs) }
def KS:Hooks:={ calls:=fun f=>if f=88 then some ur else none,loops:=fun _ _=>none }
noncomputable abbrev iW(k0_ k1_:Nat):List SV:=[(.fn (.func k0_) [] []),(.fn (.func k1_) [] []),(.one .nilFunc rfl)]
noncomputable abbrev cY:ByteArray:=(ByteArray.mk #[117,110,115,117,112,112,111,114,116,101,100,32,112,114,111,116,111,99,111,108,58])
noncomputable abbrev cT:SV:=(.tup [(.one (.pointer none) rfl),(.ifc 105 (.ptr 1 0))])
noncomputable abbrev uQ:SV:=(SV.ifc 147 (SV.agg [SV.fn (Fn.func 165) [] [],SV.fn (Fn.func 166) [] [],SV.one Value.nilFunc rfl]))
noncomputable abbrev pR(k:Int)(x0:(Hook.X (bS k (16:Int) uQ))):List SV:=[(.str x0.name false),(.int .i64 k false),(.xs x0.A x0.n x0.c),(.int .i64 16 true),(.bool x0.path false),(.ifc 147 (.agg (iW 165 166)))]
noncomputable abbrev pY(k:Int)(x0:(Hook.X (bS k (16:Int) uQ)))(w0:World)(b0:List Nat):SS:=(SS.mk [(.cells (pR k x0) 6 88 0 0),(.cells (iW 165 166) 3 147 0 0)] [] true w0 b0)
theorem Pa(k:Int)(nm s:ByteArray)(w:World):al Tryz.prog (xn k 16 tq) 3000 45 [.str nm false,.str s false] (SS.mk [] [] true w []) =
(.hc 73 [(.str nm false)] (SS.mk [] [] true w []) (bS k (16:Int) uQ) fun x0 w0 b0=>(.split (k == (0:Int)) (.leaf .ret [cT] (SS.mk [(.cells (pR k x0) 6 88 0 0),(.cells [(.str cY true)] 1 107 0 0)] [] true w0 b0)) (.hc 165 [(.str s false)] (pY k x0 w0 b0) (iO) fun x1 w1 b1=>(.hc 74 [(.agg (pR k x0)),(.xs x1.A x1.k x1.c)] (pY k x0 w1 b1) (eO) fun x2 w2 b2=>(.leaf .ret [(.tup [(.xp x2),(.one .nilIface rfl)])] (pY k x0 w2 b2)))))):=by kernel_rfl
theorem mP(k:Int)(nm s:ByteArray)(w:World):(by have h:=Pa k nm s w;unfold pY pR uQ cT cY iW at h;exact type_of% h):=Pa k nm s w
noncomputable abbrev uR:SV:=(SV.ifc 147 (SV.agg [SV.fn (Fn.func 163) [] [],SV.fn (Fn.func 164) [] [],SV.one Value.nilFunc rfl]))
noncomputable abbrev pS(k:Int)(x0:(Hook.X (bS k (32:Int) uR))):List SV:=[(.str x0.name false),(.int .i64 k false),(.xs x0.A x0.n x0.c),(.int .i64 32 true),(.bool x0.path false),(.ifc 147 (.agg (iW 163 164)))]
noncomputable abbrev pZ(k:Int)(x0:(Hook.X (bS k (32:Int) uR)))(w0:World)(b0:List Nat):SS:=(SS.mk [(.cells (pS k x0) 6 88 0 0),(.cells (iW 163 164) 3 147 0 0)] [] true w0 b0)
theorem O7(k:Int)(nm s:ByteArray)(w:World):al Tryz.prog (xn k 32 yp) 3000 45 [.str nm false,.str s false] (SS.mk [] [] true w []) =
(.hc 73 [(.str nm false)] (SS.mk [] [] true w []) (bS k (32:Int) uR) fun x0 w0 b0=>(.split (k == (0:Int)) (.leaf .ret [cT] (SS.mk [(.cells (pS k x0) 6 88 0 0),(.cells [(.str cY true)] 1 107 0 0)] [] true w0 b0)) (.hc 163 [(.str s false)] (pZ k x0 w0 b0) (iO) fun x1 w1 b1=>(.hc 74 [(.agg (pS k x0)),(.xs x1.A x1.k x1.c)] (pZ k x0 w1 b1) (eO) fun x2 w2 b2=>(.leaf .ret [(.tup [(.xp x2),(.one .nilIface rfl)])] (pZ k x0 w2 b2)))))):=by kernel_rfl
theorem mF(k:Int)(nm s:ByteArray)(w:World):(by have h:=O7 k nm s w;unfold pZ pS uR cT cY iW at h;exact type_of% h):=O7 k nm s w
noncomputable abbrev pP:SV:=(SV.ifc 147 (SV.agg [SV.fn (Fn.func 170) [] [],SV.fn (Fn.func 171) [] [],SV.one Value.nilFunc rfl]))
noncomputable abbrev pQ(k:Int)(x0:(Hook.X (bS k (128:Int) pP))):List SV:=[(.str x0.name false),(.int .i64 k false),(.xs x0.A x0.n x0.c),(.int .i64 128 true),(.bool x0.path false),(.ifc 147 (.agg (iW 170 171)))]
noncomputable abbrev p5(k:Int)(x0:(Hook.X (bS k (128:Int) pP)))(w0:World)(b0:List Nat):SS:=(SS.mk [(.cells (pQ k x0) 6 88 0 0),(.cells (iW 170 171) 3 147 0 0)] [] true w0 b0)
theorem Pb(k:Int)(nm s:ByteArray)(w:World):al Tryz.prog (xn k 128 yr) 3000 45 [.str nm false,.str s false] (SS.mk [] [] true w []) =
(.hc 73 [(.str nm false)] (SS.mk [] [] true w []) (bS k (128:Int) pP) fun x0 w0 b0=>(.split (k == (0:Int)) (.leaf .ret [cT] (SS.mk [(.cells (pQ k x0) 6 88 0 0),(.cells [(.str cY true)] 1 107 0 0)] [] true w0 b0)) (.hc 170 [(.str s false)] (p5 k x0 w0 b0) (iO) fun x1 w1 b1=>(.hc 74 [(.agg (pQ k x0)),(.xs x1.A x1.k x1.c)] (p5 k x0 w1 b1) (eO) fun x2 w2 b2=>(.leaf .ret [(.tup [(.xp x2),(.one .nilIface rfl)])] (p5 k x0 w2 b2)))))):=by kernel_rfl
theorem mS(k:Int)(nm s:ByteArray)(w:World):(by have h:=Pb k nm s w;unfold p5 pQ pP cT cY iW at h;exact type_of% h):=Pb k nm s w
noncomputable abbrev dE(k0_ k1_ k2_:Nat):List SV:=[(.fn (.func k0_) [] []),(.fn (.func k1_) [] []),(.fn (.func k2_) [] [])]
noncomputable abbrev pX(k:Int)(x0:(Hook.X (bS k (8:Int) (SV.ifc 147 (SV.agg [SV.fn (Fn.func 175) [] [],SV.fn (Fn.func 176) [] [],SV.fn (Fn.func 177) [] []]))))):List SV:=[(.str x0.name false),(.int .i64 k false),(.xs x0.A x0.n x0.c),(.int .i64 8 true),(.bool x0.path false),(.ifc 147 (.agg (dE 175 176 177)))]
noncomputable abbrev p7(k:Int)(x0:(Hook.X (bS k (8:Int) (SV.ifc 147 (SV.agg [SV.fn (Fn.func 175) [] [],SV.fn (Fn.func 176) [] [],SV.fn (Fn.func 177) [] []])))))(w0:World)(b0:List Nat):SS:=(SS.mk [(.cells (pX k x0) 6 88 0 0),(.cells (dE 175 176 177) 3 147 0 0)] [] true w0 b0)
theorem O3(k:Int)(nm s:ByteArray)(w:World):al Tryz.prog (xn k 8 yn) 3000 45 [.str nm false,.str s false] (SS.mk [] [] true w []) =
(.hc 73 [(.str nm false)] (SS.mk [] [] true w []) (bS k (8:Int) (SV.ifc 147 (SV.agg [SV.fn (Fn.func 175) [] [],SV.fn (Fn.func 176) [] [],SV.fn (Fn.func 177) [] []]))) fun x0 w0 b0=>(.split (k == (0:Int)) (.leaf .ret [cT] (SS.mk [(.cells (pX k x0) 6 88 0 0),(.cells [(.str cY true)] 1 107 0 0)] [] true w0 b0)) (.hc 175 [(.str s false)] (p7 k x0 w0 b0) (iO) fun x1 w1 b1=>(.hc 74 [(.agg (pX k x0)),(.xs x1.A x1.k x1.c)] (p7 k x0 w1 b1) (eO) fun x2 w2 b2=>(.leaf .ret [(.tup [(.xp x2),(.one .nilIface rfl)])] (p7 k x0 w2 b2)))))):=by kernel_rfl
theorem mC(k:Int)(nm s:ByteArray)(w:World):(by have h:=O3 k nm s w;unfold p7 pX cT cY dE at h;exact type_of% h):=O3 k nm s w
noncomputable abbrev pW(k:Int)(x0:(Hook.X (bS k (64:Int) (SV.ifc 147 (SV.agg [SV.fn (Fn.func 202) [] [],SV.fn (Fn.func 203) [] [],SV.fn (Fn.func 204) [] []]))))):List SV:=[(.str x0.name false),(.int .i64 k false),(.xs x0.A x0.n x0.c),(.int .i64 64 true),(.bool x0.path false),(.ifc 147 (.agg (dE 202 203 204)))]
noncomputable abbrev p8(k:Int)(x0:(Hook.X (bS k (64:Int) (SV.ifc 147 (SV.agg [SV.fn (Fn.func 202) [] [],SV.fn (Fn.func 203) [] [],SV.fn (Fn.func 204) [] []])))))(w0:World)(b0:List Nat):SS:=(SS.mk [(.cells (pW k x0) 6 88 0 0),(.cells (dE 202 203 204) 3 147 0 0)] [] true w0 b0)
theorem O8(k:Int)(nm s:ByteArray)(w:World):al Tryz.prog (xn k 64 yq) 3000 45 [.str nm false,.str s false] (SS.mk [] [] true w []) =
(.hc 73 [(.str nm false)] (SS.mk [] [] true w []) (bS k (64:Int) (SV.ifc 147 (SV.agg [SV.fn (Fn.func 202) [] [],SV.fn (Fn.func 203) [] [],SV.fn (Fn.func 204) [] []]))) fun x0 w0 b0=>(.split (k == (0:Int)) (.leaf .ret [cT] (SS.mk [(.cells (pW k x0) 6 88 0 0),(.cells [(.str cY true)] 1 107 0 0)] [] true w0 b0)) (.hc 202 [(.str s false)] (p8 k x0 w0 b0) (iO) fun x1 w1 b1=>(.hc 74 [(.agg (pW k x0)),(.xs x1.A x1.k x1.c)] (p8 k x0 w1 b1) (eO) fun x2 w2 b2=>(.leaf .ret [(.tup [(.xp x2),(.one .nilIface rfl)])] (p8 k x0 w2 b2)))))):=by kernel_rfl
theorem mM(k:Int)(nm s:ByteArray)(w:World):(by have h:=O8 k nm s w;unfold p8 pW cT cY dE at h;exact type_of% h):=O8 k nm s w
noncomputable abbrev pT(k:Int)(x0:(Hook.X (bS k (-1:Int) (SV.ifc 147 (SV.agg [SV.fn (Fn.func 167) [] [],SV.fn (Fn.func 168) [] [],SV.fn (Fn.func 169) [] []]))))):List SV:=[(.str x0.name false),(.int .i64 k false),(.xs x0.A x0.n x0.c),(.int .i64 (-1) true),(.bool x0.path false),(.ifc 147 (.agg (dE 167 168 169)))]
noncomputable abbrev p9(k:Int)(x0:(Hook.X (bS k (-1:Int) (SV.ifc 147 (SV.agg [SV.fn (Fn.func 167) [] [],SV.fn (Fn.func 168) [] [],SV.fn (Fn.func 169) [] []])))))(w0:World)(b0:List Nat):SS:=(SS.mk [(.cells (pT k x0) 6 88 0 0),(.cells (dE 167 168 169) 3 147 0 0)] [] true w0 b0)
theorem O5(k:Int)(nm s:ByteArray)(w:World):al Tryz.prog (xn k (-1) yN) 3000 45 [.str nm false,.str s false] (SS.mk [] [] true w []) =
(.hc 73 [(.str nm false)] (SS.mk [] [] true w []) (bS k (-1:Int) (SV.ifc 147 (SV.agg [SV.fn (Fn.func 167) [] [],SV.fn (Fn.func 168) [] [],SV.fn (Fn.func 169) [] []]))) fun x0 w0 b0=>(.split (k == (0:Int)) (.leaf .ret [cT] (SS.mk [(.cells (pT k x0) 6 88 0 0),(.cells [(.str cY true)] 1 107 0 0)] [] true w0 b0)) (.hc 167 [(.str s false)] (p9 k x0 w0 b0) (iO) fun x1 w1 b1=>(.hc 74 [(.agg (pT k x0)),(.xs x1.A x1.k x1.c)] (p9 k x0 w1 b1) (eO) fun x2 w2 b2=>(.leaf .ret [(.tup [(.xp x2),(.one .nilIface rfl)])] (p9 k x0 w2 b2)))))):=by kernel_rfl
theorem mD(k:Int)(nm s:ByteArray)(w:World):(by have h:=O5 k nm s w;unfold p9 pT cT cY dE at h;exact type_of% h):=O5 k nm s w
noncomputable abbrev pU(k:Int)(x0:(Hook.X (bS k (-1:Int) (SV.ifc 147 (SV.agg [SV.fn (Fn.func 172) [] [],SV.fn (Fn.func 173) [] [],SV.fn (Fn.func 174) [] []]))))):List SV:=[(.str x0.name false),(.int .i64 k false),(.xs x0.A x0.n x0.c),(.int .i64 (-1) true),(.bool x0.path false),(.ifc 147 (.agg (dE 172 173 174)))]
noncomputable abbrev qa(k:Int)(x0:(Hook.X (bS k (-1:Int) (SV.ifc 147 (SV.agg [SV.fn (Fn.func 172) [] [],SV.fn (Fn.func 173) [] [],SV.fn (Fn.func 174) [] []])))))(w0:World)(b0:List Nat):SS:=(SS.mk [(.cells (pU k x0) 6 88 0 0),(.cells (dE 172 173 174) 3 147 0 0)] [] true w0 b0)
theorem Pd(k:Int)(nm s:ByteArray)(w:World):al Tryz.prog (xn k (-1) yP) 3000 45 [.str nm false,.str s false] (SS.mk [] [] true w []) =
(.hc 73 [(.str nm false)] (SS.mk [] [] true w []) (bS k (-1:Int) (SV.ifc 147 (SV.agg [SV.fn (Fn.func 172) [] [],SV.fn (Fn.func 173) [] [],SV.fn (Fn.func 174) [] []]))) fun x0 w0 b0=>(.split (k == (0:Int)) (.leaf .ret [cT] (SS.mk [(.cells (pU k x0) 6 88 0 0),(.cells [(.str cY true)] 1 107 0 0)] [] true w0 b0)) (.hc 172 [(.str s false)] (qa k x0 w0 b0) (iO) fun x1 w1 b1=>(.hc 74 [(.agg (pU k x0)),(.xs x1.A x1.k x1.c)] (qa k x0 w1 b1) (eO) fun x2 w2 b2=>(.leaf .ret [(.tup [(.xp x2),(.one .nilIface rfl)])] (qa k x0 w2 b2)))))):=by kernel_rfl
theorem mZ(k:Int)(nm s:ByteArray)(w:World):(by have h:=Pd k nm s w;unfold qa pU cT cY dE at h;exact type_of% h):=Pd k nm s w
noncomputable abbrev pV(k:Int)(x0:(Hook.X (bS k (-1:Int) (SV.ifc 147 (SV.agg [SV.fn (Fn.func 199) [] [],SV.fn (Fn.func 200) [] [],SV.fn (Fn.func 201) [] []]))))):List SV:=[(.str x0.name false),(.int .i64 k false),(.xs x0.A x0.n x0.c),(.int .i64 (-1) true),(.bool x0.path false),(.ifc 147 (.agg (dE 199 200 201)))]
noncomputable abbrev qb(k:Int)(x0:(Hook.X (bS k (-1:Int) (SV.ifc 147 (SV.agg [SV.fn (Fn.func 199) [] [],SV.fn (Fn.func 200) [] [],SV.fn (Fn.func 201) [] []])))))(w0:World)(b0:List Nat):SS:=(SS.mk [(.cells (pV k x0) 6 88 0 0),(.cells (dE 199 200 201) 3 147 0 0)] [] true w0 b0)
theorem Pc(k:Int)(nm s:ByteArray)(w:World):al Tryz.prog (xn k (-1) yO) 3000 45 [.str nm false,.str s false] (SS.mk [] [] true w []) =
(.hc 73 [(.str nm false)] (SS.mk [] [] true w []) (bS k (-1:Int) (SV.ifc 147 (SV.agg [SV.fn (Fn.func 199) [] [],SV.fn (Fn.func 200) [] [],SV.fn (Fn.func 201) [] []]))) fun x0 w0 b0=>(.split (k == (0:Int)) (.leaf .ret [cT] (SS.mk [(.cells (pV k x0) 6 88 0 0),(.cells [(.str cY true)] 1 107 0 0)] [] true w0 b0)) (.hc 199 [(.str s false)] (qb k x0 w0 b0) (iO) fun x1 w1 b1=>(.hc 74 [(.agg (pV k x0)),(.xs x1.A x1.k x1.c)] (qb k x0 w1 b1) (eO) fun x2 w2 b2=>(.leaf .ret [(.tup [(.xp x2),(.one .nilIface rfl)])] (qb k x0 w2 b2)))))):=by kernel_rfl
theorem mU(k:Int)(nm s:ByteArray)(w:World):(by have h:=Pc k nm s w;unfold qb pV cT cY dE at h;exact type_of% h):=Pc k nm s w
noncomputable abbrev nQ(k:Int)(x0:(Hook.X (bS k (0:Int) (SV.one Value.nilIface rfl)))):List SV:=[(.str x0.name false),(.int .i64 k false),(.xs x0.A x0.n x0.c),(.int .i64 0 true),(.bool x0.path false),(.one .nilIface rfl)]
theorem O9(k:Int)(nm s:ByteArray)(w:World):al Tryz.prog (xn k 0 xq) 3000 45 [.str nm false,.str s false] (SS.mk [] [] true w []) =
(.hc 73 [(.str nm false)] (SS.mk [] [] true w []) (bS k (0:Int) (SV.one Value.nilIface rfl)) fun x0 w0 b0=>(.split (k == (0:Int)) (.leaf .ret [cT] (SS.mk [(.cells (nQ k x0) 6 88 0 0),(.cells [(.str cY true)] 1 107 0 0)] [] true w0 b0)) (.split (!s.toList == (ByteArray.mk #[]).toList) (.leaf .ret [cT] (SS.mk [(.cells (nQ k x0) 6 88 0 0),(.cells [(.str (ByteArray.mk #[112,114,111,116,111,99,111,108,32,100,111,101,115,110,39,116,32,116,97,107,101,32,97,32,118,97,108,117,101]) true)] 1 107 0 0)] [] true w0 b0)) (.hc 74 [(.agg (nQ k x0)),(.one (.slice none 0 0) rfl)] (SS.mk [(.cells (nQ k x0) 6 88 0 0)] [] true w0 b0) (eO) fun x1 w1 b1=>(.leaf .ret [(.tup [(.xp x1),(.one .nilIface rfl)])] (SS.mk [(.cells (nQ k x0) 6 88 0 0)] [] true w1 b1)))))):=by kernel_rfl
theorem mN(k:Int)(nm s:ByteArray)(w:World):(by have h:=O9 k nm s w;unfold cT nQ cY at h;exact type_of% h):=O9 k nm s w
noncomputable abbrev Fh(w:World):SS:=(SS.mk [(.cells [(.str (ByteArray.mk #[]) true),(.int .i64 0 true),(.one (.slice none 0 0) rfl),(.int .i64 0 true),(.bool false true),(.one .nilIface rfl)] 6 88 0 0)] [] true w [])
noncomputable abbrev zP(x0:(Hook.X (ur))):List SV:=[(.str x0.snd.name false),(.int .i64 x0.fst false),(.xs x0.snd.A x0.snd.n x0.snd.c),(.int .i64 x0.snd.size false),(.bool x0.snd.path false),(.one (x0.snd.tr).1 (x0.snd.tr).2)]
theorem Mz(nm:ByteArray)(w:World):al Tryz.prog KS 300 73 [.str nm false] (SS.mk [] [] true w []) =
(.hc 88 [(.str nm false)] (Fh w) (ur) fun x0 w0 b0=>(.leaf .ret [(.agg (zP x0))] (SS.mk [(.cells (zP x0) 6 88 0 0)] [] true w0 b0))):=by kernel_rfl
theorem Rp(nm:ByteArray)(w:World):(by have h:=Mz nm w;unfold zP Fh at h;exact type_of% h):=Mz nm w
end
section
open Go Go.Rx Go.RowKit
theorem cG(k:Int)(hk:k∈bc)(w:World):Calls Tryz.prog 73 #[.string ⟨(ai k).name.toArray⟩] w (bB (J9 k w) w):=by
 refine aF (hk:=KS) (n:=300) (args:=[.str ⟨(ai k).name.toArray⟩ false]) ⟨trivial,trivial⟩ ?_
 refine ah (Rp _ w) ?_
 refine c7 (R:=fun(x:Int×PV) w0 w'=>x.1=k/\x.2.Is k/\Fresh w0 x.2.A/\Bts w' w'.heap.size x.2.A x.2.n (ai k).vc) (Fine.start w _) (fun x=>⟨rfl,trivial,trivial,trivial,trivial,trivial,trivial,trivial⟩) (fun β w0 hst ho hb=>?_) ?_
 ·refine(Gf k hk w0).mono ?_
  rintro e w' ⟨v,rfl,⟨x,rfl,h1⟩,hb'⟩
  exact⟨⟨k,x⟩,rfl,hb',rfl,h1⟩
 rintro⟨k',x⟩ w0 w1 bs hb0 ⟨rfl,h1,h3,h4⟩ hb1 hb hbs
 dsimp only at *
 refine aQ (Fine.mk' hb fun b hb=>(hbs b hb).1) fun β w2 hst hb2=>⟨x,rfl,h1,h3.mono hb0.size,?_⟩
 have o:=hst.old rfl
 exact(o.bts h4 (Nat.le_refl _) (h3.notin fun b hb=>(hbs b hb).2)).mono o.sz
theorem Ll{k:Int}{val txt:List UInt8}(hs:Simple k val txt)(hsz:(ai k).size=16)(htr:∀β,tq.den β=(ai k).tr)(hl:val.length<=2147483647)(w:World)(ht:Tens w)
  (hc:∀w1,Below w.heap.size w w1->Calls Tryz.prog 165 #[.string ⟨txt.toArray⟩] w1 (bB (SQ val w1) w1)) :
  Calls Tryz.prog 45 #[.string ⟨(ai k).name.toArray⟩,.string ⟨txt.toArray⟩] w (bB (pk k val w) w):=by
 have hk:=hs.tab
 refine aF (hk:=xn k 16 tq) (n:=3000) (args:=[.str ⟨(ai k).name.toArray⟩ false,.str ⟨txt.toArray⟩ false]) ⟨trivial,trivial,trivial⟩ ?_
 refine ah (mP k _ _ w) ?_
 refine c7 (R:=fun(x:PV) w0 w'=>Fresh w0 x.A/\Bts w' w'.heap.size x.A x.n (ai k).vc) (Fine.start w _) (fun x=>⟨rfl,by simp[SV.ok,be]⟩) (fun β w0 hst ho hb=>?_) ?_
 ·refine(cG k hk w0).mono ?_
  rintro e w' ⟨v,rfl,⟨x,rfl,hx,h1⟩,hb'⟩
  refine⟨x,?_,hb',h1⟩
  show Ending.returned (Value.agg #[.string x.name,.int .i64 k,.slice x.A x.n x.c,.int .i64 x.size,.bool x.path,x.tr.1])=.returned (.agg #[.string x.name,.int .i64 k,.slice x.A x.n x.c,.int .i64 16,.bool x.path,tq.den β])
  rw[hx.size,hsz,hx.tr,htr]
 rintro x wA w0 b0 hbA ⟨hfr,hbt⟩ hbA0 hb0 hbs0
 have wk:∀ {w':World},Keep b0 w0 w'->Below w.heap.size w w':=fun hk=>hk.below hb0 (Nat.le_refl _) fun i hi=>(hbs0 i hi).1
 have hpos:0<x.n:=by
  have:=(dh k hk).1
  have:=hbt.1
  omega
 obtain⟨a,ha,hal,_⟩:=hbt.2 hpos
 have ha0:wA.heap.size<=a.block:=hfr a ha
 refine ae (fun h=>?_) (fun _=>?_)
 ·have:k=0:=by simpa using h
  subst this
  exact absurd hk (by decide)
 refine aY (w:=w0) (bs:=b0) (R:=fun(y:UV) wc w'=>∃b o,y.A=some ⟨b,o,none⟩/\y.k=val.length/\Bts w' w'.heap.size y.A y.k val/\wc.heap.size<=b) ⟨rfl,Keep.refl _ _,fun b hb=>.inl hb⟩ (fun y=>⟨rfl,trivial,trivial,trivial⟩) (fun β wc hst ho hkc=>?_) ?_
 ·refine(hc wc (wk hkc)).mono ?_
  rintro e w' ⟨v,rfl,⟨b,o,c,rfl,h1,h2,h3⟩,hb'⟩
  exact⟨⟨_,_,_⟩,rfl,hb',b,o,rfl,rfl,h2,h3⟩
 rintro⟨A1,k1,c1⟩ wc w2 b2 hkc ⟨b,o,rfl,rfl,hv,hge⟩ hbc2 hk02 hbs2
 dsimp only at hv
 have hbt2:Bts w2 w2.heap.size x.A x.n (ai k).vc:=by
  rw[ha]at hbt ⊢
  exact bd hbt hk02 fun hm=>by have:=(hbs0 _ hm).2;omega
 have hv':∀ {w':World},Keep b2 w2 w'->Bts w' w'.heap.size (some ⟨b,o,none⟩) val.length val:=fun hk'=>bd hv hk' fun hm=>by
  have:=(hbs2 _ hm).2
  have:wc.heap.size<=b:=hge
  simp at *
  omega
 have hbt':∀ {w':World},Keep b2 w2 w'->Bts w' w'.heap.size x.A x.n (ai k).vc:=fun hk'=>by
  rw[ha]at hbt2 ⊢
  exact bd hbt2 hk' fun hm=>by
   rcases(hbs2 _ hm).1 with h |h
   ·have:=(hbs0 _ h).2;omega
   ·omega
 have hge2:∀i∈b2,w.heap.size<=i:=fun i hi=>by
  have:=hb0.size
  rcases(hbs2 i hi).1 with h |h
  ·exact(hbs0 i h).1
  ·omega
 refine aY (w:=w2) (bs:=b2) (R:=fun(p:Addr) wd w'=>∃q,p=⟨q,0,none⟩/\CN wd q k val w') ⟨rfl,Keep.refl _ _,fun b hb=>.inl hb⟩ (fun y=>⟨rfl,trivial,trivial,trivial⟩) (fun β wd hst ho hkd=>?_) ?_
 ·have hwd:=hkd.below (wk hk02) (Nat.le_refl _) hge2
  have hcall:=dm hs x.name x.A x.n x.c x.path ⟨(ai k).tr,fu k hk⟩ (some ⟨b,o,none⟩) val.length c1 wd.heap.size wd (hv' hkd) (hbt' hkd) (Nat.le_refl _) (ht.below hwd ht.lt) hl
  show Calls Tryz.prog 74 #[.agg #[.string x.name,.int .i64 k,.slice x.A x.n x.c,.int .i64 16,.bool x.path,tq.den β],.slice (some ⟨b,o,none⟩) val.length c1] wd _
  rw[htr β,<- hsz]
  refine hcall.mono ?_
  rintro e w' ⟨v,rfl,⟨p,rfl,h1⟩,hb'⟩
  exact⟨⟨p,0,none⟩,rfl,hb',p,rfl,h1⟩
 rintro p wd w3 b3 hkd ⟨q,rfl,hC⟩ hbd3 cz hbs3
 have hb3:Below w.heap.size w w3:=cz.below (wk hk02) (Nat.le_refl _) hge2
 refine jf (w:=w) (Fine.mk' hb3 fun i hi=>?_) fun β w4 hst hb4=>⟨_,rfl,⟨q,rfl,(CN.old (hst.old rfl) rfl hC fun i hi=>(hbs3 i hi).2).from (hkd.below (wk hk02) (Nat.le_refl _) hge2).size⟩,hb4⟩
 ·have:=(wk hk02).size
  rcases(hbs3 i hi).1 with h |h
  ·exact hge2 i h
  ·omega
theorem Li{k:Int}{val txt:List UInt8}(hs:Simple k val txt)(hsz:(ai k).size=32)(htr:∀β,yp.den β=(ai k).tr)(hl:val.length<=2147483647)(w:World)(ht:Tens w)
  (hc:∀w1,Below w.heap.size w w1->Calls Tryz.prog 163 #[.string ⟨txt.toArray⟩] w1 (bB (SQ val w1) w1)) :
  Calls Tryz.prog 45 #[.string ⟨(ai k).name.toArray⟩,.string ⟨txt.toArray⟩] w (bB (pk k val w) w):=by
 have hk:=hs.tab
 refine aF (hk:=xn k 32 yp) (n:=3000) (args:=[.str ⟨(ai k).name.toArray⟩ false,.str ⟨txt.toArray⟩ false]) ⟨trivial,trivial,trivial⟩ ?_
 refine ah (mF k _ _ w) ?_
 refine c7 (R:=fun(x:PV) w0 w'=>Fresh w0 x.A/\Bts w' w'.heap.size x.A x.n (ai k).vc) (Fine.start w _) (fun x=>⟨rfl,by simp[SV.ok,be]⟩) (fun β w0 hst ho hb=>?_) ?_
 ·refine(cG k hk w0).mono ?_
  rintro e w' ⟨v,rfl,⟨x,rfl,hx,h1⟩,hb'⟩
  refine⟨x,?_,hb',h1⟩
  show Ending.returned (Value.agg #[.string x.name,.int .i64 k,.slice x.A x.n x.c,.int .i64 x.size,.bool x.path,x.tr.1])=.returned (.agg #[.string x.name,.int .i64 k,.slice x.A x.n x.c,.int .i64 32,.bool x.path,yp.den β])
  rw[hx.size,hsz,hx.tr,htr]
 rintro x wA w0 b0 hbA ⟨hfr,hbt⟩ hbA0 hb0 hbs0
 have wk:∀ {w':World},Keep b0 w0 w'->Below w.heap.size w w':=fun hk=>hk.below hb0 (Nat.le_refl _) fun i hi=>(hbs0 i hi).1
 have hpos:0<x.n:=by
  have:=(dh k hk).1
  have:=hbt.1
  omega
 obtain⟨a,ha,hal,_⟩:=hbt.2 hpos
 have ha0:wA.heap.size<=a.block:=hfr a ha
 refine ae (fun h=>?_) (fun _=>?_)
 ·have:k=0:=by simpa using h
  subst this
  exact absurd hk (by decide)
 refine aY (w:=w0) (bs:=b0) (R:=fun(y:UV) wc w'=>∃b o,y.A=some ⟨b,o,none⟩/\y.k=val.length/\Bts w' w'.heap.size y.A y.k val/\wc.heap.size<=b) ⟨rfl,Keep.refl _ _,fun b hb=>.inl hb⟩ (fun y=>⟨rfl,trivial,trivial,trivial⟩) (fun β wc hst ho hkc=>?_) ?_
 ·refine(hc wc (wk hkc)).mono ?_
  rintro e w' ⟨v,rfl,⟨b,o,c,rfl,h1,h2,h3⟩,hb'⟩
  exact⟨⟨_,_,_⟩,rfl,hb',b,o,rfl,rfl,h2,h3⟩
 rintro⟨A1,k1,c1⟩ wc w2 b2 hkc ⟨b,o,rfl,rfl,hv,hge⟩ hbc2 hk02 hbs2
 dsimp only at hv
 have hbt2:Bts w2 w2.heap.size x.A x.n (ai k).vc:=by
  rw[ha]at hbt ⊢
  exact bd hbt hk02 fun hm=>by have:=(hbs0 _ hm).2;omega
 have hv':∀ {w':World},Keep b2 w2 w'->Bts w' w'.heap.size (some ⟨b,o,none⟩) val.length val:=fun hk'=>bd hv hk' fun hm=>by
  have:=(hbs2 _ hm).2
  have:wc.heap.size<=b:=hge
  simp at *
  omega
 have hbt':∀ {w':World},Keep b2 w2 w'->Bts w' w'.heap.size x.A x.n (ai k).vc:=fun hk'=>by
  rw[ha]at hbt2 ⊢
  exact bd hbt2 hk' fun hm=>by
   rcases(hbs2 _ hm).1 with h |h
   ·have:=(hbs0 _ h).2;omega
   ·omega
 have hge2:∀i∈b2,w.heap.size<=i:=fun i hi=>by
  have:=hb0.size
  rcases(hbs2 i hi).1 with h |h
  ·exact(hbs0 i h).1
  ·omega
 refine aY (w:=w2) (bs:=b2) (R:=fun(p:Addr) wd w'=>∃q,p=⟨q,0,none⟩/\CN wd q k val w') ⟨rfl,Keep.refl _ _,fun b hb=>.inl hb⟩ (fun y=>⟨rfl,trivial,trivial,trivial⟩) (fun β wd hst ho hkd=>?_) ?_
 ·have hwd:=hkd.below (wk hk02) (Nat.le_refl _) hge2
  have hcall:=dm hs x.name x.A x.n x.c x.path ⟨(ai k).tr,fu k hk⟩ (some ⟨b,o,none⟩) val.length c1 wd.heap.size wd (hv' hkd) (hbt' hkd) (Nat.le_refl _) (ht.below hwd ht.lt) hl
  show Calls Tryz.prog 74 #[.agg #[.string x.name,.int .i64 k,.slice x.A x.n x.c,.int .i64 32,.bool x.path,yp.den β],.slice (some ⟨b,o,none⟩) val.length c1] wd _
  rw[htr β,<- hsz]
  refine hcall.mono ?_
  rintro e w' ⟨v,rfl,⟨p,rfl,h1⟩,hb'⟩
  exact⟨⟨p,0,none⟩,rfl,hb',p,rfl,h1⟩
 rintro p wd w3 b3 hkd ⟨q,rfl,hC⟩ hbd3 cz hbs3
 have hb3:Below w.heap.size w w3:=cz.below (wk hk02) (Nat.le_refl _) hge2
 refine jf (w:=w) (Fine.mk' hb3 fun i hi=>?_) fun β w4 hst hb4=>⟨_,rfl,⟨q,rfl,(CN.old (hst.old rfl) rfl hC fun i hi=>(hbs3 i hi).2).from (hkd.below (wk hk02) (Nat.le_refl _) hge2).size⟩,hb4⟩
 ·have:=(wk hk02).size
  rcases(hbs3 i hi).1 with h |h
  ·exact hge2 i h
  ·omega
theorem Lm{k:Int}{val txt:List UInt8}(hs:Simple k val txt)(hsz:(ai k).size=128)(htr:∀β,yr.den β=(ai k).tr)(hl:val.length<=2147483647)(w:World)(ht:Tens w)
  (hc:∀w1,Below w.heap.size w w1->Calls Tryz.prog 170 #[.string ⟨txt.toArray⟩] w1 (bB (SQ val w1) w1)) :
  Calls Tryz.prog 45 #[.string ⟨(ai k).name.toArray⟩,.string ⟨txt.toArray⟩] w (bB (pk k val w) w):=by
 have hk:=hs.tab
 refine aF (hk:=xn k 128 yr) (n:=3000) (args:=[.str ⟨(ai k).name.toArray⟩ false,.str ⟨txt.toArray⟩ false]) ⟨trivial,trivial,trivial⟩ ?_
 refine ah (mS k _ _ w) ?_
 refine c7 (R:=fun(x:PV) w0 w'=>Fresh w0 x.A/\Bts w' w'.heap.size x.A x.n (ai k).vc) (Fine.start w _) (fun x=>⟨rfl,by simp[SV.ok,be]⟩) (fun β w0 hst ho hb=>?_) ?_
 ·refine(cG k hk w0).mono ?_
  rintro e w' ⟨v,rfl,⟨x,rfl,hx,h1⟩,hb'⟩
  refine⟨x,?_,hb',h1⟩
  show Ending.returned (Value.agg #[.string x.name,.int .i64 k,.slice x.A x.n x.c,.int .i64 x.size,.bool x.path,x.tr.1])=.returned (.agg #[.string x.name,.int .i64 k,.slice x.A x.n x.c,.int .i64 128,.bool x.path,yr.den β])
  rw[hx.size,hsz,hx.tr,htr]
 rintro x wA w0 b0 hbA ⟨hfr,hbt⟩ hbA0 hb0 hbs0
 have wk:∀ {w':World},Keep b0 w0 w'->Below w.heap.size w w':=fun hk=>hk.below hb0 (Nat.le_refl _) fun i hi=>(hbs0 i hi).1
 have hpos:0<x.n:=by
  have:=(dh k hk).1
  have:=hbt.1
  omega
 obtain⟨a,ha,hal,_⟩:=hbt.2 hpos
 have ha0:wA.heap.size<=a.block:=hfr a ha
 refine ae (fun h=>?_) (fun _=>?_)
 ·have:k=0:=by simpa using h
  subst this
  exact absurd hk (by decide)
 refine aY (w:=w0) (bs:=b0) (R:=fun(y:UV) wc w'=>∃b o,y.A=some ⟨b,o,none⟩/\y.k=val.length/\Bts w' w'.heap.size y.A y.k val/\wc.heap.size<=b) ⟨rfl,Keep.refl _ _,fun b hb=>.inl hb⟩ (fun y=>⟨rfl,trivial,trivial,trivial⟩) (fun β wc hst ho hkc=>?_) ?_
 ·refine(hc wc (wk hkc)).mono ?_
  rintro e w' ⟨v,rfl,⟨b,o,c,rfl,h1,h2,h3⟩,hb'⟩
  exact⟨⟨_,_,_⟩,rfl,hb',b,o,rfl,rfl,h2,h3⟩
 rintro⟨A1,k1,c1⟩ wc w2 b2 hkc ⟨b,o,rfl,rfl,hv,hge⟩ hbc2 hk02 hbs2
 dsimp only at hv
 have hbt2:Bts w2 w2.heap.size x.A x.n (ai k).vc:=by
  rw[ha]at hbt ⊢
  exact bd hbt hk02 fun hm=>by have:=(hbs0 _ hm).2;omega
 have hv':∀ {w':World},Keep b2 w2 w'->Bts w' w'.heap.size (some ⟨b,o,none⟩) val.length val:=fun hk'=>bd hv hk' fun hm=>by
  have:=(hbs2 _ hm).2
  have:wc.heap.size<=b:=hge
  simp at *
  omega
 have hbt':∀ {w':World},Keep b2 w2 w'->Bts w' w'.heap.size x.A x.n (ai k).vc:=fun hk'=>by
  rw[ha]at hbt2 ⊢
  exact bd hbt2 hk' fun hm=>by
   rcases(hbs2 _ hm).1 with h |h
   ·have:=(hbs0 _ h).2;omega
   ·omega
 have hge2:∀i∈b2,w.heap.size<=i:=fun i hi=>by
  have:=hb0.size
  rcases(hbs2 i hi).1 with h |h
  ·exact(hbs0 i h).1
  ·omega
 refine aY (w:=w2) (bs:=b2) (R:=fun(p:Addr) wd w'=>∃q,p=⟨q,0,none⟩/\CN wd q k val w') ⟨rfl,Keep.refl _ _,fun b hb=>.inl hb⟩ (fun y=>⟨rfl,trivial,trivial,trivial⟩) (fun β wd hst ho hkd=>?_) ?_
 ·have hwd:=hkd.below (wk hk02) (Nat.le_refl _) hge2
  have hcall:=dm hs x.name x.A x.n x.c x.path ⟨(ai k).tr,fu k hk⟩ (some ⟨b,o,none⟩) val.length c1 wd.heap.size wd (hv' hkd) (hbt' hkd) (Nat.le_refl _) (ht.below hwd ht.lt) hl
  show Calls Tryz.prog 74 #[.agg #[.string x.name,.int .i64 k,.slice x.A x.n x.c,.int .i64 128,.bool x.path,yr.den β],.slice (some ⟨b,o,none⟩) val.length c1] wd _
  rw[htr β,<- hsz]
  refine hcall.mono ?_
  rintro e w' ⟨v,rfl,⟨p,rfl,h1⟩,hb'⟩
  exact⟨⟨p,0,none⟩,rfl,hb',p,rfl,h1⟩
 rintro p wd w3 b3 hkd ⟨q,rfl,hC⟩ hbd3 cz hbs3
 have hb3:Below w.heap.size w w3:=cz.below (wk hk02) (Nat.le_refl _) hge2
 refine jf (w:=w) (Fine.mk' hb3 fun i hi=>?_) fun β w4 hst hb4=>⟨_,rfl,⟨q,rfl,(CN.old (hst.old rfl) rfl hC fun i hi=>(hbs3 i hi).2).from (hkd.below (wk hk02) (Nat.le_refl _) hge2).size⟩,hb4⟩
 ·have:=(wk hk02).size
  rcases(hbs3 i hi).1 with h |h
  ·exact hge2 i h
  ·omega
theorem Lg{k:Int}{val txt:List UInt8}(hs:Simple k val txt)(hsz:(ai k).size=8)(htr:∀β,yn.den β=(ai k).tr)(hl:val.length<=2147483647)(w:World)(ht:Tens w)
  (hc:∀w1,Below w.heap.size w w1->Calls Tryz.prog 175 #[.string ⟨txt.toArray⟩] w1 (bB (SQ val w1) w1)) :
  Calls Tryz.prog 45 #[.string ⟨(ai k).name.toArray⟩,.string ⟨txt.toArray⟩] w (bB (pk k val w) w):=by
 have hk:=hs.tab
 refine aF (hk:=xn k 8 yn) (n:=3000) (args:=[.str ⟨(ai k).name.toArray⟩ false,.str ⟨txt.toArray⟩ false]) ⟨trivial,trivial,trivial⟩ ?_
 refine ah (mC k _ _ w) ?_
 refine c7 (R:=fun(x:PV) w0 w'=>Fresh w0 x.A/\Bts w' w'.heap.size x.A x.n (ai k).vc) (Fine.start w _) (fun x=>⟨rfl,by simp[SV.ok,be]⟩) (fun β w0 hst ho hb=>?_) ?_
 ·refine(cG k hk w0).mono ?_
  rintro e w' ⟨v,rfl,⟨x,rfl,hx,h1⟩,hb'⟩
  refine⟨x,?_,hb',h1⟩
  show Ending.returned (Value.agg #[.string x.name,.int .i64 k,.slice x.A x.n x.c,.int .i64 x.size,.bool x.path,x.tr.1])=.returned (.agg #[.string x.name,.int .i64 k,.slice x.A x.n x.c,.int .i64 8,.bool x.path,yn.den β])
  rw[hx.size,hsz,hx.tr,htr]
 rintro x wA w0 b0 hbA ⟨hfr,hbt⟩ hbA0 hb0 hbs0
 have wk:∀ {w':World},Keep b0 w0 w'->Below w.heap.size w w':=fun hk=>hk.below hb0 (Nat.le_refl _) fun i hi=>(hbs0 i hi).1
 have hpos:0<x.n:=by
  have:=(dh k hk).1
  have:=hbt.1
  omega
 obtain⟨a,ha,hal,_⟩:=hbt.2 hpos
 have ha0:wA.heap.size<=a.block:=hfr a ha
 refine ae (fun h=>?_) (fun _=>?_)
 ·have:k=0:=by simpa using h
  subst this
  exact absurd hk (by decide)
 refine aY (w:=w0) (bs:=b0) (R:=fun(y:UV) wc w'=>∃b o,y.A=some ⟨b,o,none⟩/\y.k=val.length/\Bts w' w'.heap.size y.A y.k val/\wc.heap.size<=b) ⟨rfl,Keep.refl _ _,fun b hb=>.inl hb⟩ (fun y=>⟨rfl,trivial,trivial,trivial⟩) (fun β wc hst ho hkc=>?_) ?_
 ·refine(hc wc (wk hkc)).mono ?_
  rintro e w' ⟨v,rfl,⟨b,o,c,rfl,h1,h2,h3⟩,hb'⟩
  exact⟨⟨_,_,_⟩,rfl,hb',b,o,rfl,rfl,h2,h3⟩
 rintro⟨A1,k1,c1⟩ wc w2 b2 hkc ⟨b,o,rfl,rfl,hv,hge⟩ hbc2 hk02 hbs2
 dsimp only at hv
 have hbt2:Bts w2 w2.heap.size x.A x.n (ai k).vc:=by
  rw[ha]at hbt ⊢
  exact bd hbt hk02 fun hm=>by have:=(hbs0 _ hm).2;omega
 have hv':∀ {w':World},Keep b2 w2 w'->Bts w' w'.heap.size (some ⟨b,o,none⟩) val.length val:=fun hk'=>bd hv hk' fun hm=>by
  have:=(hbs2 _ hm).2
  have:wc.heap.size<=b:=hge
  simp at *
  omega
 have hbt':∀ {w':World},Keep b2 w2 w'->Bts w' w'.heap.size x.A x.n (ai k).vc:=fun hk'=>by
  rw[ha]at hbt2 ⊢
  exact bd hbt2 hk' fun hm=>by
   rcases(hbs2 _ hm).1 with h |h
   ·have:=(hbs0 _ h).2;omega
   ·omega
 have hge2:∀i∈b2,w.heap.size<=i:=fun i hi=>by
  have:=hb0.size
  rcases(hbs2 i hi).1 with h |h
  ·exact(hbs0 i h).1
  ·omega
 refine aY (w:=w2) (bs:=b2) (R:=fun(p:Addr) wd w'=>∃q,p=⟨q,0,none⟩/\CN wd q k val w') ⟨rfl,Keep.refl _ _,fun b hb=>.inl hb⟩ (fun y=>⟨rfl,trivial,trivial,trivial⟩) (fun β wd hst ho hkd=>?_) ?_
 ·have hwd:=hkd.below (wk hk02) (Nat.le_refl _) hge2
  have hcall:=dm hs x.name x.A x.n x.c x.path ⟨(ai k).tr,fu k hk⟩ (some ⟨b,o,none⟩) val.length c1 wd.heap.size wd (hv' hkd) (hbt' hkd) (Nat.le_refl _) (ht.below hwd ht.lt) hl
  show Calls Tryz.prog 74 #[.agg #[.string x.name,.int .i64 k,.slice x.A x.n x.c,.int .i64 8,.bool x.path,yn.den β],.slice (some ⟨b,o,none⟩) val.length c1] wd _
  rw[htr β,<- hsz]
  refine hcall.mono ?_
  rintro e w' ⟨v,rfl,⟨p,rfl,h1⟩,hb'⟩
  exact⟨⟨p,0,none⟩,rfl,hb',p,rfl,h1⟩
 rintro p wd w3 b3 hkd ⟨q,rfl,hC⟩ hbd3 cz hbs3
 have hb3:Below w.heap.size w w3:=cz.below (wk hk02) (Nat.le_refl _) hge2
 refine jf (w:=w) (Fine.mk' hb3 fun i hi=>?_) fun β w4 hst hb4=>⟨_,rfl,⟨q,rfl,(CN.old (hst.old rfl) rfl hC fun i hi=>(hbs3 i hi).2).from (hkd.below (wk hk02) (Nat.le_refl _) hge2).size⟩,hb4⟩
 ·have:=(wk hk02).size
  rcases(hbs3 i hi).1 with h |h
  ·exact hge2 i h
  ·omega
theorem Lj{k:Int}{val txt:List UInt8}(hs:Simple k val txt)(hsz:(ai k).size=64)(htr:∀β,yq.den β=(ai k).tr)(hl:val.length<=2147483647)(w:World)(ht:Tens w)
  (hc:∀w1,Below w.heap.size w w1->Calls Tryz.prog 202 #[.string ⟨txt.toArray⟩] w1 (bB (SQ val w1) w1)) :
  Calls Tryz.prog 45 #[.string ⟨(ai k).name.toArray⟩,.string ⟨txt.toArray⟩] w (bB (pk k val w) w):=by
 have hk:=hs.tab
 refine aF (hk:=xn k 64 yq) (n:=3000) (args:=[.str ⟨(ai k).name.toArray⟩ false,.str ⟨txt.toArray⟩ false]) ⟨trivial,trivial,trivial⟩ ?_
 refine ah (mM k _ _ w) ?_
 refine c7 (R:=fun(x:PV) w0 w'=>Fresh w0 x.A/\Bts w' w'.heap.size x.A x.n (ai k).vc) (Fine.start w _) (fun x=>⟨rfl,by simp[SV.ok,be]⟩) (fun β w0 hst ho hb=>?_) ?_
 ·refine(cG k hk w0).mono ?_
  rintro e w' ⟨v,rfl,⟨x,rfl,hx,h1⟩,hb'⟩
  refine⟨x,?_,hb',h1⟩
  show Ending.returned (Value.agg #[.string x.name,.int .i64 k,.slice x.A x.n x.c,.int .i64 x.size,.bool x.path,x.tr.1])=.returned (.agg #[.string x.name,.int .i64 k,.slice x.A x.n x.c,.int .i64 64,.bool x.path,yq.den β])
  rw[hx.size,hsz,hx.tr,htr]
 rintro x wA w0 b0 hbA ⟨hfr,hbt⟩ hbA0 hb0 hbs0
 have wk:∀ {w':World},Keep b0 w0 w'->Below w.heap.size w w':=fun hk=>hk.below hb0 (Nat.le_refl _) fun i hi=>(hbs0 i hi).1
 have hpos:0<x.n:=by
  have:=(dh k hk).1
  have:=hbt.1
  omega
 obtain⟨a,ha,hal,_⟩:=hbt.2 hpos
 have ha0:wA.heap.size<=a.block:=hfr a ha
 refine ae (fun h=>?_) (fun _=>?_)
 ·have:k=0:=by simpa using h
  subst this
  exact absurd hk (by decide)
 refine aY (w:=w0) (bs:=b0) (R:=fun(y:UV) wc w'=>∃b o,y.A=some ⟨b,o,none⟩/\y.k=val.length/\Bts w' w'.heap.size y.A y.k val/\wc.heap.size<=b) ⟨rfl,Keep.refl _ _,fun b hb=>.inl hb⟩ (fun y=>⟨rfl,trivial,trivial,trivial⟩) (fun β wc hst ho hkc=>?_) ?_
 ·refine(hc wc (wk hkc)).mono ?_
  rintro e w' ⟨v,rfl,⟨b,o,c,rfl,h1,h2,h3⟩,hb'⟩
  exact⟨⟨_,_,_⟩,rfl,hb',b,o,rfl,rfl,h2,h3⟩
 rintro⟨A1,k1,c1⟩ wc w2 b2 hkc ⟨b,o,rfl,rfl,hv,hge⟩ hbc2 hk02 hbs2
 dsimp only at hv
 have hbt2:Bts w2 w2.heap.size x.A x.n (ai k).vc:=by
  rw[ha]at hbt ⊢
  exact bd hbt hk02 fun hm=>by have:=(hbs0 _ hm).2;omega
 have hv':∀ {w':World},Keep b2 w2 w'->Bts w' w'.heap.size (some ⟨b,o,none⟩) val.length val:=fun hk'=>bd hv hk' fun hm=>by
  have:=(hbs2 _ hm).2
  have:wc.heap.size<=b:=hge
  simp at *
  omega
 have hbt':∀ {w':World},Keep b2 w2 w'->Bts w' w'.heap.size x.A x.n (ai k).vc:=fun hk'=>by
  rw[ha]at hbt2 ⊢
  exact bd hbt2 hk' fun hm=>by
   rcases(hbs2 _ hm).1 with h |h
   ·have:=(hbs0 _ h).2;omega
   ·omega
 have hge2:∀i∈b2,w.heap.size<=i:=fun i hi=>by
  have:=hb0.size
  rcases(hbs2 i hi).1 with h |h
  ·exact(hbs0 i h).1
  ·omega
 refine aY (w:=w2) (bs:=b2) (R:=fun(p:Addr) wd w'=>∃q,p=⟨q,0,none⟩/\CN wd q k val w') ⟨rfl,Keep.refl _ _,fun b hb=>.inl hb⟩ (fun y=>⟨rfl,trivial,trivial,trivial⟩) (fun β wd hst ho hkd=>?_) ?_
 ·have hwd:=hkd.below (wk hk02) (Nat.le_refl _) hge2
  have hcall:=dm hs x.name x.A x.n x.c x.path ⟨(ai k).tr,fu k hk⟩ (some ⟨b,o,none⟩) val.length c1 wd.heap.size wd (hv' hkd) (hbt' hkd) (Nat.le_refl _) (ht.below hwd ht.lt) hl
  show Calls Tryz.prog 74 #[.agg #[.string x.name,.int .i64 k,.slice x.A x.n x.c,.int .i64 64,.bool x.path,yq.den β],.slice (some ⟨b,o,none⟩) val.length c1] wd _
  rw[htr β,<- hsz]
  refine hcall.mono ?_
  rintro e w' ⟨v,rfl,⟨p,rfl,h1⟩,hb'⟩
  exact⟨⟨p,0,none⟩,rfl,hb',p,rfl,h1⟩
 rintro p wd w3 b3 hkd ⟨q,rfl,hC⟩ hbd3 cz hbs3
 have hb3:Below w.heap.size w w3:=cz.below (wk hk02) (Nat.le_refl _) hge2
 refine jf (w:=w) (Fine.mk' hb3 fun i hi=>?_) fun β w4 hst hb4=>⟨_,rfl,⟨q,rfl,(CN.old (hst.old rfl) rfl hC fun i hi=>(hbs3 i hi).2).from (hkd.below (wk hk02) (Nat.le_refl _) hge2).size⟩,hb4⟩
 ·have:=(wk hk02).size
  rcases(hbs3 i hi).1 with h |h
  ·exact hge2 i h
  ·omega
theorem Lh{k:Int}{val txt:List UInt8}(hs:Simple k val txt)(hsz:(ai k).size=(-1))(htr:∀β,yN.den β=(ai k).tr)(hl:val.length<=2147483647)(w:World)(ht:Tens w)
  (hc:∀w1,Below w.heap.size w w1->Calls Tryz.prog 167 #[.string ⟨txt.toArray⟩] w1 (bB (SQ val w1) w1)) :
  Calls Tryz.prog 45 #[.string ⟨(ai k).name.toArray⟩,.string ⟨txt.toArray⟩] w (bB (pk k val w) w):=by
 have hk:=hs.tab
 refine aF (hk:=xn k (-1) yN) (n:=3000) (args:=[.str ⟨(ai k).name.toArray⟩ false,.str ⟨txt.toArray⟩ false]) ⟨trivial,trivial,trivial⟩ ?_
 refine ah (mD k _ _ w) ?_
 refine c7 (R:=fun(x:PV) w0 w'=>Fresh w0 x.A/\Bts w' w'.heap.size x.A x.n (ai k).vc) (Fine.start w _) (fun x=>⟨rfl,by simp[SV.ok,be]⟩) (fun β w0 hst ho hb=>?_) ?_
 ·refine(cG k hk w0).mono ?_
  rintro e w' ⟨v,rfl,⟨x,rfl,hx,h1⟩,hb'⟩
  refine⟨x,?_,hb',h1⟩
  show Ending.returned (Value.agg #[.string x.name,.int .i64 k,.slice x.A x.n x.c,.int .i64 x.size,.bool x.path,x.tr.1])=.returned (.agg #[.string x.name,.int .i64 k,.slice x.A x.n x.c,.int .i64 (-1),.bool x.path,yN.den β])
  rw[hx.size,hsz,hx.tr,htr]
 rintro x wA w0 b0 hbA ⟨hfr,hbt⟩ hbA0 hb0 hbs0
 have wk:∀ {w':World},Keep b0 w0 w'->Below w.heap.size w w':=fun hk=>hk.below hb0 (Nat.le_refl _) fun i hi=>(hbs0 i hi).1
 have hpos:0<x.n:=by
  have:=(dh k hk).1
  have:=hbt.1
  omega
 obtain⟨a,ha,hal,_⟩:=hbt.2 hpos
 have ha0:wA.heap.size<=a.block:=hfr a ha
 refine ae (fun h=>?_) (fun _=>?_)
 ·have:k=0:=by simpa using h
  subst this
  exact absurd hk (by decide)
 refine aY (w:=w0) (bs:=b0) (R:=fun(y:UV) wc w'=>∃b o,y.A=some ⟨b,o,none⟩/\y.k=val.length/\Bts w' w'.heap.size y.A y.k val/\wc.heap.size<=b) ⟨rfl,Keep.refl _ _,fun b hb=>.inl hb⟩ (fun y=>⟨rfl,trivial,trivial,trivial⟩) (fun β wc hst ho hkc=>?_) ?_
 ·refine(hc wc (wk hkc)).mono ?_
  rintro e w' ⟨v,rfl,⟨b,o,c,rfl,h1,h2,h3⟩,hb'⟩
  exact⟨⟨_,_,_⟩,rfl,hb',b,o,rfl,rfl,h2,h3⟩
 rintro⟨A1,k1,c1⟩ wc w2 b2 hkc ⟨b,o,rfl,rfl,hv,hge⟩ hbc2 hk02 hbs2
 dsimp only at hv
 have hbt2:Bts w2 w2.heap.size x.A x.n (ai k).vc:=by
  rw[ha]at hbt ⊢
  exact bd hbt hk02 fun hm=>by have:=(hbs0 _ hm).2;omega
 have hv':∀ {w':World},Keep b2 w2 w'->Bts w' w'.heap.size (some ⟨b,o,none⟩) val.length val:=fun hk'=>bd hv hk' fun hm=>by
  have:=(hbs2 _ hm).2
  have:wc.heap.size<=b:=hge
  simp at *
  omega
 have hbt':∀ {w':World},Keep b2 w2 w'->Bts w' w'.heap.size x.A x.n (ai k).vc:=fun hk'=>by
  rw[ha]at hbt2 ⊢
  exact bd hbt2 hk' fun hm=>by
   rcases(hbs2 _ hm).1 with h |h
   ·have:=(hbs0 _ h).2;omega
   ·omega
 have hge2:∀i∈b2,w.heap.size<=i:=fun i hi=>by
  have:=hb0.size
  rcases(hbs2 i hi).1 with h |h
  ·exact(hbs0 i h).1
  ·omega
 refine aY (w:=w2) (bs:=b2) (R:=fun(p:Addr) wd w'=>∃q,p=⟨q,0,none⟩/\CN wd q k val w') ⟨rfl,Keep.refl _ _,fun b hb=>.inl hb⟩ (fun y=>⟨rfl,trivial,trivial,trivial⟩) (fun β wd hst ho hkd=>?_) ?_
 ·have hwd:=hkd.below (wk hk02) (Nat.le_refl _) hge2
  have hcall:=dm hs x.name x.A x.n x.c x.path ⟨(ai k).tr,fu k hk⟩ (some ⟨b,o,none⟩) val.length c1 wd.heap.size wd (hv' hkd) (hbt' hkd) (Nat.le_refl _) (ht.below hwd ht.lt) hl
  show Calls Tryz.prog 74 #[.agg #[.string x.name,.int .i64 k,.slice x.A x.n x.c,.int .i64 (-1),.bool x.path,yN.den β],.slice (some ⟨b,o,none⟩) val.length c1] wd _
  rw[htr β,<- hsz]
  refine hcall.mono ?_
  rintro e w' ⟨v,rfl,⟨p,rfl,h1⟩,hb'⟩
  exact⟨⟨p,0,none⟩,rfl,hb',p,rfl,h1⟩
 rintro p wd w3 b3 hkd ⟨q,rfl,hC⟩ hbd3 cz hbs3
 have hb3:Below w.heap.size w w3:=cz.below (wk hk02) (Nat.le_refl _) hge2
 refine jf (w:=w) (Fine.mk' hb3 fun i hi=>?_) fun β w4 hst hb4=>⟨_,rfl,⟨q,rfl,(CN.old (hst.old rfl) rfl hC fun i hi=>(hbs3 i hi).2).from (hkd.below (wk hk02) (Nat.le_refl _) hge2).size⟩,hb4⟩
 ·have:=(wk hk02).size
  rcases(hbs3 i hi).1 with h |h
  ·exact hge2 i h
  ·omega
theorem Lo{k:Int}{val txt:List UInt8}(hs:Simple k val txt)(hsz:(ai k).size=(-1))(htr:∀β,yP.den β=(ai k).tr)(hl:val.length<=2147483647)(w:World)(ht:Tens w)
  (hc:∀w1,Below w.heap.size w w1->Calls Tryz.prog 172 #[.string ⟨txt.toArray⟩] w1 (bB (SQ val w1) w1)) :
  Calls Tryz.prog 45 #[.string ⟨(ai k).name.toArray⟩,.string ⟨txt.toArray⟩] w (bB (pk k val w) w):=by
 have hk:=hs.tab
 refine aF (hk:=xn k (-1) yP) (n:=3000) (args:=[.str ⟨(ai k).name.toArray⟩ false,.str ⟨txt.toArray⟩ false]) ⟨trivial,trivial,trivial⟩ ?_
 refine ah (mZ k _ _ w) ?_
 refine c7 (R:=fun(x:PV) w0 w'=>Fresh w0 x.A/\Bts w' w'.heap.size x.A x.n (ai k).vc) (Fine.start w _) (fun x=>⟨rfl,by simp[SV.ok,be]⟩) (fun β w0 hst ho hb=>?_) ?_
 ·refine(cG k hk w0).mono ?_
  rintro e w' ⟨v,rfl,⟨x,rfl,hx,h1⟩,hb'⟩
  refine⟨x,?_,hb',h1⟩
  show Ending.returned (Value.agg #[.string x.name,.int .i64 k,.slice x.A x.n x.c,.int .i64 x.size,.bool x.path,x.tr.1])=.returned (.agg #[.string x.name,.int .i64 k,.slice x.A x.n x.c,.int .i64 (-1),.bool x.path,yP.den β])
  rw[hx.size,hsz,hx.tr,htr]
 rintro x wA w0 b0 hbA ⟨hfr,hbt⟩ hbA0 hb0 hbs0
 have wk:∀ {w':World},Keep b0 w0 w'->Below w.heap.size w w':=fun hk=>hk.below hb0 (Nat.le_refl _) fun i hi=>(hbs0 i hi).1
 have hpos:0<x.n:=by
  have:=(dh k hk).1
  have:=hbt.1
  omega
 obtain⟨a,ha,hal,_⟩:=hbt.2 hpos
 have ha0:wA.heap.size<=a.block:=hfr a ha
 refine ae (fun h=>?_) (fun _=>?_)
 ·have:k=0:=by simpa using h
  subst this
  exact absurd hk (by decide)
 refine aY (w:=w0) (bs:=b0) (R:=fun(y:UV) wc w'=>∃b o,y.A=some ⟨b,o,none⟩/\y.k=val.length/\Bts w' w'.heap.size y.A y.k val/\wc.heap.size<=b) ⟨rfl,Keep.refl _ _,fun b hb=>.inl hb⟩ (fun y=>⟨rfl,trivial,trivial,trivial⟩) (fun β wc hst ho hkc=>?_) ?_
 ·refine(hc wc (wk hkc)).mono ?_
  rintro e w' ⟨v,rfl,⟨b,o,c,rfl,h1,h2,h3⟩,hb'⟩
  exact⟨⟨_,_,_⟩,rfl,hb',b,o,rfl,rfl,h2,h3⟩
 rintro⟨A1,k1,c1⟩ wc w2 b2 hkc ⟨b,o,rfl,rfl,hv,hge⟩ hbc2 hk02 hbs2
 dsimp only at hv
 have hbt2:Bts w2 w2.heap.size x.A x.n (ai k).vc:=by
  rw[ha]at hbt ⊢
  exact bd hbt hk02 fun hm=>by have:=(hbs0 _ hm).2;omega
 have hv':∀ {w':World},Keep b2 w2 w'->Bts w' w'.heap.size (some ⟨b,o,none⟩) val.length val:=fun hk'=>bd hv hk' fun hm=>by
  have:=(hbs2 _ hm).2
  have:wc.heap.size<=b:=hge
  simp at *
  omega
 have hbt':∀ {w':World},Keep b2 w2 w'->Bts w' w'.heap.size x.A x.n (ai k).vc:=fun hk'=>by
  rw[ha]at hbt2 ⊢
  exact bd hbt2 hk' fun hm=>by
   rcases(hbs2 _ hm).1 with h |h
   ·have:=(hbs0 _ h).2;omega
   ·omega
 have hge2:∀i∈b2,w.heap.size<=i:=fun i hi=>by
  have:=hb0.size
  rcases(hbs2 i hi).1 with h |h
  ·exact(hbs0 i h).1
  ·omega
 refine aY (w:=w2) (bs:=b2) (R:=fun(p:Addr) wd w'=>∃q,p=⟨q,0,none⟩/\CN wd q k val w') ⟨rfl,Keep.refl _ _,fun b hb=>.inl hb⟩ (fun y=>⟨rfl,trivial,trivial,trivial⟩) (fun β wd hst ho hkd=>?_) ?_
 ·have hwd:=hkd.below (wk hk02) (Nat.le_refl _) hge2
  have hcall:=dm hs x.name x.A x.n x.c x.path ⟨(ai k).tr,fu k hk⟩ (some ⟨b,o,none⟩) val.length c1 wd.heap.size wd (hv' hkd) (hbt' hkd) (Nat.le_refl _) (ht.below hwd ht.lt) hl
  show Calls Tryz.prog 74 #[.agg #[.string x.name,.int .i64 k,.slice x.A x.n x.c,.int .i64 (-1),.bool x.path,yP.den β],.slice (some ⟨b,o,none⟩) val.length c1] wd _
  rw[htr β,<- hsz]
  refine hcall.mono ?_
  rintro e w' ⟨v,rfl,⟨p,rfl,h1⟩,hb'⟩
  exact⟨⟨p,0,none⟩,rfl,hb',p,rfl,h1⟩
 rintro p wd w3 b3 hkd ⟨q,rfl,hC⟩ hbd3 cz hbs3
 have hb3:Below w.heap.size w w3:=cz.below (wk hk02) (Nat.le_refl _) hge2
 refine jf (w:=w) (Fine.mk' hb3 fun i hi=>?_) fun β w4 hst hb4=>⟨_,rfl,⟨q,rfl,(CN.old (hst.old rfl) rfl hC fun i hi=>(hbs3 i hi).2).from (hkd.below (wk hk02) (Nat.le_refl _) hge2).size⟩,hb4⟩
 ·have:=(wk hk02).size
  rcases(hbs3 i hi).1 with h |h
  ·exact hge2 i h
  ·omega
theorem Ln{k:Int}{val txt:List UInt8}(hs:Simple k val txt)(hsz:(ai k).size=(-1))(htr:∀β,yO.den β=(ai k).tr)(hl:val.length<=2147483647)(w:World)(ht:Tens w)
  (hc:∀w1,Below w.heap.size w w1->Calls Tryz.prog 199 #[.string ⟨txt.toArray⟩] w1 (bB (SQ val w1) w1)) :
  Calls Tryz.prog 45 #[.string ⟨(ai k).name.toArray⟩,.string ⟨txt.toArray⟩] w (bB (pk k val w) w):=by
 have hk:=hs.tab
 refine aF (hk:=xn k (-1) yO) (n:=3000) (args:=[.str ⟨(ai k).name.toArray⟩ false,.str ⟨txt.toArray⟩ false]) ⟨trivial,trivial,trivial⟩ ?_
 refine ah (mU k _ _ w) ?_
 refine c7 (R:=fun(x:PV) w0 w'=>Fresh w0 x.A/\Bts w' w'.heap.size x.A x.n (ai k).vc) (Fine.start w _) (fun x=>⟨rfl,by simp[SV.ok,be]⟩) (fun β w0 hst ho hb=>?_) ?_
 ·refine(cG k hk w0).mono ?_
  rintro e w' ⟨v,rfl,⟨x,rfl,hx,h1⟩,hb'⟩
  refine⟨x,?_,hb',h1⟩
  show Ending.returned (Value.agg #[.string x.name,.int .i64 k,.slice x.A x.n x.c,.int .i64 x.size,.bool x.path,x.tr.1])=.returned (.agg #[.string x.name,.int .i64 k,.slice x.A x.n x.c,.int .i64 (-1),.bool x.path,yO.den β])
  rw[hx.size,hsz,hx.tr,htr]
 rintro x wA w0 b0 hbA ⟨hfr,hbt⟩ hbA0 hb0 hbs0
 have wk:∀ {w':World},Keep b0 w0 w'->Below w.heap.size w w':=fun hk=>hk.below hb0 (Nat.le_refl _) fun i hi=>(hbs0 i hi).1
 have hpos:0<x.n:=by
  have:=(dh k hk).1
  have:=hbt.1
  omega
 obtain⟨a,ha,hal,_⟩:=hbt.2 hpos
 have ha0:wA.heap.size<=a.block:=hfr a ha
 refine ae (fun h=>?_) (fun _=>?_)
 ·have:k=0:=by simpa using h
  subst this
  exact absurd hk (by decide)
 refine aY (w:=w0) (bs:=b0) (R:=fun(y:UV) wc w'=>∃b o,y.A=some ⟨b,o,none⟩/\y.k=val.length/\Bts w' w'.heap.size y.A y.k val/\wc.heap.size<=b) ⟨rfl,Keep.refl _ _,fun b hb=>.inl hb⟩ (fun y=>⟨rfl,trivial,trivial,trivial⟩) (fun β wc hst ho hkc=>?_) ?_
 ·refine(hc wc (wk hkc)).mono ?_
  rintro e w' ⟨v,rfl,⟨b,o,c,rfl,h1,h2,h3⟩,hb'⟩
  exact⟨⟨_,_,_⟩,rfl,hb',b,o,rfl,rfl,h2,h3⟩
 rintro⟨A1,k1,c1⟩ wc w2 b2 hkc ⟨b,o,rfl,rfl,hv,hge⟩ hbc2 hk02 hbs2
 dsimp only at hv
 have hbt2:Bts w2 w2.heap.size x.A x.n (ai k).vc:=by
  rw[ha]at hbt ⊢
  exact bd hbt hk02 fun hm=>by have:=(hbs0 _ hm).2;omega
 have hv':∀ {w':World},Keep b2 w2 w'->Bts w' w'.heap.size (some ⟨b,o,none⟩) val.length val:=fun hk'=>bd hv hk' fun hm=>by
  have:=(hbs2 _ hm).2
  have:wc.heap.size<=b:=hge
  simp at *
  omega
 have hbt':∀ {w':World},Keep b2 w2 w'->Bts w' w'.heap.size x.A x.n (ai k).vc:=fun hk'=>by
  rw[ha]at hbt2 ⊢
  exact bd hbt2 hk' fun hm=>by
   rcases(hbs2 _ hm).1 with h |h
   ·have:=(hbs0 _ h).2;omega
   ·omega
 have hge2:∀i∈b2,w.heap.size<=i:=fun i hi=>by
  have:=hb0.size
  rcases(hbs2 i hi).1 with h |h
  ·exact(hbs0 i h).1
  ·omega
 refine aY (w:=w2) (bs:=b2) (R:=fun(p:Addr) wd w'=>∃q,p=⟨q,0,none⟩/\CN wd q k val w') ⟨rfl,Keep.refl _ _,fun b hb=>.inl hb⟩ (fun y=>⟨rfl,trivial,trivial,trivial⟩) (fun β wd hst ho hkd=>?_) ?_
 ·have hwd:=hkd.below (wk hk02) (Nat.le_refl _) hge2
  have hcall:=dm hs x.name x.A x.n x.c x.path ⟨(ai k).tr,fu k hk⟩ (some ⟨b,o,none⟩) val.length c1 wd.heap.size wd (hv' hkd) (hbt' hkd) (Nat.le_refl _) (ht.below hwd ht.lt) hl
  show Calls Tryz.prog 74 #[.agg #[.string x.name,.int .i64 k,.slice x.A x.n x.c,.int .i64 (-1),.bool x.path,yO.den β],.slice (some ⟨b,o,none⟩) val.length c1] wd _
  rw[htr β,<- hsz]
  refine hcall.mono ?_
  rintro e w' ⟨v,rfl,⟨p,rfl,h1⟩,hb'⟩
  exact⟨⟨p,0,none⟩,rfl,hb',p,rfl,h1⟩
 rintro p wd w3 b3 hkd ⟨q,rfl,hC⟩ hbd3 cz hbs3
 have hb3:Below w.heap.size w w3:=cz.below (wk hk02) (Nat.le_refl _) hge2
 refine jf (w:=w) (Fine.mk' hb3 fun i hi=>?_) fun β w4 hst hb4=>⟨_,rfl,⟨q,rfl,(CN.old (hst.old rfl) rfl hC fun i hi=>(hbs3 i hi).2).from (hkd.below (wk hk02) (Nat.le_refl _) hge2).size⟩,hb4⟩
 ·have:=(wk hk02).size
  rcases(hbs3 i hi).1 with h |h
  ·exact hge2 i h
  ·omega
end
section
open Go Go.Rx Go.RowKit
@[reducible] def Bp:Hook:={ X:=Addr,out:=fun _ s x=>(.tup [.xp x,.one .nilIface rfl],s.objs) }
def KK:Hooks:={ calls:=fun f=>if f=45 then some Bp else if f=46 then some Dp else none,loops:=fun _ _=>none }
theorem Rh(nm s:ByteArray)(w:World):al Tryz.prog KK 500 16 [.str nm false,.str s false] (SS.mk [] [] true w []) =
 (.hc 45 [(.str nm false),(.str s false)] (SS.mk [(.cells [(.int .i64 0 true),(.one (.slice none 0 0) rfl)] 2 31 0 0)] [] true w []) (Bp) fun x0 w0 b0=>
 (.hc 46 [(.xp x0)] (SS.mk [(.cells [(.int .i64 0 true),(.one (.slice none 0 0) rfl)] 2 31 0 0)] [] true w0 b0) (Dp) fun x1 w1 b1=>
 (.leaf .ret [(.tup [(.agg [(.int .i64 x1.code false),(.xs x1.A x1.n x1.c)]),(.bool true true)])] (SS.mk [(.cells [(.int .i64 x1.code false),(.xs x1.A x1.n x1.c)] 2 31 0 0)] [] true w1 b1)))):=by kernel_rfl
theorem FQ(w:World)(B:Nat):Bts w B none 0 []:=⟨rfl,fun h=>absurd h (by omega)⟩
theorem Lk{k:Int}(hs:Simple k [] [])(hsz:(ai k).size=0)(htr:∀β,xq.den β=(ai k).tr)(w:World)(ht:Tens w) :
  Calls Tryz.prog 45 #[.string ⟨(ai k).name.toArray⟩,.string ⟨([]:List UInt8).toArray⟩] w (bB (pk k [] w) w):=by
 have hk:=hs.tab
 refine aF (hk:=xn k 0 xq) (n:=3000) (args:=[.str ⟨(ai k).name.toArray⟩ false,.str ⟨([]:List UInt8).toArray⟩ false]) ⟨trivial,trivial,trivial⟩ ?_
 refine ah (mN k _ _ w) ?_
 refine c7 (R:=fun(x:PV) w0 w'=>Fresh w0 x.A/\Bts w' w'.heap.size x.A x.n (ai k).vc) (Fine.start w _) (fun x=>⟨rfl,by simp[SV.ok,be]⟩) (fun β w0 hst ho hb=>?_) ?_
 ·refine(cG k hk w0).mono ?_
  rintro e w' ⟨v,rfl,⟨x,rfl,hx,h1⟩,hb'⟩
  refine⟨x,?_,hb',h1⟩
  show Ending.returned (Value.agg #[.string x.name,.int .i64 k,.slice x.A x.n x.c,.int .i64 x.size,.bool x.path,x.tr.1])=.returned (.agg #[.string x.name,.int .i64 k,.slice x.A x.n x.c,.int .i64 0,.bool x.path,xq.den β])
  rw[hx.size,hsz,hx.tr,htr]
 rintro x wA w0 b0 hbA ⟨hfr,hbt⟩ hbA0 hb0 hbs0
 have hpos:0<x.n:=by
  have:=(dh k hk).1
  have:=hbt.1
  omega
 obtain⟨a,ha,hal,_⟩:=hbt.2 hpos
 have ha0:wA.heap.size<=a.block:=hfr a ha
 refine ae (fun h=>?_) (fun _=>ae (fun h=>absurd h (by simp)) (fun _=>?_))
 ·have:k=0:=by simpa using h
  subst this
  exact absurd hk (by decide)
 have hbt':∀ {w':World},Keep b0 w0 w'->Bts w' w'.heap.size x.A x.n (ai k).vc:=fun hk'=>by
  rw[ha]at hbt ⊢
  exact bd hbt hk' fun hm=>by have:=(hbs0 _ hm).2;omega
 have hge0:∀i∈b0,w.heap.size<=i:=fun i hi=>(hbs0 i hi).1
 refine aY (w:=w0) (bs:=b0) (R:=fun(p:Addr) wd w'=>∃q,p=⟨q,0,none⟩/\CN wd q k [] w') ⟨rfl,Keep.refl _ _,fun b hb=>.inl hb⟩ (fun y=>⟨rfl,trivial,trivial,trivial⟩) (fun β wd hst ho hkd=>?_) ?_
 ·have hwd:=hkd.below hb0 (Nat.le_refl _) hge0
  have hcall:=dm hs x.name x.A x.n x.c x.path ⟨(ai k).tr,fu k hk⟩ none 0 0 wd.heap.size wd (FQ _ _) (hbt' hkd) (Nat.le_refl _) (ht.below hwd ht.lt) (by simp)
  show Calls Tryz.prog 74 #[.agg #[.string x.name,.int .i64 k,.slice x.A x.n x.c,.int .i64 0,.bool x.path,xq.den β],.slice none 0 0] wd _
  rw[htr β,<- hsz]
  refine hcall.mono ?_
  rintro e w' ⟨v,rfl,⟨p,rfl,h1⟩,hb'⟩
  exact⟨⟨p,0,none⟩,rfl,hb',p,rfl,h1⟩
 rintro p wd w3 b3 hkd ⟨q,rfl,hC⟩ hbd3 cz hbs3
 have hb3:Below w.heap.size w w3:=cz.below hb0 (Nat.le_refl _) hge0
 refine jf (w:=w) (Fine.mk' hb3 fun i hi=>?_) fun β w4 hst hb4=>⟨_,rfl,⟨q,rfl,(CN.old (hst.old rfl) rfl hC fun i hi=>(hbs3 i hi).2).from (hkd.below hb0 (Nat.le_refl _) hge0).size⟩,hb4⟩
 have:=hb0.size
 rcases(hbs3 i hi).1 with h |h
 ·exact hge0 i h
 ·omega
theorem jC{n:Nat}(h:n<256):cU n=Lib.decDigits n:=by
 unfold cU
 split
 ·rename_i h1
  rw[Lib.decDigits_one h1]
 ·rename_i h1
  split
  ·rename_i h2
   rw[Lib.decDigits_two h1 h2]
  ·rename_i h2
   rw[Lib.decDigits,dif_neg h1,Lib.decDigits_two (i:=n/10) (by omega) (by omega)]
   rw[Nat.div_div_eq_div_mul]
   rfl
theorem nB{k:Int}{val txt:List UInt8}(hs:Simple k val txt)(hl:val.length<=2147483647)(w:World)(ht:Tens w) :
  Calls Tryz.prog 45 #[.string ⟨(ai k).name.toArray⟩,.string ⟨txt.toArray⟩] w (bB (pk k val w) w):=by
 have hs':=hs
 cases hs with
 |N hk hz hp htr=>exact Lk hs' hz htr w ht
 |P hk hz hp htr a b=>exact Ll hs' hz htr hl w ht fun w1 hb=>Bw a b w1 (ht.below hb ht.lt)
 |F hk hz hp htr a b c d=>exact Li hs' hz htr hl w ht fun w1 hb=>DJ a b c d w1
 |S hk hz hp htr _ hl16=>exact Lm hs' hz htr hl w ht fun w1 hb=>xJ hl16 w1
 |C hk hz hp htr a=>exact Lg hs' hz htr hl w ht fun w1 hb=>by rw[jC a.toNat_lt];exact AX a w1
 |M hk hz hp htr a b c d e f g h=>exact Lj hs' hz htr hl w ht fun w1 hb=>Eg a b c d e f g h w1 (ht.below hb ht.lt)
 |D hk hz hp htr _ hn=>exact Lh hs' hz htr hl w ht fun w1 hb=>Dt val hn w1
 |Z hk hz hp htr _ hn=>exact Lo hs' hz htr hl w ht fun w1 hb=>B0 val (by omega) hn w1
 |U hk hz hp htr _ hn=>exact Ln hs' hz htr hl w ht fun w1 hb=>BJ val w1
theorem CAt.maR{w:World}{B p:Nat}{k:Int}{val:List UInt8}(h:CAt w B p k val)(hk:k∈bc)(hl:val.length<=2147483647):CellsAt (MaR w B) w B ⟨p,0,none⟩ ⟨k,val⟩:=by
 obtain⟨h1,b,h2,h3,A,c,h4,h5,h6⟩:=h
 refine⟨h1,_,⟨bW k val,⟨b,0,none⟩,rfl,⟨h3,⟨⟨(ai k).name.toArray⟩,A,(ai k).vc.length,c,(ai k).size,(ai k).path,⟨(ai k).tr,fu k hk⟩⟩,?_⟩,A8 hk hl⟩,?_⟩
 ·exact AV (rest:=[]) (by simpa using h4)
 ·exact AV (rest:=[]) (by simpa using h2)
def Px(k:Int)(val:List UInt8)(w:World)(v:Value)(w':World):Prop:=∃A n c,v=.tuple #[.agg #[.int .i64 k,.slice A n c],.bool true]/\Bts (Rx.since w w') w'.heap.size A n val
theorem ez{k:Int}{val txt:List UInt8}(hs:Simple k val txt)(hl:val.length<=2147483647)(w:World)(ht:Tens w) :
  Calls Tryz.prog 16 #[.string ⟨(ai k).name.toArray⟩,.string ⟨txt.toArray⟩] w (bB (Px k val w) w):=by
 refine aF (hk:=KK) (n:=500) (args:=[.str ⟨(ai k).name.toArray⟩ false,.str ⟨txt.toArray⟩ false]) ⟨trivial,trivial,trivial⟩ ?_
 refine ah (Rh _ _ w) ?_
 refine c7 (R:=fun(p:Addr) w0 w'=>∃q,p=⟨q,0,none⟩/\CN w0 q k val w') (Fine.start w _) (fun x=>⟨rfl,trivial,trivial,trivial⟩) (fun β w0 hst ho hb=>?_) ?_
 ·refine(nB hs hl w0 (ht.below hb ht.lt)).mono ?_
  rintro e w' ⟨v,rfl,⟨p,rfl,h1⟩,hb'⟩
  exact⟨⟨p,0,none⟩,rfl,hb',p,rfl,h1⟩
 rintro p wA w0 b0 hbA ⟨q,rfl,hC⟩ hbA0 hb0 hbs0
 refine c7 (w:=w) (R:=fun(y:CV) wc w'=>y.code=k/\Bts (Rx.since wc w') w'.heap.size y.A y.n val) (Fine.mk' hb0 fun i hi=>(hbs0 i hi).1) (fun x=>⟨rfl,trivial,trivial,trivial⟩) (fun β wc hst ho hb=>?_) ?_
 ·have hC':=CN.old ho rfl hC fun i hi=>(hbs0 i hi).2
  refine(Lu ⟨q,0,none⟩ ⟨k,val⟩ wc.heap.size wc (hC'.at_.maR hs.tab hl) (Nat.le_refl _)).mono ?_
  rintro e w' ⟨v,rfl,⟨A,n,c,rfl,h1⟩,hb'⟩
  exact⟨⟨k,A,n,c⟩,rfl,hb',rfl,h1⟩
 rintro⟨k',A,n,c⟩ wc w1 b1 hbc ⟨rfl,hbt⟩ hbc1 hb1 hbs1
 refine aQ (Fine.mk' hb1 fun i hi=>(hbs1 i hi).1) fun β w2 hst hb2=>⟨A,n,c,rfl,?_⟩
 have o:=hst.old rfl
 have:=hbt.sub (tj (w:=w) o rfl (fun i hi=>(hbs1 i hi).2) hbc.size) o.sz
 exact this
end
section
open Go Go.Rx Go.RowKit
def cR(b:List UInt8):List Int:=(List.range 8).map fun j=>(aK b j:Int)
theorem mm(b:List UInt8):(cR b).length=8:=rfl
theorem fl(b:List UInt8){j:Nat}(h:j<8):(cR b).getD j 0=(aK b j:Int):=by
 simp[cR,List.getD_eq_getElem?_getD,h]
theorem bw(l:List Int):(bV l).length=1/\∀o∈bV l,o.ok 1:=⟨rfl,fun o ho=>by
 simp only[bV,List.mem_singleton]at ho
 subst ho
 trivial⟩
theorem gp(m:Nat)(h:0<m):(SV.ptr 0 0).ok m:=h
theorem DA{b:List UInt8}{l:List Int}(hl:l.length=8)(h:∀j,j<8->l.getD j 0=(aK b j:Int)):l=cR b:=by
 apply List.ext_getElem (by rw[hl,mm])
 intro i h1 h2
 have h3:=h i (by omega)
 rw[List.getD_eq_getElem?_getD,List.getElem?_eq_getElem h1,Option.getD_some]at h3
 rw[h3]
 simp[cR]
theorem CQ{s s0:SS}{a a0:List SV}{w:World}{A:Option Addr}{c B:Nat}{b:List UInt8}{Q:SE->List Value->World->Prop}{k:List Int×(Nat->Value)->World->List Nat->T}{k':Unit×(Nat->Value)->World->List Nat->T}(h:Bts w B A 16 b)(hB:B<=w.heap.size)(hf:Fine w s)(hgl:s.gl=[])
  (hobj:s.objs=[.cells [.int .i64 0 true,.int .i64 0 true,.int .i64 0 true,.int .i64 0 true,.int .i64 0 true,.int .i64 0 true,.int .i64 0 true,.int .i64 0 true] 8 100 0 0])
  (hN:a.length=115) (hsel:∀β,gu J6 .normal (af β a)=af β (BE ⟨A,16,c⟩ 0))
  (hk:∀w' g bs,Below w.heap.size w w'->(∀b∈bs,w.heap.size<=b)->(k (cR b,g) w' bs).holds (c8 Tryz.prog Q)) :
  (T.loop 48 (av Tryz.prog 48 4) a s (LoopHook.X (kN ⟨A,16,c⟩)) (LoopHook.out (kN ⟨A,16,c⟩) a0 s0) k (LoopHook.Y (kN ⟨A,16,c⟩)) (LoopHook.out' (kN ⟨A,16,c⟩) a0 s0) k').holds (c8 Tryz.prog Q):=by
 refine jg (w:=w) hf hgl 1 (by show s.objs.length=1;rw[hobj];rfl) J6 (fun z:List Int×Nat=>BE ⟨A,16,c⟩ z.2) (fun z=>bV z.1) (fun z=>8-z.2) (fun _ z _=>z.1.length=8/\z.2<=8/\∀j,j<z.2->z.1.getD j 0=(aK b j:Int)) (fun _ l _=>l=cR b) (fun _ _ _=>False) (fun _=>ar) 1000
  hN (by simp[J6]) (by simp[J6]) (fun _=>⟨trivial,gp 1 (by omega),trivial,trivial⟩) (fun _=>bw _) rfl rfl (by simp) (by simp) (fun _=>⟨⟨trivial,gp 1 (by omega),trivial⟩,bw _⟩) (fun _=>⟨trivial,bw _⟩) ?_ ?_ ?_ ?_
 ·rintro β w0 ⟨l,i⟩ w1 g hb0 ⟨hl,hi,hz⟩ hkp hge
  dsimp only at hl hi hz
  have hbl:∀x∈ac β 1,w.heap.size<=x:=fun x hx=>by
   simp[ac]at hx
   subst hx
   exact hge 0 (by omega)
  have hw1:Below w.heap.size w w1:=hkp.below hb0 (Nat.le_refl _) hbl
  refine ah (L4 ⟨A,16,c⟩ l i w1 (ac β 1) g) (ak (fun hlt=>?_) (fun hge'=>?_))
  ·have hlt':i<8:=by omega
   obtain⟨n1,n2,n3,n4,n5,n6⟩:=ml h hB hw1 hbl hlt'
   refine aa n1 (aa n2 (aa n3 (aa n4 (aa n2 (aa n5 (aa (by omega) (aa (by simp;omega) (aa (by simp[an]) ?_))))))))
   dsimp only
   rw[n6]
   refine aJ ⟨rfl,hkp,fun b hb=>.inl hb⟩ fun β' w' hst hk'=>⟨(l.set (0+(i:Int).toNat*1) (aK b i:Int),i+1),by show 8-(i+1)<8-i;omega,?_,hst.objsAt rfl (bw _).2,⟨by simp[hl],by show i+1<=8;omega,fun j hj=>?_⟩,hk'⟩
   ·rw[show i64.wrap ((i:Int)+1)=((i+1:Nat):Int) by rw[aq (by omega) (by omega)];omega]
    have:=hst.base 0 (by show 0<1;omega)
    simp only[BE,af,SV.den]
    rw[this]
   ·show(l.set (0+(i:Int).toNat*1) (aK b i:Int)).getD j 0=_
    replace hj:j<i+1:=hj
    rw[show 0+(i:Int).toNat*1=i by simp,cL (by omega)]
    split
    ·rename_i he
     rw[he]
    ·exact hz j (by omega)
  ·refine aJ ⟨rfl,hkp,fun b hb=>.inl hb⟩ fun β' w' hst hk'=>⟨.inl ⟨l,rfl,?_,hst.objsAt rfl (bw _).2,DA hl fun j hj=>hz j (by omega)⟩,hk'⟩
   have:=hst.base 0 (by show 0<1;omega)
   simp only[af,SV.den]
   rw[this]
 ·intro β w0 hst hb
  refine⟨(List.replicate 8 0,0),hsel β,?_,by simp,Nat.zero_le _,fun j hj=>absurd hj (Nat.not_lt_zero j)⟩
  intro i o hi
  match i,hi with
  |0,hi=>
   obtain⟨r,h1,h2⟩:=hst.at_ 0 _ (by rw[hobj];rfl)
   have hr:r=[]:=List.eq_nil_of_length_eq_zero (by have h2':8+r.length=8:=h2;omega)
   subst hr
   simp only[bV,List.getElem?_cons_zero,Option.some.injEq]at hi
   subst hi
   show w0.heap[β 0]?=_
   rw[h1]
   simp[af,SV.den]
  |i+1,hi=>simp[bV]at hi
 ·rintro w0 l w' rfl hb0 hb1 g bs hbs
  exact hk w' g bs hb1 hbs
 ·rintro w0 q' w' h
  exact h.elim
def B2(b:List UInt8)(i:Nat)(at_:Int)(most:Nat):Prop:=(bM b i=(255,255)/\at_ = -1/\most=1)∨(∃f t,bM b i=(f,t)/\f+2<=t/\t<=8/\at_=(f:Int)/\most=t-f)
theorem tk{s s0:SS}{a a0:List SV}{w:World}{b:List UInt8}{Q:SE->List Value->World->Prop}{k:(Int×Nat)×(Nat->Value)->World->List Nat->T}{k':Unit×(Nat->Value)->World->List Nat->T}(hf:Fine w s)(hgl:s.gl=[])
  (hobj:s.objs=bV (cR b)) (hN:a.length=115) (hsel:∀β,gu J7 .normal (af β a)=af β (yf ⟨-1,1,0⟩))
  (hk:∀p w' g bs,Below w.heap.size w w'->(∀b∈bs,w.heap.size<=b)->B2 b 8 p.1 p.2->(k (p,g) w' bs).holds (c8 Tryz.prog Q)) :
  (T.loop 48 (av Tryz.prog 48 12) a s (LoopHook.X (lk (cR b))) (LoopHook.out (lk (cR b)) a0 s0) k (LoopHook.Y (lk (cR b))) (LoopHook.out' (lk (cR b)) a0 s0) k').holds (c8 Tryz.prog Q):=by
 refine jg (w:=w) hf hgl 1 (by show s.objs.length=1;rw[hobj];rfl) J7 yf (fun _=>bV (cR b)) (fun z=>8-z.i) (fun _ z _=>z.i<=8/\B2 b z.i z.at_ z.most) (fun _ p _=>B2 b 8 p.1 p.2) (fun _ _ _=>False) (fun z=>KO (cR b) z) 1000
  hN (by simp[J7]) (by simp[J7]) (fun _=>⟨gp 1 (by omega),trivial,trivial,trivial,trivial⟩) (fun _=>bw _) rfl rfl (by simp) (by simp) (fun _=>⟨⟨gp 1 (by omega),trivial,trivial,trivial⟩,bw _⟩) (fun _=>⟨trivial,bw _⟩) ?_ ?_ ?_ ?_
 ·rintro β w0 z w1 g hb0 ⟨hi,hbest⟩ hkp hge
  refine ah (L5 (cR b) z w1 (ac β 1) g) (ak (fun hlt=>?_) (fun hge'=>?_))
  ·have hlt':z.i<8:=by omega
   refine lp (w:=w1) (bs:=ac β 1) ⟨rfl,Keep.refl _ _,fun b hb=>.inl hb⟩ rfl 1 rfl Kj (fun n:Nat=>th ⟨z.at_,z.most,z.i,n⟩) (fun _=>bV (cR b)) (fun n=>9-n)
    (fun _ n _=>z.i+n<=8/\∀k,z.i<=k->k<z.i+n->aK b k=0) (fun _ n _=>z.i+n<=8/\(∀k,z.i<=k->k<z.i+n->aK b k=0)/\(z.i+n=8∨aK b (z.i+n)≠0)) (fun _ _ _=>False) (fun _=>ar) 1000
    (by simp) (by simp[Kj]) (by simp[Kj]) (fun _=>⟨gp 1 (by omega),trivial,trivial,trivial,trivial,trivial,trivial⟩) (fun _=>bw _) rfl rfl (by simp) (by simp) (fun _=>⟨⟨gp 1 (by omega),trivial,trivial,trivial,trivial,trivial,trivial⟩,bw _⟩) (fun _=>⟨trivial,bw _⟩) ?_ ?_ ?_ ?_
   ·rintro β2 w3 n w4 g2 cz ⟨hn8,hz⟩ hk34 hk24 hblk
    have e1:i64.wrap ((z.i:Int)+(n:Int))=((z.i+n:Nat):Int):=by rw[aq (by omega) (by omega)];omega
    have e2:i64.wrap ((n:Int)+1)=((n+1:Nat):Int):=by rw[aq (by omega) (by omega)];omega
    refine ah (L6 (cR b) ⟨z.at_,z.most,z.i,n⟩ w4 (ac β2 1) g2) ?_
    dsimp only
    rw[e1,e2]
    refine ak (fun hlt=>?_) (fun hge3=>?_)
    ·have hlt3:z.i+n<8:=by omega
     refine aa (by omega) (aa (by rw[mm];simp;omega) ?_)
     rw[show 0+((z.i+n:Nat):Int).toNat*1=z.i+n by rw[Int.toNat_natCast];omega,fl b hlt3]
     refine ae (fun he=>?_) (fun he=>?_)
     ·refine aJ ⟨rfl,hk34,fun b hb=>.inl hb⟩ fun β' w' hst hk'=>⟨n+1,by show 9-(n+1)<9-n;omega,?_,hst.objsAt rfl (bw _).2,⟨by omega,fun k h1 h2=>?_⟩,hk'⟩
      ·have:=hst.base 0 (by show 0<1;omega)
       simp only[th,af,SV.den]
       rw[this]
      ·rcases Nat.lt_or_ge k (z.i+n) with h3 |h3
       ·exact hz k h1 h3
       ·have:k=z.i+n:=by omega
        subst this
        have:((aK b (z.i+n):Nat):Int)=0:=by simpa using he
        omega
     ·refine aJ ⟨rfl,hk34,fun b hb=>.inl hb⟩ fun β' w' hst hk'=>⟨.inl ⟨n,rfl,?_,hst.objsAt rfl (bw _).2,hn8,hz,.inr fun hz0=>by rw[hz0]at he;simp at he⟩,hk'⟩
      have:=hst.base 0 (by show 0<1;omega)
      simp only[th,af,SV.den]
      rw[this]
    ·refine aJ ⟨rfl,hk34,fun b hb=>.inl hb⟩ fun β' w' hst hk'=>⟨.inl ⟨n,rfl,?_,hst.objsAt rfl (bw _).2,hn8,hz,.inl (by omega)⟩,hk'⟩
     have:=hst.base 0 (by show 0<1;omega)
     simp only[th,af,SV.den]
     rw[this]
   ·intro β2 w3 hst cz
    exact⟨0,rfl,fun i o hi=>hst.at_ i o hi,by omega,fun k h1 h2=>by omega⟩
   ·rintro w3 n w4 ⟨hn8,hz,hend⟩ cz hk24 g2 bs' hbs'
    have hrun:=ye (i:=z.i) (j:=z.i+n) (by omega) hn8 hz hend
    rw[Nat.add_sub_cancel_left]at hrun
    dsimp only
    have e2:i64.wrap ((z.i:Int)+1)=((z.i+1:Nat):Int):=by rw[aq (by omega) (by omega)];omega
    rw[e2]
    have hmost:1<=z.most/\z.most<=8/\(bM b z.i).2-(bM b z.i).1<=z.most/\(z.most=1∨(bM b z.i).2-(bM b z.i).1=z.most)/\(z.most=1->(bM b z.i).2-(bM b z.i).1=0):=by
     rcases hbest with⟨h1,_,h3⟩ |⟨f,t,h1,h2,h3,_,h5⟩
     ·rw[h1];simp;omega
     ·rw[h1];simp;omega
    refine ak (fun hgt=>?_) (fun hle=>?_)
    ·refine aJ ⟨rfl,hkp.trans hk24,fun x hx=>((hbs' x hx).1).imp id (Nat.le_trans hkp.size)⟩ fun β' w' hst hk'=>⟨⟨(z.i:Int),n,z.i+1⟩,by show 8-(z.i+1)<8-z.i;omega,?_,hst.objsAt rfl (bw _).2,⟨by show z.i+1<=8;omega,.inr ⟨z.i,z.i+n,?_,by omega,by omega,rfl,by show n=_;omega⟩⟩,hk'⟩
     ·have:=hst.base 0 (by show 0<1;omega)
      simp only[yf,af,SV.den]
      rw[this]
     ·show bM b (z.i+1)=_
      rw[dH]
      unfold o7
      rw[hrun,if_pos ⟨by omega,by omega⟩]
    ·refine aJ ⟨rfl,hkp.trans hk24,fun x hx=>((hbs' x hx).1).imp id (Nat.le_trans hkp.size)⟩ fun β' w' hst hk'=>⟨⟨z.at_,z.most,z.i+1⟩,by show 8-(z.i+1)<8-z.i;omega,?_,hst.objsAt rfl (bw _).2,⟨by show z.i+1<=8;omega,?_⟩,hk'⟩
     ·have:=hst.base 0 (by show 0<1;omega)
      simp only[yf,af,SV.den]
      rw[this]
     ·show B2 b (z.i+1) z.at_ z.most
      have:bM b (z.i+1)=bM b z.i:=by
       rw[dH]
       unfold o7
       rw[hrun,if_neg (by omega)]
      unfold B2
      rw[this]
      exact hbest
   ·rintro w3 n w4 hf
    exact hf.elim
  ·refine aJ ⟨rfl,hkp,fun b hb=>.inl hb⟩ fun β' w' hst hk'=>⟨.inl ⟨(z.at_,z.most),rfl,?_,hst.objsAt rfl (bw _).2,?_⟩,hk'⟩
   ·have:=hst.base 0 (by show 0<1;omega)
    simp only[af,SV.den]
    rw[this]
   ·have:z.i=8:=by omega
    rw[this]at hbest
    exact hbest
 ·intro β w0 hst hb
  exact⟨⟨-1,1,0⟩,hsel β,fun i o hi=>hst.at_ i o (by rw[hobj];exact hi),Nat.zero_le _,.inl ⟨rfl,rfl,rfl⟩⟩
 ·rintro w0 p w' hp hb0 hb1 g bs hbs
  exact hk p w' g bs hb1 hbs hp
 ·rintro w0 q' w' h
  exact h.elim
def B8(b:List UInt8)(f t:Nat)(z:S6s):Prop:=
 z.i<=8/\((f=255/\z.at_ = -1/\z.most=1)∨(f+2<=t/\t<=8/\z.at_=(f:Int)/\z.most=t-f))/\z.s.size<=70000*z.i/\(((f=255∨z.i<=f)/\z.s=⟨(jn (lA b 0 z.i)).toArray⟩)∨(f≠255/\t<=z.i/\z.s=⟨(jn (lA b 0 f)++[58,58]++jn (lA b t z.i)).toArray⟩))
theorem tm{s s0:SS}{a a0:List SV}{w:World}{v:IV}{b:List UInt8}{p:Int×Nat}{Q:SE->List Value->World->Prop}{k:ByteArray×(Nat->Value)->World->List Nat->T}{k':Unit×(Nat->Value)->World->List Nat->T}(hf:Fine w s)(hgl:s.gl=[])
  (hobj:s.objs=bV (cR b)) (hN:a.length=115) (hp:B2 b 8 p.1 p.2) (hsel:∀β,gu J8 .normal (af β a)=af β (rq ⟨p.1,p.2,⟨#[]⟩,0⟩))
  (hk:∀w' g bs,Below w.heap.size w w'->(∀b∈bs,w.heap.size<=b)->(k (⟨(jw b).toArray⟩,g) w' bs).holds (c8 Tryz.prog Q)) :
  (T.loop 48 (av Tryz.prog 48 22) a s (LoopHook.X (uh (cR b))) (LoopHook.out (uh (cR b)) a0 s0) k (LoopHook.Y (uh (cR b))) (LoopHook.out' (uh (cR b)) a0 s0) k').holds (c8 Tryz.prog Q):=by
 obtain⟨f,t,hft⟩:∃f t,bM b 8=(f,t):=⟨_,_,rfl⟩
 have hgood:e8 b f t:=by have:=fe b 8 (Nat.le_refl _);rw[hft]at this;exact this
 have htxt:jw b=gS b f t:=by unfold jw;rw[hft]
 have hst0:(f=255/\p.1 = -1/\p.2=1)∨(f+2<=t/\t<=8/\p.1=(f:Int)/\p.2=t-f):=by
  rcases hp with⟨h1,h2,h3⟩ |⟨f',t',h1,h2,h3,h4,h5⟩
  ·rw[hft]at h1
   cases h1
   exact .inl ⟨rfl,h2,h3⟩
  ·rw[hft]at h1
   cases h1
   exact .inr ⟨h2,h3,h4,h5⟩
 rw[htxt]at hk
 refine jg (w:=w) hf hgl 1 (by show s.objs.length=1;rw[hobj];rfl) J8 rq (fun _=>bV (cR b)) (fun z=>8-z.i) (fun _ z _=>B8 b f t z) (fun _ s _=>s=⟨(gS b f t).toArray⟩) (fun _ _ _=>False) (fun _=>MJ v (cR b)) 1000
  hN (by simp[J8]) (by simp[J8]) (fun _=>⟨gp 1 (by omega),trivial,trivial,trivial,trivial,trivial⟩) (fun _=>bw _) rfl rfl (by simp) (by simp) (fun _=>⟨⟨trivial,trivial⟩,bw _⟩) (fun _=>⟨trivial,bw _⟩) ?_ ?_ ?_ ?_
 ·rintro β w3 z w4 g2 hb3 ⟨hi,hat,hsz,hs⟩ hkp hge
  have kf:KFine (ac β 1) w4 (SS.mk (bV (cR b)) [] true w4 (ac β 1)):=⟨rfl,Keep.refl _ _,fun b hb=>.inl hb⟩
  have next:∀(s':ByteArray) (i':Nat) (w5:World) (bs5:List Nat),Keep (ac β 1) w4 w5->(∀x∈bs5,x∈ac β 1∨w4.heap.size<=x)->z.i<i'->B8 b f t ⟨z.at_,z.most,s',i'⟩ ->
    (T.leaf .normal [.ptr 0 0,.int .i64 z.at_ false,.int .i64 z.most false,.str s' false,.int .i64 (i':Int) false] (SS.mk (bV (cR b)) [] true w5 bs5)).holds { P:=Tryz.prog,β0:=β,n0:=1,Q:=sH β (ac β 1) rq (fun _=>bV (cR b)) (fun z=>8-z.i) (fun z _=>B8 b f t z) (.exit 6) (fun s=>[.str s false]) (fun _=>bV (cR b)) (fun s _=>s=⟨(gS b f t).toArray⟩) .ret (fun _:Unit=>[]) (fun _=>bV []) (fun _ _=>False) w3 z }:=fun s' i' w5 bs5 qR hbs5 hlt hinv=>by
   have hi8:i'<=8:=hinv.1
   refine aJ ⟨rfl,hkp.trans qR,fun x hx=>(hbs5 x hx).imp id (Nat.le_trans hkp.size)⟩ fun β' w' hst hk'=>⟨⟨z.at_,z.most,s',i'⟩,by show 8-i'<8-z.i;omega,?_,hst.objsAt rfl (bw _).2,hinv,hk'⟩
   have:=hst.base 0 (by show 0<1;omega)
   simp only[rq,af,SV.den]
   rw[this]
  have hexK:∀ {s':ByteArray}{kk:ByteArray->World->List Nat->T},z.i<8->(∀w' bs',Keep (ac β 1) w4 w'->(∀x∈bs',x∈ac β 1∨w4.heap.size<=x)->(kk ⟨(ax (aK b z.i)).toArray⟩ w' bs').holds { P:=Tryz.prog,β0:=β,n0:=1,Q:=sH β (ac β 1) rq (fun _=>bV (cR b)) (fun z=>8-z.i) (fun z _=>B8 b f t z) (.exit 6) (fun s=>[.str s false]) (fun _=>bV (cR b)) (fun s _=>s=⟨(gS b f t).toArray⟩) .ret (fun _:Unit=>[]) (fun _=>bV []) (fun _ _=>False) w3 z }) ->
    (T.call 76 [.int .i64 ((cR b).getD (0+(z.i:Int).toNat*1) 0) false] (SS.mk (bV (cR b)) [] true w4 (ac β 1)) ByteArray (fun y=>(.str y false,bV (cR b))) kk).holds { P:=Tryz.prog,β0:=β,n0:=1,Q:=sH β (ac β 1) rq (fun _=>bV (cR b)) (fun z=>8-z.i) (fun z _=>B8 b f t z) (.exit 6) (fun s=>[.str s false]) (fun _=>bV (cR b)) (fun s _=>s=⟨(gS b f t).toArray⟩) .ret (fun _:Unit=>[]) (fun _=>bV []) (fun _ _=>False) w3 z }:=fun{s'} {kk} hlt hkk=>by
   rw[show 0+(z.i:Int).toNat*1=z.i by simp,fl b hlt]
   refine cj (R:=fun y _ _=>y=⟨(ax (aK b z.i)).toArray⟩) kf (fun y=>⟨rfl,trivial⟩) (fun β w0 hst ho hb=>?_) (fun y w0 w' bs' _ hr _ hb hbs=>by subst hr;exact hkk w' bs' hb hbs)
   refine(Gb (aK b z.i) (by have:=du b z.i;omega) w0).mono ?_
   rintro e w' ⟨v,rfl,rfl,hb'⟩
   exact⟨_,rfl,hb',rfl⟩
  have hhl:∀j,(ax (aK b j)).length<=65536:=fun j=>by
   have:=cO (aK b j)
   have:=du b j
   omega
  refine ah (L8 v (cR b) z w4 (ac β 1) g2) (ak (fun hlt=>?_) (fun hge'=>?_))
  ·have hlt':z.i<8:=by omega
   have hl:=hhl z.i
   have e2:i64.wrap ((z.i:Int)+1)=((z.i+1:Nat):Int):=by rw[aq (by omega) (by omega)];omega
   have glen:0+(z.i:Int).toNat*1<(cR b).length:=by rw[mm];simp;omega
   refine ae (fun hat0=>?_) (fun hnat=>?_)
   ·have hat1:(z.i:Int)=z.at_:=eq_of_beq hat0
    obtain⟨h1,h2,h3,h4⟩:f+2<=t/\t<=8/\z.at_=(f:Int)/\z.most=t-f:=by
     rcases hat with⟨_,h,_⟩ |h
     ·omega
     ·exact h
    have hif:z.i=f:=by omega
    have hs':z.s=⟨(jn (lA b 0 f)).toArray⟩:=by
     rcases hs with⟨_,h⟩ |⟨_,h,_⟩
     ·rw[hif]at h;exact h
     ·omega
    have e3:i64.wrap (i64.wrap ((z.i:Int)+i64.wrap ((z.most:Int)-1))+1)=((t:Nat):Int):=by
     rw[aq (n:=(z.most:Int)-1) (by omega) (by omega),aq (n:=(z.i:Int)+((z.most:Int)-1)) (by omega) (by omega),aq (by omega) (by omega)]
     omega
    refine aa (by rw[bj];omega) ?_
    rw[e3]
    refine next _ _ _ _ (Keep.refl _ _) (fun x hx=>.inl hx) (by omega) ⟨h2,.inr ⟨h1,h2,h3,h4⟩,?_,.inr ⟨by omega,Nat.le_refl _,?_⟩⟩
    ·show(z.s++ByteArray.mk #[(58:UInt8),(58:UInt8)]).size<=70000*t
     rw[ByteArray.size_append]
     show z.s.size+2<=_
     omega
    ·show z.s++ByteArray.mk #[(58:UInt8),(58:UInt8)]=_
     rw[hs',dt,kx]
     simp[jn]
   ·have hnat':(z.i:Int)≠z.at_:=fun h=>by rw[h]at hnat;simp at hnat
    have hsnoc:∀s',s'=(if(f=255∨z.i<=f)/\0<z.i∨(f≠255/\t<z.i) then z.s++ByteArray.mk #[(58:UInt8)] else z.s)++⟨(ax (aK b z.i)).toArray⟩->B8 b f t ⟨z.at_,z.most,s',z.i+1⟩:=by
     rintro s' rfl
     have hsize:∀c:ByteArray,c.size<=z.s.size+1->(c++(⟨(ax (aK b z.i)).toArray⟩:ByteArray)).size<=70000*(z.i+1):=fun c hc=>by
      rw[ByteArray.size_append,aC (ax (aK b z.i))]
      omega
     have hs1:(z.s++ByteArray.mk #[(58:UInt8)]).size=z.s.size+1:=by rw[ByteArray.size_append];rfl
     refine⟨by show z.i+1<=8;omega,hat,?_,?_⟩
     ·show(_++(⟨(ax (aK b z.i)).toArray⟩:ByteArray)).size<=_
      apply hsize
      split
      ·omega
      ·omega
     ·show((f=255∨z.i+1<=f)/\_=_)∨(f≠255/\t<=z.i+1/\_=_)
      rcases hs with⟨h1,h2⟩ |⟨h1,h2,h3⟩
      ·have hf1:f=255∨z.i+1<=f:=by
        rcases h1 with h |h
        ·exact .inl h
        ·rcases hat with⟨h',_⟩ |⟨_,_,h',_⟩
         ·exact .inl h'
         ·exact .inr (by omega)
       refine .inl ⟨hf1,?_⟩
       rcases Nat.eq_zero_or_pos z.i with h0 |h0
       ·rw[if_neg (by rintro(⟨_,h⟩ |⟨h,h'⟩) <;> omega),h2,dt,dw b (Nat.zero_le _),h0,kx]
        simp[jn]
       ·rw[if_pos (.inl ⟨h1,h0⟩),h2,dt,dt,dw b (Nat.zero_le _),mr,if_neg (rt b h0)]
      ·refine .inr ⟨h1,by omega,?_⟩
       rcases Nat.lt_or_ge t z.i with h0 |h0
       ·rw[if_pos (.inr ⟨h1,h0⟩),h3,dt,dt,dw b (Nat.le_of_lt h0),mr,if_neg (rt b h0)]
        simp
       ·have hti:z.i=t:=by omega
        have hft2:f+2<=t:=by
         rcases hat with⟨h',_⟩ |⟨h',_⟩
         ·exact absurd h' h1
         ·exact h'
        rw[if_neg (by rintro(⟨h |h,_⟩ |⟨_,h'⟩) <;> omega),h3,dt,dw b (by omega),hti,kx]
        simp[jn]
    rw[e2]
    refine ak (fun hpos=>ak (fun hneg=>?_) (fun hnn=>ae (fun hne=>?_) (fun heq=>?_))) (fun hz0=>?_)
    ·have hf255:f=255:=by
      rcases hat with⟨h,_⟩ |⟨_,_,h,_⟩
      ·exact h
      ·omega
     refine aa (by rw[bj];omega) (aa (by omega) (aa glen (hexK (s':=z.s) hlt' fun w5 bs5 qR hbs5=>?_)))
     refine aa (by rw[ByteArray.size_append,aC (ax (aK b z.i)),bj];show((z.s.size+1+_:Nat):Int)<=_;omega) ?_
     refine next _ _ _ _ qR hbs5 (by omega) (hsnoc _ ?_)
     rw[if_pos (.inl ⟨.inl hf255,by omega⟩)]
    ·have hne':(z.i:Int)≠i64.wrap (z.at_+(z.most:Int)):=bne_iff_ne.1 hne
     refine aa (by rw[bj];omega) (aa (by omega) (aa glen (hexK (s':=z.s) hlt' fun w5 bs5 qR hbs5=>?_)))
     refine aa (by rw[ByteArray.size_append,aC (ax (aK b z.i)),bj];show((z.s.size+1+_:Nat):Int)<=_;omega) ?_
     refine next _ _ _ _ qR hbs5 (by omega) (hsnoc _ ?_)
     rw[if_pos]
     rcases hat with⟨_,h,_⟩ |⟨g1,g2,g3,g4⟩
     ·omega
     ·rw[aq (by omega) (by omega)]at hne'
      rcases hs with⟨h1,_⟩ |⟨h1,h2,_⟩
      ·exact .inl ⟨h1,by omega⟩
      ·exact .inr ⟨h1,by omega⟩
    ·have heq':(z.i:Int)=i64.wrap (z.at_+(z.most:Int)):=by simpa using heq
     refine aa (by omega) (aa glen (hexK (s':=z.s) hlt' fun w5 bs5 qR hbs5=>?_))
     refine aa (by rw[aC (ax (aK b z.i)),bj];omega) ?_
     refine next _ _ _ _ qR hbs5 (by omega) (hsnoc _ ?_)
     rw[if_neg]
     rcases hat with⟨_,h,_⟩ |⟨g1,g2,g3,g4⟩
     ·omega
     ·rw[aq (by omega) (by omega)]at heq'
      rintro(⟨h |h,_⟩ |⟨_,h⟩) <;> omega
    ·refine aa (by omega) (aa glen (hexK (s':=z.s) hlt' fun w5 bs5 qR hbs5=>?_))
     refine aa (by rw[aC (ax (aK b z.i)),bj];omega) ?_
     refine next _ _ _ _ qR hbs5 (by omega) (hsnoc _ ?_)
     rw[if_neg]
     rintro(⟨_,h⟩ |⟨h,h'⟩) <;> omega
  ·have hi8:z.i=8:=by omega
   refine aJ ⟨rfl,hkp,fun b hb=>.inl hb⟩ fun β' w' hst hk'=>⟨.inl ⟨z.s,rfl,rfl,hst.objsAt rfl (bw _).2,?_⟩,hk'⟩
   rcases hs with⟨h1,h2⟩ |⟨h1,h2,h3⟩
   ·have hf255:f=255:=by
     rcases h1 with h |h
     ·exact h
     ·rcases hat with⟨h',_⟩ |⟨h',h'',_⟩
      ·exact h'
      ·omega
    rw[h2,gS,if_pos hf255,hi8]
   ·rw[h3,gS,if_neg h1,hi8]
 ·intro β w3 hst hb3
  exact⟨⟨p.1,p.2,⟨#[]⟩,0⟩,hsel β,fun i o hi=>hst.at_ i o (by rw[hobj];exact hi),Nat.zero_le _,hst0,Nat.zero_le _,.inl ⟨.inr (Nat.zero_le _),rfl⟩⟩
 ·rintro w3 s w4 rfl hb3 hb4 g2 bs3 hbs3
  exact hk w4 g2 bs3 hb4 hbs3
 ·rintro w3 s w4 hf
  exact hf.elim
theorem MM{x y:Nat}(hx:x<65536)(hy:y<65536):i64.wrap (((BitVec.ofInt 64 (x:Int) |||BitVec.ofInt 64 (y:Int)).toNat:Nat):Int)=((x |||y:Nat):Int):=by
 have f1:∀m:Nat,m<65536->(BitVec.ofInt 64 (m:Int)).toNat=m:=fun m hm=>by
  simp
  omega
 have h:x |||y<2^16:=Nat.or_lt_two_pow hx hy
 rw[BitVec.toNat_or,f1 x hx,f1 y hy]
 exact aq (by omega) (by omega)
theorem ML{x y:Nat}:x |||y=0 ↔ x=0/\y=0:=by
 constructor
 ·intro h
  constructor
  ·have:=Nat.left_le_or (n:=x) (m:=y)
   omega
  ·have:=Nat.right_le_or (n:=x) (m:=y)
   omega
 ·rintro⟨rfl,rfl⟩
  rfl
theorem lq{b:List UInt8}(hl:b.length=16):cD b ↔ (aK b 0=0/\aK b 1=0/\aK b 2=0/\aK b 3=0/\aK b 4=0/\aK b 5=65535):=by
 match b,hl with
 |[a0,a1,a2,a3,a4,a5,a6,a7,a8,a9,a10,a11,a12,a13,a14,a15],_=>
  have h10:=a10.toNat_lt
  have h11:=a11.toNat_lt
  have z:∀ {x y:UInt8},x.toNat*256+y.toNat=0 ↔ x=0/\y=0:=fun{x y}=>by
   constructor
   ·intro h
    exact⟨UInt8.toNat_inj.1 (by show x.toNat=0;omega),UInt8.toNat_inj.1 (by show y.toNat=0;omega)⟩
   ·rintro⟨rfl,rfl⟩
    rfl
  have m:a10.toNat*256+a11.toNat=65535 ↔ a10=255/\a11=255:=by
   constructor
   ·intro h
    exact⟨UInt8.toNat_inj.1 (by show a10.toNat=255;omega),UInt8.toNat_inj.1 (by show a11.toNat=255;omega)⟩
   ·rintro⟨rfl,rfl⟩
    rfl
  show[a0,a1,a2,a3,a4,a5,a6,a7,a8,a9,a10,a11]=[0,0,0,0,0,0,0,0,0,0,255,255] ↔ (a0.toNat*256+a1.toNat=0/\a2.toNat*256+a3.toNat=0/\a4.toNat*256+a5.toNat=0/\a6.toNat*256+a7.toNat=0/\a8.toNat*256+a9.toNat=0/\a10.toNat*256+a11.toNat=65535)
  rw[z,z,z,z,z,m]
  simp only[List.cons.injEq,and_true,and_assoc]
theorem GK(a b c d:UInt8):er [a,b,c,d]=aE a b c d:=by
 simp only[er,aE,jC a.toNat_lt,jC b.toNat_lt,jC c.toNat_lt,jC d.toNat_lt]
 simp
theorem Gc(A:Option Addr)(n c:Nat)(b:List UInt8)(B:Nat)(w:World)(h:Bts w B A n b)(hl:b.length=16)(hc:n<=c)(hB:B<=w.heap.size):Calls Tryz.prog 48 #[.slice A n c] w (bB (fun v _=>v=.string ⟨(pK b).toArray⟩) w):=by
 have hn:n=16:=by have:=h.1;omega
 subst hn
 refine aF (hk:=MJ ⟨A,16,c⟩ (cR b)) (n:=1000) (args:=[.xs A 16 c]) ⟨trivial,trivial⟩ ?_
 refine ah (OI ⟨A,16,c⟩ (cR b) w) ?_
 refine CQ (c:=c) h hB (Fine.start w _) rfl rfl rfl (fun β=>rfl) ?_
 intro w1 g1 bs1 hw1 hbs1
 dsimp only
 have hg:∀j,aK b j<65536:=du b
 have glen:=mm b
 simp only[fl b (show 0<8 by omega),fl b (show 1<8 by omega),fl b (show 2<8 by omega),fl b (show 3<8 by omega),fl b (show 4<8 by omega),fl b (show 5<8 by omega)]
 have o1:aK b 0 |||aK b 1<65536:=Nat.or_lt_two_pow (n:=16) (hg 0) (hg 1)
 have o2:aK b 0 |||aK b 1 |||aK b 2<65536:=Nat.or_lt_two_pow (n:=16) o1 (hg 2)
 have o3:aK b 0 |||aK b 1 |||aK b 2 |||aK b 3<65536:=Nat.or_lt_two_pow (n:=16) o2 (hg 3)
 rw[MM (hg 0) (hg 1),MM o1 (hg 2),MM o2 (hg 3),MM o3 (hg 4)]
 refine aa (by omega) (aa (by omega) (aa (by omega) (aa (by omega) (aa (by omega) (ae (fun h0=>aa (by omega) (ae (fun h5=>?_) (fun h5=>?_))) (fun h0=>?_))))))
 ·have hz:aK b 0 |||aK b 1 |||aK b 2 |||aK b 3 |||aK b 4=0:=by have:=eq_of_beq h0;omega
  have h5':aK b 5=65535:=by have:=eq_of_beq h5;omega
  rw[ML,ML,ML,ML]at hz
  have hm:cD b:=(lq hl).2 ⟨hz.1.1.1.1,hz.1.1.1.2,hz.1.1.2,hz.1.2,hz.2,h5'⟩
  obtain⟨a,rfl,_⟩:=h.2 (by omega)
  refine aa (by omega) ?_
  refine ff (Γ:=c8 Tryz.prog _) (w:=w) (R:=fun(x:ByteArray) _ _=>x=⟨(aE (b.getD 12 0) (b.getD 13 0) (b.getD 14 0) (b.getD 15 0)).toArray⟩) (Fine.mk' hw1 hbs1) (fun x=>⟨rfl,trivial⟩) (fun β w2 hst ho hb=>?_) ?_
  ·have hd:=l9 (h.below (hb.mono hB) (Nat.le_refl _)) (show 12<=16 by omega)
   rw[DZ hl]at hd
   have hc12:(if c=12 then some a else Option.map (fun x=>x.add 12) (some a))=some (a.add 12):=by rw[if_neg (by omega)];rfl
   show Calls Tryz.prog 47 #[.slice (if c=12 then some a else Option.map (fun x=>x.add 12) (some a)) (16-12) (c-12)] w2 _
   rw[hc12]
   refine(xT (some (a.add 12)) 4 (c-12) _ B w2 hd (Nat.le_trans hB hb.size) (by simp)).mono ?_
   rintro e w' ⟨v,rfl,rfl,hb'⟩
   rw[GK]
   exact⟨_,rfl,hb',rfl⟩
  rintro x w2 w3 b3 _ rfl _ hb3 hbs3
  refine aa ?_ (aQ (Fine.mk' hb3 hbs3) fun β w' _ _=>?_)
  ·rw[aC,bj]
   have:=kz (b.getD 12 0) (b.getD 13 0) (b.getD 14 0) (b.getD 15 0)
   omega
  ·show Value.string ((⟨[58,58,102,102,102,102,58].toArray⟩:ByteArray)++⟨(aE (b.getD 12 0) (b.getD 13 0) (b.getD 14 0) (b.getD 15 0)).toArray⟩)=_
   rw[dt]
   unfold pK
   rw[if_pos hm]
 ·have hm:¬cD b:=fun hm=>by
   have:=((lq hl).1 hm).2.2.2.2.2
   rw[this]at h5
   simp at h5
  unfold pK
  rw[if_neg hm]
  refine tk (w:=w) (b:=b) (Fine.mk' hw1 hbs1) rfl rfl rfl (fun β=>rfl) ?_
  intro p w2 g2 bs2 hw2 hbs2 hp
  refine tm (w:=w) (v:=⟨A,16,c⟩) (b:=b) (p:=p) (Fine.mk' hw2 hbs2) rfl rfl rfl hp (fun β=>rfl) ?_
  intro w3 g3 bs3 hw3 hbs3
  exact aQ (Fine.mk' hw3 hbs3) fun β w' _ _=>rfl
 ·have hm:¬cD b:=fun hm=>by
   obtain⟨q0,q1,q2,q3,q4,_⟩:=(lq hl).1 hm
   rw[q0,q1,q2,q3,q4]at h0
   simp at h0
  unfold pK
  rw[if_neg hm]
  refine tk (w:=w) (b:=b) (Fine.mk' hw1 hbs1) rfl rfl rfl (fun β=>rfl) ?_
  intro p w2 g2 bs2 hw2 hbs2 hp
  refine tm (w:=w) (v:=⟨A,16,c⟩) (b:=b) (p:=p) (Fine.mk' hw2 hbs2) rfl rfl rfl hp (fun β=>rfl) ?_
  intro w3 g3 bs3 hw3 hbs3
  exact aQ (Fine.mk' hw3 hbs3) fun β w' _ _=>rfl
end
section
open Go Go.Rx Go.RowKit
def OL(code:Int)(v:Value)(_:World):Prop:=
 ∃x:PX,v=.tuple #[.agg #[.string x.name,.int .i64 x.cd,.int .i64 x.size,.bool x.path,.slice none 0 0],.bool x.ok]/\(x.ok=true->code∈bc/\x=⟨⟨(ai code).name.toArray⟩,code,(ai code).size,(ai code).path,true⟩)/\(code∈bc->x.ok=true)
theorem mw(code:Int)(w:World):Calls Tryz.prog 14 #[.int .i64 code] w (bB (OL code) w):=by
 refine aF (hk:=ar) (n:=1000) (args:=[.int .i64 code false]) ⟨trivial,trivial⟩ ?_
 rw[Q3]
 have leaf:∀(nm:ByteArray) (sz:Int) (l1 l2 l3 l4 l5:Bool) (objs:List SObj),code∈bc->nm=⟨(ai code).name.toArray⟩->sz=(ai code).size->(code == 400)=(ai code).path ->
   (T.leaf .ret [(.tup [(.agg [(.str nm l1),(.int .i64 code l2),(.int .i64 sz l3),(.bool (code == 400) l4),(.one (.slice none 0 0) rfl)]),(.bool true l5)])] (SS.mk objs [] true w [])).holds (c8 Tryz.prog (bH fun v w'=>OL code v w'/\Below w.heap.size w w')):=
  fun nm sz _ _ _ _ _ objs h h1 h2 h3=>aQ (Fine.start _ _) fun β w' _ _=>⟨⟨nm,code,sz,(code == 400),true⟩,rfl,fun _=>⟨h,by rw[h1,h2,h3]⟩,fun _=>rfl⟩
 repeat' (refine ae (fun _=>?_) (fun _=>?_))
 all_goals first
  |(rename_i hc;have hcode:=eq_of_beq hc;subst hcode;exact leaf _ _ _ _ _ _ _ _ (by decide) rfl rfl rfl)
  |(refine aQ (Fine.start _ _) fun β w' _ _=>⟨⟨_,_,_,_,false⟩,rfl,fun h=>Bool.noConfusion h,fun h=>?_⟩
    simp only[bc,List.mem_cons,List.not_mem_nil,or_false]at h
    simp_all)
theorem iJ{Q:SE->List Value->World->Prop}{s:SS}{w:World}{code:Int}{a0:List SV}{s0:SS}{k:PX->World->List Nat->T}(hf:Fine w s)(hs0:s0.objs=s.objs)
  (hk:∀x w' bs,Below w.heap.size w w'->(∀b∈bs,w.heap.size<=b)->(x.ok=true->code∈bc/\x=⟨⟨(ai code).name.toArray⟩,code,(ai code).size,(ai code).path,true⟩)->(code∈bc->x.ok=true)->(k x w' bs).holds (c8 Tryz.prog Q)) :
  (T.call 14 [.int .i64 code false] s (Hook.X bi) (Hook.out bi a0 s0) k).holds (c8 Tryz.prog Q):=by
 refine ff (Γ:=c8 Tryz.prog Q) (R:=fun x _ _=>(x.ok=true->code∈bc/\x=⟨⟨(ai code).name.toArray⟩,code,(ai code).size,(ai code).path,true⟩)/\(code∈bc->x.ok=true)) hf (fun x=>⟨hs0,⟨trivial,trivial,trivial,trivial,trivial,trivial⟩,trivial,trivial⟩) (fun β w0 hst ho hb=>?_) (fun x w0 w' bs _ hr _ hb hbs=>hk x w' bs hb hbs hr.1 hr.2)
 refine(mw code w0).mono ?_
 rintro e w' ⟨v,rfl,⟨x,rfl,hx⟩,hb'⟩
 exact⟨x,rfl,hb',hx⟩
theorem s8(l:List UInt8)(hl:l.length<2^62)(w:World):Calls Tryz.prog 38 #[.string ⟨l.toArray⟩] w (bB (gv fun b=>b=true->Nm l/\l.length<=60) w):=by
 refine aF (hk:=DD ⟨l.toArray⟩) (n:=1000) (args:=[.str ⟨l.toArray⟩ false]) ⟨trivial,trivial⟩ ?_
 rw[Q5]
 have hsz:(⟨l.toArray⟩:ByteArray).size=l.length:=aC _
 have hget:∀j,((⟨l.toArray⟩:ByteArray).data.toList.getD j 0)=l.getD j 0:=fun j=>rfl
 refine ii (Fine.start w _) Ke (α:=Nat) (fun i=>[.str ⟨l.toArray⟩ false,.int .i64 i false]) (fun i=>l.length-i) (fun _ i _=>i<=l.length/\∀j,j<i->l.getD j 0≠47)
  (fun _ e lv _=>(e=.ret/\lv=[.bool false])∨(e=.exit 0/\lv=[.string ⟨l.toArray⟩]/\∀j,j<l.length->l.getD j 0≠47)) (fun _=>ar) 1000 (by simp) (by simp[Ke]) (by simp[Ke]) (fun _=>⟨trivial,trivial,trivial⟩) rfl rfl rfl
  (by simp) (by simp) (fun _=>⟨trivial,trivial⟩) (fun _=>⟨trivial,trivial⟩) ?_ ?_ ?_
 ·rintro w0 i w1 g _ ⟨hi,hall⟩ hb0 _
  refine ah (Ov _ w1 i g) ?_
  simp only[hsz,hget,Int.toNat_natCast]
  refine ak (fun hlt=>?_) (fun hge=>dp (Fine.nil hb0) (by simp) fun β w' _ _=>.inr ⟨rfl,rfl,fun j hj=>hall j (by omega)⟩)
  have hlt':i<l.length:=by omega
  refine aa (by omega) ?_
  by_cases hc:l.getD i 0=47
  ·simp only[hc]
   refine ae (fun _=>ae (fun _=>ae (fun _=>ae (fun _=>ae (fun _=>ae (fun _=>dp (Fine.nil hb0) (by simp) fun β w' _ _=>.inl ⟨rfl,rfl⟩) (fun h=>absurd h (by decide))) (fun h=>absurd h (by decide))) (fun h=>absurd h (by decide))) (fun h=>absurd h (by decide))) (fun h=>absurd h (by decide))) (fun h=>absurd h (by decide))
  ·have hnext:∀(β:Nat->Nat),∃y,l.length-y<l.length-i/\af β [(.str ⟨l.toArray⟩ false),(.int .i64 (i64.wrap ((i:Int)+1)) false)]=af id [.str ⟨l.toArray⟩ false,.int .i64 (y:Nat) false]/\y<=l.length/\∀j,j<y->l.getD j 0≠47:=by
    intro β
    refine⟨i+1,by omega,?_,by omega,fun j hj=>?_⟩
    ·rw[zj hlt' (by omega)]
     rfl
    ·by_cases h:j=i
     ·rw[h];exact hc
     ·exact hall j (by omega)
   repeat' (refine ae (fun _=>?_) (fun _=>?_))
   all_goals first
    |exact fY (Fine.nil hb0) fun β w' _ _=>hnext β
    |exact dp (Fine.nil hb0) (by simp) fun β w' _ _=>.inl ⟨rfl,rfl⟩
 ·intro β w0 hst hb
  exact⟨0,rfl,Nat.zero_le _,fun j hj=>absurd hj (Nat.not_lt_zero j)⟩
 ·rintro β w0 hst hb e lv w' (⟨rfl,rfl⟩ |⟨rfl,rfl,hall⟩) hb0 hb1
  ·exact .inl ⟨(),rfl,rfl,fun g bs hbs=>aQ (Fine.mk' hb1 hbs) fun β w' _ _=>⟨_,rfl,fun h=>Bool.noConfusion h⟩⟩
  ·refine .inr ⟨(),rfl,rfl,fun g bs hbs=>?_⟩
   rw[hsz]
   refine ae (fun h1=>?_) (fun _=>aQ (Fine.mk' hb1 hbs) fun β w' _ _=>⟨_,rfl,fun h=>Bool.noConfusion h⟩)
   refine aQ (Fine.mk' hb1 hbs) fun β w' _ _=>⟨_,rfl,fun h2=>⟨⟨?_,fun x hx=>?_⟩,?_⟩⟩
   ·rintro rfl
    simp at h1
   ·obtain⟨j,hj,rfl⟩:=List.getElem_of_mem hx
    have:=hall j hj
    rw[List.getD_eq_getElem?_getD,List.getElem?_eq_getElem hj]at this
    exact this
   ·have:=of_decide_eq_true h2
    omega
theorem Dx(l:List UInt8)(n:Nat):(⟨l.toArray⟩:ByteArray).extract 1 n=⟨((l.take n).drop 1).toArray⟩:=by
 apply ByteArray.ext
 rw[ByteArray.data_extract]
 apply Array.ext'
 simp[List.drop_take]
theorem Ed(l:List UInt8)(hl:l.length<2^61)(w:World):Calls Tryz.prog 37 #[.string ⟨l.toArray⟩] w (bB (gv fun b=>b=true->Pth l) w):=by
 refine aF (hk:=KA) (n:=1000) (args:=[.str ⟨l.toArray⟩ false]) ⟨trivial,trivial⟩ ?_
 rw[Q4]
 refine ii (Fine.start w _) Kd (α:=List UInt8) (fun u=>[.str ⟨u.toArray⟩ false]) (fun u=>u.length) (fun _ u _=>∃pre,l=pre++u/\(pre=[] ∨ l.getD 0 0=47))
  (fun _ e lv _=>(e=.ret/\∃b,lv=[.bool b]/\(b=true->Pth l))∨(e=.exit 0/\lv=[])) (fun u=>GS ⟨u.toArray⟩) 1000 (by simp) (by simp[Kd]) (by simp[Kd]) (fun _=>⟨trivial,trivial⟩) rfl rfl rfl
  (by simp) (by simp) (fun _=>⟨trivial,trivial⟩) (fun _=>trivial) ?_ ?_ ?_
 ·rintro w0 u w1 g hbw0 ⟨pre,hpre,h47⟩ hb0 hbw
  have hul:u.length<=l.length:=by rw[hpre];simp
  have hsz:(⟨u.toArray⟩:ByteArray).size=u.length:=aC _
  refine ah (QO ⟨u.toArray⟩ w1 g) ?_
  rw[hsz]
  refine ak (fun hpos=>?_) (fun _=>dp (Fine.nil hb0) (by simp) fun β w' _ _=>.inr ⟨rfl,rfl⟩)
  have hpos':0<u.length:=by omega
  refine aa (by omega) ?_
  refine ae (fun _=>dp (Fine.nil hb0) (by simp) fun β w' _ _=>.inl ⟨rfl,_,rfl,fun h=>Bool.noConfusion h⟩) (fun hne=>?_)
  have hu0:u.getD 0 0=47:=by
   have h1:((((⟨u.toArray⟩:ByteArray).data.toList.getD 0 0).toNat:Nat):Int)=47:=by simpa using hne
   have h2:(u.getD 0 0).toNat=47:=by
    have h1':(((u.getD 0 0).toNat:Nat):Int)=47:=h1
    omega
   exact UInt8.toNat_inj.1 h2
  have hl0:l.getD 0 0=47:=by
   rcases h47 with rfl |h
   ·rw[hpre];exact hu0
   ·exact h
  refine ii (w:=w0) (Fine.nil hb0) (C9 ⟨u.toArray⟩) (α:=Nat) (fun n=>[.str ⟨u.toArray⟩ false,.int .i64 n false]) (fun n=>u.length-n) (fun _ n _=>1<=n/\n<=u.length)
   (fun _ e lv _=>e=.exit 2/\∃n:Nat,1<=n/\n<=u.length/\lv=[.string ⟨u.toArray⟩,.int .i64 n]) (fun _=>ar) 1000 (by simp) (by simp[C9]) (by simp[C9]) (fun _=>⟨trivial,trivial,trivial⟩) rfl rfl rfl
   (by simp) (by simp) (fun _=>⟨trivial,trivial,trivial⟩) (fun _=>trivial) ?_ ?_ ?_
  ·rintro w2 n w3 g2 _ ⟨hn1,hn2⟩ hb3 _
   refine ah (N9 ⟨u.toArray⟩ n w3 g2) ?_
   rw[hsz]
   refine ak (fun hlt=>?_) (fun _=>dp (Fine.nil hb3) (by simp) fun β w' _ _=>⟨rfl,n,hn1,hn2,rfl⟩)
   have hlt':n<u.length:=by omega
   refine aa (by omega) ?_
   refine ae (fun _=>fY (Fine.nil hb3) fun β w' _ _=>⟨n+1,by omega,?_,by omega,by omega⟩) (fun _=>dp (Fine.nil hb3) (by simp) fun β w' _ _=>⟨rfl,n,hn1,hn2,rfl⟩)
   rw[zj hlt' (by omega)]
   rfl
  ·intro β w2 hst hb
   exact⟨1,rfl,Nat.le_refl _,hpos'⟩
  ·rintro β w2 hst hb e lv w3 ⟨rfl,n,hn1,hn2,rfl⟩ hb23 hb03
   refine .inl ⟨n,rfl,rfl,fun g2 bs hbs=>?_⟩
   have hf3:Fine w0 (SS.mk [] [] true w3 bs):=Fine.mk' hb03 hbs
   refine aa (by dsimp only;omega) (aa (by dsimp only;omega) ?_)
   dsimp only
   rw[Int.toNat_natCast,Dx]
   refine g7 (fun b=>b=true->Nm ((u.take n).drop 1)/\((u.take n).drop 1).length<=60) hf3 rfl (fun β w4 _ _ _=>s8 _ (by simp;omega) w4) (fun b w4 bs4 hR hb4 hbs4=>?_)
   have hf4:Fine w0 (SS.mk [] [] true w4 bs4):=Fine.mk' hb4 hbs4
   refine ae (fun _=>dp hf4 (by simp) fun β w' _ _=>.inl ⟨rfl,_,rfl,fun h=>Bool.noConfusion h⟩) (fun hbt=>aa (by omega) ?_)
   have hbt':b=true:=by simpa using hbt
   obtain⟨hnm,_⟩:=hR hbt'
   rw[show(⟨u.toArray⟩:ByteArray).extract n u.length=⟨(u.drop n).toArray⟩ by rw[<- hsz,jE]]
   refine ae (fun hend=>dp hf4 (by simp) fun β w' _ _=>.inl ⟨rfl,_,rfl,fun _=>?_⟩) (fun hnend=>fY hf4 fun β w' _ _=>⟨u.drop n,?_,rfl,pre++u.take n,?_,.inr hl0⟩)
   ·have hd:u.drop n=[]:=by
     have h1:(⟨(u.drop n).toArray⟩:ByteArray).toList=(ByteArray.mk #[]).toList:=eq_of_beq hend
     rw[ByteArray.toList_eq,ByteArray.toList_eq]at h1
     simpa using h1
    have hnu:n=u.length:=by
     have:=congrArg List.length hd
     simp at this
     omega
    have htk:u.take n=u:=by rw[hnu];exact List.take_length
    rw[htk]at hnm
    have hu2:2<=u.length:=by
     have:=List.length_pos_iff.2 hnm.1
     simp at this
     omega
    have hlen:l.length=pre.length+u.length:=by rw[hpre];simp
    refine⟨by omega,hl0,?_⟩
    have hlast:l.getD (l.length-1) 0=u.getD (u.length-1) 0:=by
     rw[List.getD_eq_getElem?_getD,List.getD_eq_getElem?_getD,hlen]
     conv=>lhs;rw[hpre,List.getElem?_append_right (by omega)]
     congr 2
     omega
    rw[hlast,List.getD_eq_getElem?_getD,List.getElem?_eq_getElem (by omega)]
    refine hnm.2 _ ?_
    rw[List.mem_drop_iff_getElem]
    exact⟨u.length-2,by omega,by simp only[Option.getD_some];congr 1;omega⟩
   ·rw[List.length_drop]
    omega
   ·rw[List.append_assoc,List.take_append_drop]
    exact hpre
 ·intro β w0 hst hb
  exact⟨l,rfl,[],rfl,.inl rfl⟩
 ·rintro β w0 hst hb e lv w' (⟨rfl,b,rfl,hp⟩ |⟨rfl,rfl⟩) hb0 hb1
  ·exact .inl ⟨b,rfl,rfl,fun g bs hbs=>aQ (Fine.mk' hb1 hbs) fun β w' _ _=>⟨_,rfl,hp⟩⟩
  ·exact .inr ⟨(),rfl,rfl,fun g bs hbs=>aQ (Fine.mk' hb1 hbs) fun β w' _ _=>⟨_,rfl,fun h=>Bool.noConfusion h⟩⟩
end
section
open Go Go.Rx Go.RowKit
@[reducible] def pF:Hook:={ X:=Nat,out:=fun _ s x=>(.int .u64 x false,s.objs) }
def KR:Hooks:={ calls:=fun f=>if f=14 then some bi else if f=47∨f=48∨f=49 then some aR else if f=50 then some pF else none,loops:=fun _ _=>none }
noncomputable abbrev gV(code:Int)(A:Option Addr)(n c:Nat)(x0:(Hook.X (bi)))(w0:World)(b0:List Nat):SS:=(SS.mk [(.cells [(.int .i64 code false),(.xs A n c)] 2 31 0 0),(.cells [(.str x0.name false),(.int .i64 x0.cd false),(.int .i64 x0.size false),(.bool x0.path false),(.one (.slice none 0 0) rfl)] 5 34 0 0)] [] true w0 b0)
theorem My(code:Int)(A:Option Addr)(n c:Nat)(w:World):al Tryz.prog KR 1000 17 [.agg [.int .i64 code false,.xs A n c]] (SS.at w) =
(.hc 14 [(.int .i64 code false)] (SS.mk [(.cells [(.int .i64 code false),(.xs A n c)] 2 31 0 0)] [] true w []) (bi) fun x0 w0 b0=>(.split (x0.size == (0:Int)) (.leaf .ret [(.str (ByteArray.mk #[]) true)] (gV code A n c x0 w0 b0)) (.split (code == (4:Int)) (.hc 47 [(.xs A n c)] (gV code A n c x0 w0 b0) (aR) fun x1 w1 b1=>(.leaf .ret [(.str x1 false)] (gV code A n c x0 w1 b1))) (.split (code == (41:Int)) (.hc 48 [(.xs A n c)] (gV code A n c x0 w0 b0) (aR) fun x1 w1 b1=>(.leaf .ret [(.str x1 false)] (gV code A n c x0 w1 b1))) (.split (decide (x0.size > (0:Int))) (.hc 50 [(.xs A n c)] (gV code A n c x0 w0 b0) (pF) fun x1 w1 b1=>(.hc 49 [(.int .u64 ((↑x1:Int)) false)] (gV code A n c x0 w1 b1) (aR) fun x2 w2 b2=>(.leaf .ret [(.str x2 false)] (gV code A n c x0 w2 b2)))) (.need (canBytes w0 b0 A n) (.leaf .ret [(.str (bytesAt w0 A n) false)] (gV code A n c x0 w0 b0)))))))):=by kernel_rfl
theorem Ro(code:Int)(A:Option Addr)(n c:Nat)(w:World):(by have h:=My code A n c w;unfold gV at h;exact type_of% h):=My code A n c w
theorem Qu{k:Int}(hk:k∈bc)(hs:(ai k).size=0)(hp:(ai k).path=false)(ht:∀β,xq.den β=(ai k).tr)(val:List UInt8)(h:(val.length:Int)=(ai k).size/8):∃txt,Simple k val txt:=by
 rw[hs]at h
 have:val=[]:=List.eq_nil_of_length_eq_zero (by omega)
 subst this
 exact⟨_,.N hk hs hp ht⟩
theorem Qv{k:Int}(hk:k∈bc)(hs:(ai k).size=16)(hp:(ai k).path=false)(ht:∀β,tq.den β=(ai k).tr)(val:List UInt8)(h:(val.length:Int)=(ai k).size/8):∃txt,Simple k val txt:=by
 rw[hs]at h
 have hl:val.length=2:=by omega
 match val,hl with
 |[a,b],_=>exact⟨_,.P hk hs hp ht a b⟩
theorem Qs{k:Int}(hk:k∈bc)(hs:(ai k).size=32)(hp:(ai k).path=false)(ht:∀β,yp.den β=(ai k).tr)(val:List UInt8)(h:(val.length:Int)=(ai k).size/8):∃txt,Simple k val txt:=by
 rw[hs]at h
 have hl:val.length=4:=by omega
 match val,hl with
 |[a,b,c,d],_=>exact⟨_,.F hk hs hp ht a b c d⟩
theorem Qw{k:Int}(hk:k∈bc)(hs:(ai k).size=128)(hp:(ai k).path=false)(ht:∀β,yr.den β=(ai k).tr)(val:List UInt8)(h:(val.length:Int)=(ai k).size/8):∃txt,Simple k val txt:=by
 rw[hs]at h
 exact⟨_,.S hk hs hp ht val (by omega)⟩
theorem Qr{k:Int}(hk:k∈bc)(hs:(ai k).size=8)(hp:(ai k).path=false)(ht:∀β,yn.den β=(ai k).tr)(val:List UInt8)(h:(val.length:Int)=(ai k).size/8):∃txt,Simple k val txt:=by
 rw[hs]at h
 have hl:val.length=1:=by omega
 match val,hl with
 |[a],_=>exact⟨_,.C hk hs hp ht a⟩
theorem Qt{k:Int}(hk:k∈bc)(hs:(ai k).size=64)(hp:(ai k).path=false)(ht:∀β,yq.den β=(ai k).tr)(val:List UInt8)(h:(val.length:Int)=(ai k).size/8):∃txt,Simple k val txt:=by
 rw[hs]at h
 have hl:val.length=8:=by omega
 match val,hl with
 |[a,b,c,d,e,f,g,h],_=>exact⟨_,.M hk hs hp ht a b c d e f g h⟩
theorem zv:∀k∈bc,0<=(ai k).size->k≠444->k≠445->∀val:List UInt8,(val.length:Int)=(ai k).size/8->∃txt,Simple k val txt:=by
 intro k hk
 simp only[bc,List.mem_cons,List.not_mem_nil,or_false]at hk
 rcases hk with rfl |rfl |rfl |rfl |rfl |rfl |rfl |rfl |rfl |rfl |rfl |rfl |rfl |rfl |rfl |rfl |rfl |rfl |rfl |rfl |rfl |rfl |rfl |rfl |rfl |rfl |rfl |rfl |rfl |rfl |rfl |rfl |rfl |rfl |rfl |rfl |rfl |rfl
 all_goals
  intro hs h1 h2 val hv
  first
   |exact absurd hs (by decide)
   |exact absurd rfl h1
   |exact absurd rfl h2
   |exact Qu (by decide) rfl rfl (fun _=>rfl) val hv
   |exact Qv (by decide) rfl rfl (fun _=>rfl) val hv
   |exact Qs (by decide) rfl rfl (fun _=>rfl) val hv
   |exact Qw (by decide) rfl rfl (fun _=>rfl) val hv
   |exact Qr (by decide) rfl rfl (fun _=>rfl) val hv
   |exact Qt (by decide) rfl rfl (fun _=>rfl) val hv
theorem CO:∀k∈bc,(k=42∨(53<=k/\k<=56)∨k=449)->∀val:List UInt8,Nm val->∃txt,Simple k val txt:=by
 intro k hk h val hn
 have:k=42∨k=53∨k=54∨k=55∨k=56∨k=449:=by omega
 rcases this with rfl |rfl |rfl |rfl |rfl |rfl
 ·exact⟨_,.Z hk rfl rfl (fun _=>rfl) val hn⟩
 all_goals exact⟨_,.D hk rfl rfl (fun _=>rfl) val hn⟩
theorem yg(val:List UInt8)(hp:Pth val):∃txt,Simple 400 val txt:=⟨_,.U (by decide) rfl rfl (fun _=>rfl) val hp⟩
theorem ER:∀k∈bc,0<=(ai k).size->i64.wrap ((ai k).size.tdiv 8)=(ai k).size/8:=by decide
theorem zg(code:Int)(A:Option Addr)(n c:Nat)(l:List UInt8)(B:Nat)(w:World)(h:Bts w B A n l)(hB:B<=w.heap.size)(hn:(n:Int)<2^48) :
  Calls Tryz.prog 13 #[.agg #[.int .i64 code,.slice A n c]] w (bB (gv fun b=>b=true->∃txt,Simple code l txt) w):=by
 have hln:=h.1
 refine aF (hk:=Kz) (n:=1000) (args:=[.agg [.int .i64 code false,.xs A n c]]) ⟨⟨trivial,trivial,trivial⟩,trivial⟩ ?_
 rw[Q0]
 refine iJ (Fine.start _ _) rfl (fun x w1 bs hb1 hbs hx hx2=>?_)
 have hw1:Bts w1 B A n l:=h.below (hb1.mono hB) (Nat.le_refl _)
 have hcb:canBytes w1 bs A n:=hw1.canBytes (Nat.le_trans hB hb1.size) (fun b hb=>Nat.le_trans hB (hbs b hb))
 rw[hw1.bytesAt]
 have no:∀(l1:Bool) (objs:List SObj) (w2:World) (bs2:List Nat),Below w.heap.size w w2->(∀b∈bs2,w.heap.size<=b) ->
   (T.leaf .ret [.bool false l1] (SS.mk objs [] true w2 bs2)).holds (c8 Tryz.prog (bH fun v w'=>gv (fun b=>b=true->∃txt,Simple code l txt) v w'/\Below w.heap.size w w')):=
  fun l1 objs w2 bs2 h1 h2=>aQ (Fine.mk' h1 h2) fun β w' _ _=>⟨_,rfl,fun h=>Bool.noConfusion h⟩
 have yes:∀(b l1:Bool) (objs:List SObj) (w2:World) (bs2:List Nat),(b=true->∃txt,Simple code l txt)->Below w.heap.size w w2->(∀b∈bs2,w.heap.size<=b) ->
   (T.leaf .ret [.bool b l1] (SS.mk objs [] true w2 bs2)).holds (c8 Tryz.prog (bH fun v w'=>gv (fun b=>b=true->∃txt,Simple code l txt) v w'/\Below w.heap.size w w')):=
  fun b l1 objs w2 bs2 h h1 h2=>aQ (Fine.mk' h1 h2) fun β w' _ _=>⟨_,rfl,h⟩
 refine ae (fun _=>no _ _ _ _ hb1 hbs) (fun hok=>?_)
 obtain⟨hin,hxe⟩:=hx (by simpa using hok)
 subst hxe
 dsimp only
 refine ak (fun hpos=>ae (fun hlen=>ae (fun h4=>yes _ _ _ _ _ (fun h5=>?_) hb1 hbs) (fun _=>no _ _ _ _ hb1 hbs)) (fun _=>no _ _ _ _ hb1 hbs)) (fun hneg=>?_)
 ·refine zv code hin hpos (bne_iff_ne.1 h4) (bne_iff_ne.1 h5) l ?_
  rw[<- ER code hin hpos,<- hln]
  exact eq_of_beq hlen
 have nm:∀ {w1:World}{objs:List SObj}{bs1:List Nat}{kk:Bool->World->List Nat->T}{a0:List SV},(code=42∨(53<=code/\code<=56)∨code=449)->Below w.heap.size w w1->(∀b∈bs1,w.heap.size<=b)->(∀b w2 b2,kk b w2 b2=T.leaf .ret [.bool b false] (SS.mk objs [] true w2 b2)) ->
   (T.call 38 [.str ⟨l.toArray⟩ false] (SS.mk objs [] true w1 bs1) (Hook.X bx) (Hook.out bx a0 (SS.mk objs [] true w1 bs1)) kk).holds (c8 Tryz.prog (bH fun v w'=>gv (fun b=>b=true->∃txt,Simple code l txt) v w'/\Below w.heap.size w w')):=fun{w1 objs bs1 kk a0} hc hb hbs hkk=>by
  refine g7 (fun b=>b=true->Nm l/\l.length<=60) (Fine.mk' hb hbs) rfl (fun β w2 hb2 _ _=>s8 l (by omega) w2) (fun b w2 bs2 hR hb2 hbs2=>?_)
  rw[hkk]
  exact yes _ _ _ _ _ (fun hbt=>CO code hin hc l (hR hbt).1) hb2 hbs2
 refine ae (fun h400=>aa hcb ?_) (fun _=>ae (fun h42=>aa hcb (nm (.inl (eq_of_beq h42)) hb1 hbs fun _ _ _=>rfl)) (fun _=>ak (fun h53=>ak (fun h56=>aa hcb (nm (.inr (.inl ⟨h53,h56⟩)) hb1 hbs fun _ _ _=>rfl)) (fun _=>ae (fun h449=>aa hcb (nm (.inr (.inr (eq_of_beq h449))) hb1 hbs fun _ _ _=>rfl)) (fun _=>no _ _ _ _ hb1 hbs))) (fun _=>ae (fun h449=>aa hcb (nm (.inr (.inr (eq_of_beq h449))) hb1 hbs fun _ _ _=>rfl)) (fun _=>no _ _ _ _ hb1 hbs))))
 have hc400:=eq_of_beq h400
 refine g7 (fun b=>b=true->Pth l) (Fine.mk' hb1 hbs) rfl (fun β w2 hb2 _ _=>Ed l (by omega) w2) (fun b w2 bs2 hR hb2 hbs2=>?_)
 exact yes _ _ _ _ _ (fun hbt=>by rw[hc400];exact yg l (hR hbt)) hb2 hbs2
end
section
open Go Go.Rx Go.RowKit
theorem ik{Q:SE->List Value->World->Prop}{s:SS}{w:World}{f:FuncId}{args:List SV}{s0:SS}{k:ByteArray->World->List Nat->T}(l:List UInt8)(hf:Fine w s)(hs0:s0.objs=s.objs)
  (hc:∀β w0,Below w.heap.size w w0->St (c8 Tryz.prog Q) β s w0->Old β s w0->Calls Tryz.prog f (af β args).toArray w0 (bB (fun v _=>v=.string ⟨l.toArray⟩) w0))
  (hk:∀w' bs,Below w.heap.size w w'->(∀b∈bs,w.heap.size<=b)->(k ⟨l.toArray⟩ w' bs).holds (c8 Tryz.prog Q)) :
  (T.call f args s (Hook.X aR) (Hook.out aR [] s0) k).holds (c8 Tryz.prog Q):=by
 refine ff (Γ:=c8 Tryz.prog Q) (R:=fun(x:ByteArray) _ _=>x=⟨l.toArray⟩) hf (fun x=>⟨hs0,trivial⟩) (fun β w0 hst ho hb=>(hc β w0 hb hst ho).mono ?_) (fun x w0 w' bs _ hr _ hb hbs=>by rw[hr];exact hk w' bs hb hbs)
 rintro e w' ⟨v,rfl,rfl,hb'⟩
 exact⟨_,rfl,hb',rfl⟩
theorem Ek{Q:SE->List Value->World->Prop}{s:SS}{w:World}{f:FuncId}{args:List SV}{s0:SS}{k:Nat->World->List Nat->T}(m:Nat)(hf:Fine w s)(hs0:s0.objs=s.objs)
  (hc:∀β w0,Below w.heap.size w w0->St (c8 Tryz.prog Q) β s w0->Old β s w0->Calls Tryz.prog f (af β args).toArray w0 (bB (fun v _=>v=.int .u64 (m:Int)) w0))
  (hk:∀w' bs,Below w.heap.size w w'->(∀b∈bs,w.heap.size<=b)->(k m w' bs).holds (c8 Tryz.prog Q)) :
  (T.call f args s (Hook.X pF) (Hook.out pF [] s0) k).holds (c8 Tryz.prog Q):=by
 refine ff (Γ:=c8 Tryz.prog Q) (R:=fun(x:Nat) _ _=>x=m) hf (fun x=>⟨hs0,trivial⟩) (fun β w0 hst ho hb=>(hc β w0 hb hst ho).mono ?_) (fun x w0 w' bs _ hr _ hb hbs=>by rw[hr];exact hk w' bs hb hbs)
 rintro e w' ⟨v,rfl,rfl,hb'⟩
 exact⟨_,rfl,hb',rfl⟩
theorem Ih:∀k∈bc,(k=4 ↔ (ai k).size=32):=by decide
theorem EP:∀k∈bc,(k=41 ↔ (ai k).size=128):=by decide
theorem G7(a b c d e f g h:UInt8):yM [a,b,c,d,e,f,g,h]=ft a b c d e f g h:=by
 simp only[yM,ft,List.foldl]
 omega
theorem Simple.numT{k:Int}{val txt:List UInt8}(h:Simple k val txt)(hp:0<(ai k).size)(h4:(ai k).size≠32)(h41:(ai k).size≠128):txt=Lib.decDigits (yM val)/\val.length<=8:=by
 cases h with
 |N _ hs=>omega
 |P _ hs _ _ a b=>exact⟨by simp[yM],by simp⟩
 |F _ hs=>exact absurd hs h4
 |S _ hs=>exact absurd hs h41
 |C _ hs _ _ a=>exact⟨by rw[jC a.toNat_lt];simp[yM],by simp⟩
 |M _ hs _ _ a b c d e f g h=>exact⟨by rw[G7],by simp⟩
 |D _ hs=>omega
 |Z _ hs=>omega
 |U _ hs=>omega
theorem Simple.four{k:Int}{val txt:List UInt8}(h:Simple k val txt)(hs:(ai k).size=32):txt=er val/\val.length=4:=by
 cases h with
 |F _ _ _ _ a b c d=>exact⟨(GK a b c d).symm,rfl⟩
 |_=>omega
theorem Simple.sixT{k:Int}{val txt:List UInt8}(h:Simple k val txt)(hs:(ai k).size=128):txt=pK val/\val.length=16:=by
 cases h with
 |S _ _ _ _ l hl=>exact⟨rfl,hl⟩
 |_=>omega
theorem Simple.zero{k:Int}{val txt:List UInt8}(h:Simple k val txt)(hs:(ai k).size=0):txt=[]:=by
 cases h with
 |N=>rfl
 |_=>omega
theorem Simple.var{k:Int}{val txt:List UInt8}(h:Simple k val txt)(h0:¬(ai k).size=0)(h1:¬0<(ai k).size):txt=val:=by
 cases h with
 |D=>rfl
 |Z=>rfl
 |U=>rfl
 |_=>omega
theorem fR(code:Int)(A:Option Addr)(n c:Nat)(l txt:List UInt8)(B:Nat)(w:World)(hs:Simple code l txt)(h:Bts w B A n l)(hc:n<=c)(hB:B<=w.heap.size) :
  Calls Tryz.prog 17 #[.agg #[.int .i64 code,.slice A n c]] w (bB (fun v _=>v=.string ⟨txt.toArray⟩) w):=by
 have hk:=hs.tab
 refine aF (hk:=KR) (n:=1000) (args:=[.agg [.int .i64 code false,.xs A n c]]) ⟨⟨trivial,trivial,trivial⟩,trivial⟩ ?_
 refine ah (Ro code A n c w) ?_
 refine iJ (Fine.start _ _) rfl (fun x w1 bs hb1 hbs hx hx2=>?_)
 obtain⟨_,rfl⟩:=hx (hx2 hk)
 have hw:∀ {w':World},Below w.heap.size w w'->Bts w' B A n l:=fun hb=>h.below (hb.mono hB) (Nat.le_refl _)
 have hsz:∀ {w':World},Below w.heap.size w w'->B<=w'.heap.size:=fun hb=>Nat.le_trans hB hb.size
 dsimp only
 refine ae (fun h0=>aQ (Fine.mk' hb1 hbs) fun β w' _ _=>?_) (fun h0=>?_)
 ·rw[hs.zero (eq_of_beq h0)]
  rfl
 have h0':¬(ai code).size=0:=by simpa using h0
 refine ae (fun h4=>?_) (fun h4=>ae (fun h41=>?_) (fun h41=>ak (fun hp=>?_) (fun hp=>?_)))
 ·obtain⟨rfl,hl⟩:=hs.four ((Ih code hk).1 (eq_of_beq h4))
  refine ik _ (Fine.mk' hb1 hbs) rfl (fun β w2 hb2 _ _=>xT A n c l B w2 (hw hb2) (hsz hb2) (by omega)) (fun w2 b2 hb2 hbs2=>aQ (Fine.mk' hb2 hbs2) fun β w' _ _=>rfl)
 ·obtain⟨rfl,hl⟩:=hs.sixT ((EP code hk).1 (eq_of_beq h41))
  refine ik _ (Fine.mk' hb1 hbs) rfl (fun β w2 hb2 _ _=>Gc A n c l B w2 (hw hb2) hl hc (hsz hb2)) (fun w2 b2 hb2 hbs2=>aQ (Fine.mk' hb2 hbs2) fun β w' _ _=>rfl)
 ·obtain⟨rfl,hl⟩:=hs.numT hp (fun e=>by rw[(Ih code hk).2 e]at h4;simp at h4) (fun e=>by rw[(EP code hk).2 e]at h41;simp at h41)
  have hn:=zl l
  have hn2:256^l.length<=256^8:=Nat.pow_le_pow_right (by omega) hl
  refine Ek (yM l) (Fine.mk' hb1 hbs) rfl (fun β w2 hb2 _ _=>zf A n c l B w2 (hw hb2) (hsz hb2) hl) (fun w2 b2 hb2 hbs2=>
   ik _ (Fine.mk' hb2 hbs2) rfl (fun β w3 hb3 _ _=>qZ _ (by omega) w3) (fun w3 b3 hb3 hbs3=>aQ (Fine.mk' hb3 hbs3) fun β w' _ _=>rfl))
 ·have hb:=hw hb1
  refine aa (hb.canBytes (hsz hb1) (fun b hb'=>Nat.le_trans hB (hbs b hb'))) (aQ (Fine.mk' hb1 hbs) fun β w' _ _=>?_)
  rw[hs.var h0' hp,hb.bytesAt]
  rfl
end
section
open Go Go.Rx Go.RowKit
def Kl:SE->List Nat
 | .normal=>[3,8,9,10]
 | .exit _=>[3]
 |_=>[]
def Ea:LoopHook:=cl 41 ByteArray (.exit 0) [3] (fun s=>[.str s false]) Unit .ret [] (fun _=>[])
def F3:Hooks:={ calls:=fun f=>if f=14 then some bi else if f=17 then some aR else none,loops:=fun _ _=>some Ea }
noncomputable abbrev vg(A:Option Addr)(n c:Nat):List SV:=([(.xs A n c),(.tup []),(.str (ByteArray.mk #[]) true),(.str (ByteArray.mk #[]) true),(.tup []),(.tup []),(.tup []),(.tup []),(.xs A n c),(.int .i64 ((↑n:Int)) false),(.int .i64 0 true)]++List.replicate 30 az)
theorem Mx(A:Option Addr)(n c:Nat)(w:World):al Tryz.prog F3 1000 18 [.xs A n c] (SS.at w) =
(.loop 18 (av Tryz.prog 18 4) (vg A n c) (SS.mk [] [] true w []) (LoopHook.X (Ea)) (LoopHook.out (Ea) (vg A n c) (SS.mk [] [] true w [])) (fun x0 w0 b0=>(.leaf .ret [(.str x0.fst false)] (SS.mk [] [] true w0 b0))) (LoopHook.Y (Ea)) (LoopHook.out' (Ea) (vg A n c) (SS.mk [] [] true w [])) (fun x0 w0 b0=>(.leaf .ret [(.raw (x0.snd 2))] (SS.mk [] [] true w0 b0)))):=by kernel_rfl
theorem Rn(A:Option Addr)(n c:Nat)(w:World):(by have h:=Mx A n c w;unfold vg at h;exact type_of% h):=Mx A n c w
noncomputable abbrev vh(w:World)(A:Option Addr)(i:Nat):Int:=(aj w (((A.getD default).add ((↑i:Int).toNat*2)).add 0))
noncomputable abbrev r8(w:World)(A:Option Addr)(i:Nat):List SV:=[(.int .i64 (vh w A i) false),(.xs (sA w (((A.getD default).add ((↑i:Int).toNat*2)).add 1)) (pt w (((A.getD default).add ((↑i:Int).toNat*2)).add 1)) (xo w (((A.getD default).add ((↑i:Int).toNat*2)).add 1)))]
noncomputable abbrev Fr(x0:(Hook.X (bi))):SObj:=(.cells [(.str x0.name false),(.int .i64 x0.cd false),(.int .i64 x0.size false),(.bool x0.path false),(.one (.slice none 0 0) rfl)] 5 34 0 0)
noncomputable abbrev lK(x0:(Hook.X (bi))):ByteArray:=(ByteArray.mk #[(47:UInt8)]++x0.name)
noncomputable abbrev zZ(i:Nat):SV:=(.int .i64 (i64.wrap ((↑i:Int)+(1:Int))) false)
noncomputable abbrev r9(w:World)(A:Option Addr)(i:Nat)(x0:(Hook.X (bi)))(w0:World)(b0:List Nat):SS:=(SS.mk [(.cells (r8 w A i) 2 31 0 0),(Fr x0)] [] true w0 b0)
noncomputable abbrev z1(w:World)(A:Option Addr)(i:Nat)(x0:(Hook.X (bi)))(w0:World)(b0:List Nat)(s:ByteArray)(n c:Nat):T:=(.hc 17 [(.agg (r8 w A i))] (r9 w A i x0 w0 b0) (aR) fun x1 w1 b1=>(.need ((↑((s++(lK x0)).size+ByteArray.size x1):Int)<=i64.max) (.leaf .normal [(.str (s++(lK x0)++x1) false),(.xs A n c),(.int .i64 ((↑n:Int)) false),(zZ i)] (r9 w A i x0 w1 b1))))
theorem L9(A:Option Addr)(n c i:Nat)(s:ByteArray)(w:World)(g:Nat->Value):aO Tryz.prog F3 1000 18 (av Tryz.prog 18 4) (ay ((Kl .normal).zip [.str s false,.xs A n c,.int .i64 n false,.int .i64 i false]) g 41 0) (fun e a s=>.leaf e (fG Kl e a) s) (SS.at w) =
(.split (decide ((↑i:Int)<(↑n:Int))) (.need ((0:Int)<=(↑i:Int)/\(↑i:Int)<(↑n:Int)) (.need (A.isSome=true) (.need (canRead w [] ((A.getD default).add ((↑i:Int).toNat*2)) [SV.int i64 (vh w A i) false,SV.xs (sA w (((A.getD default).add ((↑i:Int).toNat*2)).add 1)) (pt w (((A.getD default).add ((↑i:Int).toNat*2)).add 1)) (xo w (((A.getD default).add ((↑i:Int).toNat*2)).add 1))]) (.hc 14 [(.int .i64 (vh w A i) false)] (SS.mk [(.cells (r8 w A i) 2 31 0 0)] [] true w []) (bi) fun x0 w0 b0=>(.need ((↑(1+x0.name.size):Int)<=i64.max) (.need ((↑(s.size+(lK x0).size):Int)<=i64.max) (.split (x0.size != (0:Int)) (.split (!x0.path) (.need ((↑((s++(lK x0)).size+1):Int)<=i64.max) (.hc 17 [(.agg (r8 w A i))] (r9 w A i x0 w0 b0) (aR) fun x1 w1 b1=>(.need ((↑((s++(lK x0)++ByteArray.mk #[(47:UInt8)]).size+ByteArray.size x1):Int)<=i64.max) (.leaf .normal [(.str (s++(lK x0)++ByteArray.mk #[(47:UInt8)]++x1) false),(.xs A n c),(.int .i64 ((↑n:Int)) false),(zZ i)] (r9 w A i x0 w1 b1))))) (z1 w A i x0 w0 b0 s n c)) (z1 w A i x0 w0 b0 s n c)))))))) (.leaf (.exit 0) [(.str s false)] (SS.mk [] [] true w []))):=by kernel_rfl
theorem QW(A:Option Addr)(n c i:Nat)(s:ByteArray)(w:World)(g:Nat->Value):(by have h:=L9 A n c i s w g;unfold z1 r9 zZ lK Fr r8 vh at h;exact type_of% h):=L9 A n c i s w g
structure CT where
 c:Comp
 txt:List UInt8
 hs:Simple c.code c.val txt
def CTAt(w:World)(B:Nat)(a:Addr)(x:CT):Prop:=CompAt w B a x.c/\pt w (a.add 1)<=xo w (a.add 1)/\(sA w (a.add 1)=none->xo w (a.add 1)=0)
def CTsAt(w:World)(B:Nat)(A:Option Addr)(n:Nat)(l:List CT):Prop:=SeqAt (CTAt w B) 2 B A n l
theorem CTAt.below{w w':World}{B B':Nat}{a:Addr}{x:CT}(h:CTAt w B a x)(hb:Below B w w')(hB:B<=B'):CTAt w' B' a x:=by
 have e:=cg hb (show(a.add 1).block<B by rw[aL];exact h.1.1)
 refine⟨h.1.below hb hB,?_⟩
 have:=h.2
 simp only[sA,pt,xo,e]at this ⊢
 exact this
theorem CTsAt.below{w w':World}{B B':Nat}{A:Option Addr}{n:Nat}{l:List CT}(h:CTsAt w B A n l)(hb:Below B w w')(hB:B<=B'):CTsAt w' B' A n l:=
 h.imp hB fun a x _ hx=>hx.below hb hB
theorem CTsAt.get{w:World}{B:Nat}{A:Option Addr}{n i:Nat}{l:List CT}(h:CTsAt w B A n l)(hi:i<n):∃a x,A=some a/\l[i]?=some x/\CTAt w B (a.add (i*2)) x:=by
 obtain⟨a,ha,_,hx⟩:=h.2 (by omega)
 have hl:=h.1
 have:l[i]?=some (l[i]'(by omega)):=List.getElem?_eq_getElem (by omega)
 exact⟨a,_,ha,this,hx i _ this⟩
def bN(l:List CT):List UInt8:=l.flatMap fun x=>bz x.c.code x.txt
theorem yT{l:List CT}{i:Nat}{x:CT}(h:l[i]?=some x):bN (l.take (i+1))=bN (l.take i)++bz x.c.code x.txt:=by
 rw[List.take_add_one,h]
 simp[bN]
theorem sB(l:List CT)(i:Nat):(bN (l.take i)).length<=(bN l).length:=by
 have:bN l=bN (l.take i)++bN (l.drop i):=by
  unfold bN
  rw[<- List.flatMap_append,List.take_append_drop]
 rw[this,List.length_append]
 omega
theorem PE:ByteArray.mk #[(47:UInt8)]=⟨[(47:UInt8)].toArray⟩:=rfl
theorem rc(A:Option Addr)(n c:Nat)(l:List CT)(B:Nat)(w:World)(h:CTsAt w B A n l)(hB:B<=w.heap.size)(hn:(n:Int)<2^48)(hl:(bN l).length<2^60) :
  Calls Tryz.prog 18 #[.slice A n c] w (bB (fun v _=>v=.string ⟨(bN l).toArray⟩) w):=by
 have hlen:=h.1
 refine aF (hk:=F3) (n:=1000) (args:=[.xs A n c]) ⟨trivial,trivial⟩ ?_
 refine ah (Rn A n c w) ?_
 refine ii (w:=w) (Fine.start w _) Kl (α:=Nat×ByteArray) (fun z=>[.str z.2 false,.xs A n c,.int .i64 n false,.int .i64 z.1 false]) (fun z=>n-z.1) (fun _ z _=>z.1<=n/\z.2=⟨(bN (l.take z.1)).toArray⟩)
  (fun _ e lv _=>e=.exit 0/\lv=[.string ⟨(bN l).toArray⟩]) (fun _=>F3) 1000 (by simp) (by simp[Kl]) (by simp[Kl]) (fun _=>⟨trivial,trivial,trivial,trivial,trivial⟩) rfl rfl rfl
  (by simp) (by simp) (fun _=>⟨trivial,trivial⟩) (fun _=>trivial) ?_ ?_ ?_
 ·rintro w0 ⟨i,t⟩ w1 g _ ⟨hi,ht⟩ hb0 hbw
  dsimp only at hi ht
  subst ht
  refine ah (QW A n c i _ w1 g) (ae (fun hlt=>?_) (fun hge=>?_))
  rotate_left
  ·have:i=n:=by
    have:¬i<n:=by simpa using hge
    omega
   refine dp (Fine.nil hb0) (by simp) fun β w' _ _=>⟨rfl,?_⟩
   rw[List.take_of_length_le (by omega)]
   rfl
  have hlt':i<n:=by simpa using hlt
  have hB1:B<=w1.heap.size:=Nat.le_trans hB hbw.size
  obtain⟨ad,x,rfl,hx,hR⟩:=(h.below (hbw.mono hB) (Nat.le_refl _)).get hlt'
  obtain⟨f1,f2,f3⟩:=hR.1.facts
  refine aa (by omega) (aa rfl (aa (hR.1.canRead hB1 (by simp)) ?_))
  have f1':aj w1 (((some ad).getD default).add (((i:Nat):Int).toNat*2) |>.add 0)=x.c.code:=f1
  rw[f1']
  have hk:=x.hs.tab
  refine iJ (Fine.start w1 _) rfl (fun px w2 bs hb2 hbs hpx hpx2=>?_)
  obtain⟨_,rfl⟩:=hpx (hpx2 hk)
  dsimp only
  have hsn:=yT hx
  have hle:=sB l (i+1)
  rw[hsn,List.length_append]at hle
  have hcl:(ai x.c.code).name.length+1+x.txt.length<=(bz x.c.code x.txt).length:=by
   unfold bz
   split <;> simp <;> omega
  have hi1:i64.wrap ((i:Int)+1)=((i+1:Nat):Int):=by rw[aq (by omega) (by omega)];omega
  have hcA:((ai x.c.code).size != 0)=true->(!(ai x.c.code).path)=true->bz x.c.code x.txt=[47]++(ai x.c.code).name++[47]++x.txt:=fun h1 h2=>by
   unfold bz
   rw[if_pos ⟨by simpa using h1,by simpa using h2⟩]
   simp
  have hcB:¬(((ai x.c.code).size != 0)=true/\(!(ai x.c.code).path)=true)->bz x.c.code x.txt=[47]++(ai x.c.code).name++x.txt:=fun h1=>by
   unfold bz
   rw[if_neg (fun h=>h1 ⟨by simpa using h.1,by simpa using h.2⟩)]
   simp
  simp only[PE,dt,aC]
  have hv:=fun(w4:World) (hb4:Below w1.heap.size w1 w4)=>fR x.c.code (sA w1 ((ad.add (i*2)).add 1)) (pt w1 ((ad.add (i*2)).add 1)) (xo w1 ((ad.add (i*2)).add 1)) x.c.val x.txt B w4 x.hs (f2.below (hb4.mono hB1) (Nat.le_refl _)) hR.2.1 (Nat.le_trans hB1 hb4.size)
  have hbx:∀ {w3:World},Below w1.heap.size w1 w3->Below w0.heap.size w0 w3:=fun h=>hb0.trans (h.mono hb0.size)
  have hsx:∀ {b3:List Nat},(∀b∈b3,w1.heap.size<=b)->∀b∈b3,w0.heap.size<=b:=fun h b hb=>Nat.le_trans hb0.size (h b hb)
  refine aa (by rw[bj];simp;omega) (aa (by rw[bj];simp;omega) ?_)
  refine ae (fun h0=>ae (fun hp=>aa (by have:=congrArg List.length (hcA h0 hp);simp at this;rw[bj];simp;omega) ?_) (fun hp=>?_)) (fun h0=>?_)
  ·refine ik x.txt (Fine.mk' hb2 hbs) rfl (fun β w4 hb4 _ _=>hv w4 hb4) (fun w3 b3 hb3 hbs3=>?_)
   have hc:=hcA h0 hp
   have hcl:=congrArg List.length hc
   rw[hc]at hsn
   simp only[dt,aC]
   refine aa (by rw[bj];simp at hcl ⊢;omega) (fY (Fine.mk' (hbx hb3) (hsx hbs3)) fun β w' _ _=>⟨(i+1,⟨(bN (l.take (i+1))).toArray⟩),by show n-(i+1)<n-i;omega,?_,by show i+1<=n;omega,rfl⟩)
   rw[hi1,hsn]
   simp only[List.append_assoc]
   rfl
  ·refine ik x.txt (Fine.mk' hb2 hbs) rfl (fun β w4 hb4 _ _=>hv w4 hb4) (fun w3 b3 hb3 hbs3=>?_)
   have hc:=hcB (fun h=>by rw[h.2]at hp;cases hp)
   have hcl:=congrArg List.length hc
   rw[hc]at hsn
   simp only[dt,aC]
   refine aa (by rw[bj];simp at hcl ⊢;omega) (fY (Fine.mk' (hbx hb3) (hsx hbs3)) fun β w' _ _=>⟨(i+1,⟨(bN (l.take (i+1))).toArray⟩),by show n-(i+1)<n-i;omega,?_,by show i+1<=n;omega,rfl⟩)
   rw[hi1,hsn]
   simp only[List.append_assoc]
   rfl
  ·refine ik x.txt (Fine.mk' hb2 hbs) rfl (fun β w4 hb4 _ _=>hv w4 hb4) (fun w3 b3 hb3 hbs3=>?_)
   have hc:=hcB (fun h=>by rw[h.1]at h0;cases h0)
   have hcl:=congrArg List.length hc
   rw[hc]at hsn
   simp only[dt,aC]
   refine aa (by rw[bj];simp at hcl ⊢;omega) (fY (Fine.mk' (hbx hb3) (hsx hbs3)) fun β w' _ _=>⟨(i+1,⟨(bN (l.take (i+1))).toArray⟩),by show n-(i+1)<n-i;omega,?_,by show i+1<=n;omega,rfl⟩)
   rw[hi1,hsn]
   simp only[List.append_assoc]
   rfl
 ·intro β w0 hst hb
  exact⟨(0,⟨#[]⟩),rfl,Nat.zero_le _,rfl⟩
 ·rintro β w0 hst hb e lv w' ⟨rfl,rfl⟩ hb0 hb1
  exact .inl ⟨_,rfl,rfl,fun g bs hbs=>aQ (Fine.mk' hb1 hbs) fun β w' _ _=>rfl⟩
end
section
open Go Go.RowKit Go.Rx
def bg(x:CT):List UInt8:=bW x.c.code x.c.val++x.c.val
def am(l:List CT):List UInt8:=l.flatMap bg
@[irreducible] def Hid(p:Prop):Prop:=p
theorem Hid.mk{p:Prop}(h:p):Hid p:=by unfold Hid;exact h
theorem Hid.out{p:Prop}(h:Hid p):p:=by unfold Hid at h;exact h
abbrev fP(l:List UInt8):List Value:=l.map fun b=>Value.int .u8 (b.toNat:Int)
theorem En{w:World}{B:Nat}{v:Value}{l:List UInt8}(h:w.ownsRow B 5 1 v l.length (fP l)):∃A n c,v=.slice A n c/\Bts w w.heap.size A n l/\(0<n->∀a,A=some a->B<=a.block):=by
 by_cases hl:l=[]
 ·subst hl
  rcases h.2 with⟨rfl,_⟩ |⟨b,c,cur,rfl,_⟩
  ·exact⟨_,_,_,rfl,⟨rfl,fun h=>absurd h (by omega)⟩,fun h=>absurd h (by omega)⟩
  ·exact⟨_,_,_,rfl,⟨rfl,fun h=>absurd h (by simp)⟩,fun h=>absurd h (by simp)⟩
 ·obtain⟨b,c,rfl,_,hb,hge⟩:=uo h hl
  exact⟨_,_,_,rfl,hb,fun _ a ha=>by cases ha;exact hge⟩
def MO(l:List CT)(w:World)(v:Value)(w':World):Prop:=∃A n' c',v=.slice A n' c'/\Bts w' w'.heap.size A n' (am l)/\(0<n'->∀a,A=some a->w.heap.size<=a.block)
theorem MZ{w w0:World}{v:Value}{l:List CT}{k n:Nat}(hk:n<=k)(hn:n=l.length)(h:w.ownsRow w0.heap.size 5 1 v (am (l.take k)).length (fP (am (l.take k)))):MO l w0 v w:=by
 rw[List.take_of_length_le (by omega)]at h
 exact En h
theorem mA{w w':World}{B b:Nat}{e:TypeId}{v:Value}{n:Nat}{xs:List Value}(h:w.ownsRow B e 1 v n xs)(hb:Below b w w')(hlt:w.heap.size<=b):w'.ownsRow B e 1 v n xs:=by
 refine⟨h.1,?_⟩
 rcases h.2 with h0 |⟨g,cap,cur,hv,hB,hg,hr⟩
 ·exact .inl h0
 ·refine .inr ⟨g,cap,cur,hv,hB,?_,hr⟩
  have:g<w.heap.size:=by
   rcases Nat.lt_or_ge g w.heap.size with h' |h'
   ·exact h'
   ·rw[Array.getElem?_eq_none h']at hg;cases hg
  rw[hb.block g (by omega)]
  exact hg
theorem jy{w:World}{B n:Nat}{ad:Addr}{l:List UInt8}(h:Bts w B (some ad) n l):∀j u,(fP l)[j]?=some u->w.cell? (ad.add j)=some u:=by
 intro j u hj
 rw[List.getElem?_map]at hj
 cases hx:l[j]? with
 |none=>rw[hx]at hj;cases hj
 |some b=>
  rw[hx]at hj
  cases hj
  have hl:=h.1
  have:=(List.getElem?_eq_some_iff.1 hx).1
  obtain⟨a,ha,_,hr⟩:=h.2 (by omega)
  cases ha
  have:=hr j b hx
  rw[Nat.mul_one]at this
  exact this
theorem it(l:List UInt8):∀u∈fP l,u.oneCell'=true:=by
 intro u hu
 obtain⟨b,_,rfl⟩:=List.mem_map.1 hu
 rfl
theorem jT{P:Program}{w:World}{ops:Array Oper}{rest:List Oper}{o:Oper}{a:Act}{Q:Exit->Act->World->Prop}(hgd:o.guard=none)(s x:Operand)(t:TypeId)
  (ho:o.op=.call { callee:=.builtin .append,args:=#[s,x],argTypes:=#[t,t] })
  (base:Nat) (e:TypeId) (i:TypeInfo) (z:Value) (ht:P.underlying t=some (.slice e)) (hi:P.info? e=some i) (hz:i.zero=some z)
  (hsize:i.size=1) (hby:i.bytes=1) (hzs:z.cells.size=1)
  (v:Value) (n:Nat) (xs:List Value) (hs:a.eval s=v) (hown:w.ownsRow base e 1 v n xs)
  (A:Option Addr) (m c B:Nat) (l:List UInt8) (hx:a.eval x=.slice A m c) (hr:Bts w B A m l/\(A=none->c=0))
  (hbytes:n+m<=140737488355328) (hbase:base<=w.heap.size)
  (h:∀v' w',w'.ownsRow base e 1 v' (n+m) (xs++fP l)->w.grownBy w' v.ownBlock->wpList P ops Q rest (a.put o.dst v') w'):wpList P ops Q (o :: rest) a w:=by
 obtain⟨hr,hc⟩:=hr
 rcases A with _ |ad
 ·have hm0:m=0:=Nat.eq_zero_of_not_pos fun hp=>by obtain⟨a,ha,_⟩:=hr.2 hp;cases ha
  subst hm0
  have hc0:=hc rfl
  subst hc0
  have hl:l=[]:=List.eq_nil_of_length_eq_zero hr.1.symm
  subst hl
  exact wpList_append_own_none hgd s x t ho base e i 1 ht hi v n xs hs hown hx (h v w (by simpa [fP] using hown) (World.grownBy.refl w _))
 ·exact wpList_append_own _ hgd s x t ho base e i z 1 1 ht hi hz hsize hby hzs (by decide) v n xs hs hown ad m c (fP l) hx (by rw[hr.1];simp[fP]) (jy hr) (it l) (by unfold maxLen;omega) (by omega) hbase fun v' w' h1 h2 _=>h v' w' h1 h2
theorem Er{w:World}{B b n:Nat}{v:Value}{xs:List Value}{cs:Array Value}{T:TypeId}(h:w.ownsRow B 5 1 v n xs)(hg:w.heap[b]?=some (.cells cs T (0,0)))(hT:T≠5):some b≠v.ownBlock:=by
 intro e
 rcases h.2 with⟨rfl,_⟩ |⟨g,cap,cur,rfl,_,hg',_⟩
 ·cases e
 ·have:b=g:=by
   have e':some b=some g:=e
   simpa using e'
  subst this
  rw[hg]at hg'
  simp only[Option.some.injEq,Obj.cells.injEq]at hg'
  exact hT hg'.2.1
theorem cS{w:World}{b:Nat}{o:Obj}(h:w.heap[b]?=some o):b<w.heap.size:=by
 rcases Nat.lt_or_ge b w.heap.size with h' |h'
 ·exact h'
 ·rw[Array.getElem?_eq_none h']at h;cases h
theorem rk{w w':World}{B b n:Nat}{v:Value}{xs:List Value}{cs:Array Value}{T:TypeId}(h:w.ownsRow B 5 1 v n xs)(hgr:w.grownBy w' v.ownBlock)(hg:w.heap[b]?=some (.cells cs T (0,0)))(hT:T≠5):w'.heap[b]?=some (.cells cs T (0,0)):=by
 rw[hgr.block b (cS hg) (Er h hg hT)]
 exact hg
theorem cp(w:World)(o:Obj):(w.alloc o).heap.size=w.heap.size+1:=Array.size_push ..
theorem cellOf{w:World}{b i:Nat}{v:Value}{cs:Array Value}{T:TypeId}(h:w.heap[b]?=some (.cells cs T (0,0)))(hv:cs[i]?=some v):w.cell? ⟨b,i,none⟩=some v:=by
 rw[Lib.cell_of_heap h]
 exact hv
theorem E5:∀k∈bc,0<=k/\k<=7367777:=by decide
theorem kg(x:CT):bg x=uv x.c.code.toNat++(if(ai x.c.code).size<0 then uv x.c.val.length else[])++x.c.val:=by
 unfold bg bW
 rw[rG _ x.hs.tab]
theorem PC{x:CT}{q:Nat}(pre:List UInt8)(hq:x.c.code=(q:Int))(hs:(ai (q:Int)).size<0):fP pre++fP (uv q)++fP (uv x.c.val.length)++fP x.c.val=fP (pre++bg x):=by
 rw[kg,hq,if_pos hs,Int.toNat_natCast]
 simp[fP]
theorem PD{x:CT}{q:Nat}(pre:List UInt8)(hq:x.c.code=(q:Int))(hs:¬(ai (q:Int)).size<0):fP pre++fP (uv q)++fP x.c.val=fP (pre++bg x):=by
 rw[kg,hq,if_neg hs,Int.toNat_natCast]
 simp[fP]
theorem fc{l:List CT}{i:Nat}{x:CT}(h:l[i]?=some x):am (l.take (i+1))=am (l.take i)++bg x:=by
 rw[List.take_add_one,h]
 simp[am]
theorem dV(l:List CT)(i:Nat):(am (l.take i)).length<=(am l).length:=by
 have:am l=am (l.take i)++am (l.drop i):=by
  unfold am
  rw[<- List.flatMap_append,List.take_append_drop]
 rw[this,List.length_append]
 omega
def Rel8(l:List CT)(n:Nat)(w:World)(v i:Value)(wr:World):Prop:=∃k:Nat,k<=n/\i=.int .i64 (k:Int)/\wr.ownsRow w.heap.size 5 1 v (am (l.take k)).length (fP (am (l.take k)))/\Below w.heap.size w wr
theorem Rel8.start(l:List CT)(n:Nat)(w:World):Rel8 l n w (.slice (some ⟨w.heap.size,0,none⟩) 0 0) (.int .i64 0) (w.alloc (.cells #[] 5)):=
 ⟨0,Nat.zero_le _,rfl,⟨rfl,.inr ⟨w.heap.size,0,#[],rfl,Nat.le_refl _,Array.getElem?_push_size,Nat.le_refl _,Nat.zero_le _,rfl,rfl⟩⟩,(Below.refl _ _).alloc (Nat.le_refl _) _⟩
theorem Rel8.next{l:List CT}{n k N:Nat}{w w':World}{v:Value}{x:CT}{xs:List Value}(hx:l[k]?=some x)(hk:k<n)(ho:w'.ownsRow w.heap.size 5 1 v N xs)(hxs:xs=fP (am (l.take k)++bg x))(hb:Below w.heap.size w w'):Rel8 l n w v (.int .i64 ((k:Int)+1)) w':=by
 have hN:=ho.1
 have e:=fc hx
 refine⟨k+1,by omega,rfl,?_,hb⟩
 rw[e,<- hxs]
 have:(am (l.take k)++bg x).length=N:=by
  rw[hxs,List.length_map]at hN
  omega
 rw[this]
 exact ho
theorem Bo{k n:Nat}(h:(k:Int)<n):n-(intOf (.int .i64 ((k:Int)+1))).toNat<n-(intOf (.int .i64 (k:Int))).toNat:=by
 show n-((k:Int)+1).toNat<n-(k:Int).toNat
 omega
theorem nz(ad:Addr)(n c:Nat)(l:List CT)(B:Nat)(w:World)(h:CTsAt w B (some ad) n l)(hB:B<=w.heap.size)(hn:n<2^30)(hl:(am l).length<140737488355328) :
  Calls Tryz.prog 19 #[.slice (some ad) n c] w (bB (MO l w) w):=by
 have hid0:=Hid.mk (And.intro h (And.intro hl hn))
 clear h hl hn
 obtain⟨i0,hi,hz0,hz1,hz2⟩:=info_parts xH
 go_enter Tryz.func19,Tryz.ntmps19
 go_wp2
 go_loopw [3,11] (fun v i wr=>Rel8 l n w v i wr) (fun _ i _=>n-(intOf i).toNat)
 case atStart=>exact Rel8.start l n w
 case round=>
  obtain⟨k,hk,rfl,hown,hnx⟩:=hrel
  have hz:=hnx.size
  obtain⟨h,hl,hn⟩:=hid0.out
  by_cases hlt:k<n
  ·obtain⟨_,x,rf,hx,hR⟩:=CTsAt.get (h.below (hnx.mono hB) (Nat.le_refl _)) hlt
   cases rf
   obtain⟨⟨r1,r2,⟨A,m,cap,r3,r4⟩,r5⟩,r6⟩:=hR
   have hki:(k:Int)<n:=by omega
   have r3':wr.cell? { block:=(ad.add (k*2)).block,off:=(ad.add (k*2)).off+1 } = some (.slice A m cap):=by
    rw[<- r3]
    rfl
   have r6b:A=none->cap=0:=by
    have:=r6.2
    simp only[sA,xo,r3]at this
    exact this
   have r4w:Bts w B A m x.c.val:=r4.imp (Nat.le_refl _) fun a y ha hy=>by rw[<- cg (hnx.mono hB) ha];exact hy
   clear r3
   have DD:(k:Int)<1073741824:=by omega
   have hidA:=Hid.mk (And.intro r6b r4w)
   clear r6b r4w
   have hid:=Hid.mk (And.intro hx (And.intro r1 (And.intro r4 (And.intro r5 (And.intro r6 (And.intro h (And.intro hl hn)))))))
   have hidw:=Hid.mk (And.intro hown hnx)
   clear hx r1 r4 r5 r6 h hl hn hown hnx
   go_wp2_with fail
   refine(mw x.c.code _).mono ?_
   rintro e w1 ⟨v,rfl,⟨px,rfl,hp1,hp2⟩,hb1⟩
   obtain⟨_,rfl⟩:=hp1 (hp2 x.hs.tab)
   clear hp1 hp2
   dsimp only
   obtain⟨q,hq⟩:∃q:Nat,x.c.code=(q:Int):=⟨x.c.code.toNat,by have:=(E5 _ x.hs.tab).1;omega⟩
   have hq2:q<=7367777:=by have:=(E5 _ x.hs.tab).2;omega
   have g0:w1.heap[wr.heap.size]?=some (.cells #[.int .i64 x.c.code,.slice A m cap] 31 (0,0)):=by
    rw[hb1.block _ (by rw[cp];omega)]
    exact Array.getElem?_push_size
   have s1:wr.heap.size<w1.heap.size:=by have:=hb1.size;rw[cp]at this;omega
   have d0:∀o,(w1.alloc o).cell? ⟨wr.heap.size,0,none⟩=some (.int .i64 x.c.code):=fun o=>by
    rw[Lib.cell_of_heap (Lib.alloc_old w1 o _ s1 ▸ g0)]
    rfl
   have hid1:=Hid.mk (And.intro hb1 g0)
   clear hb1 g0
   go_wp2_with fail
   refine(rd q (by omega) _).mono ?_
   rintro e w2 ⟨v,rfl,⟨b2,c2,rfl,hc2,hbt2,hge2⟩,hb2⟩
   obtain⟨hb1,g0⟩:=hid1.out
   obtain⟨hown,hnx⟩:=hidw.out
   obtain⟨hx,r1,r4,r5,r6,h,hl,hn⟩:=hid.out
   have n2:=hb2.size
   rw[cp]at n2
   have B12:Below wr.heap.size wr w2:=(((Below.refl _ wr).alloc (Nat.le_refl _) _).trans (hb1.mono (by rw[cp];omega))).trans ((((Below.refl _ w1).alloc (Nat.le_refl _) _).mono (by omega)).trans (hb2.mono (by rw[cp];omega)))
   have own2:=mA hown B12 (Nat.le_refl _)
   have g2:w2.heap[wr.heap.size]?=some (.cells #[.int .i64 x.c.code,.slice A m cap] 31 (0,0)):=by
    rw[hb2.block _ (by rw[cp];omega),Lib.alloc_old w1 _ _ s1]
    exact g0
   have p2:∃cs,cs[2]?=some (Value.int .i64 (ai (q:Int)).size)/\w2.heap[w1.heap.size]?=some (.cells cs 34 (0,0)):=
    ⟨_,rfl,by rw[hb2.block _ (by rw[cp];omega)];exact Array.getElem?_push_size⟩
   have hle:=dV l (k+1)
   rw[fc hx,kg,hq,Int.toNat_natCast]at hle
   simp only[List.length_append]at hle
   have hms:m=x.c.val.length:=r4.1
   obtain⟨cs,hcs,gp⟩:=p2
   have hz2':w.heap.size<=w2.heap.size:=by omega
   have B02:Below w.heap.size w w2:=hnx.trans (B12.mono hz)
   have hidn:=Hid.mk (And.intro hl (And.intro hle (And.intro hms hz2')))
   have hid2:=Hid.mk (And.intro hbt2 (And.intro B02 (And.intro g2 (And.intro hcs (And.intro gp (And.intro own2 (And.intro h (And.intro hx r4))))))))
   have o2:=Hid.mk own2
   have hm48:(m:Int)<2^48:=by rw[hms];exact r5
   clear hb2 hb1 g0 hown hnx hx r1 r4 r5 r6 h hl hn n2 B12 B02 g2 hcs gp hle own2 hbt2 hms d0 hge2 hc2 hz2'
   go_wp2_with (at_builtin;refine wpList_append_own _ rfl _ _ 22 rfl w.heap.size 5 i0 (.int .u8 0) 1 1 Tryz.underlying22 hi hz0 hz1 hz2 rfl (by decide) _ _ _ rfl o2.out ⟨b2,0,none⟩ (uv q).length c2 (fP (uv q)) rfl ?c1 ?c2 ?c3 ?c4 ?c5 ?c6 ?_)
   case c1=>simp[fP]
   case c2=>exact jy hid2.out.1
   case c3=>exact it _
   case c4=>obtain⟨hl,hle,hms,hzz⟩:=hidn.out;unfold maxLen;omega
   case c5=>obtain⟨hl,hle,hms,hzz⟩:=hidn.out;omega
   case c6=>obtain⟨hl,hle,hms,hzz⟩:=hidn.out;omega
   intro v3 w3 own3 hgrow3 _
   obtain⟨hbt2,B02,g2,hcs,gp,own2,h,hx,r4⟩:=hid2.out
   have g3:=rk own2 hgrow3 g2 (by decide)
   have p3:=rk own2 hgrow3 gp (by decide)
   have B03:Below w.heap.size w w3:=B02.grown hgrow3 hidn.out.2.2.2 (fun k hk=>(own2.lt k hk).1)
   have d3a:=cellOf p3 hcs
   have d3b:=cellOf (i:=1) g3 rfl
   have own3':=Hid.mk own3
   have hid3:=Hid.mk (And.intro g3 (And.intro B03 (And.intro h (And.intro hx r4))))
   clear hbt2 B02 g2 hcs gp own2 h hx r4 g3 p3 B03 own3 hgrow3 hid2 o2 hid1 hidw hid
   by_cases hs0:(ai (q:Int)).size<0
   ·go_wp2_with fail
    refine(rd m (by omega) w3).mono ?_
    rintro e w4 ⟨v,rfl,⟨b4,c4,rfl,hc4,hbt4,hge4⟩,hb4⟩
    obtain⟨g3,B03,h,hx,r4⟩:=hid3.out
    have own4:=mA own3'.out hb4 (Nat.le_refl _)
    have g4:w4.heap[wr.heap.size]?=some (.cells #[.int .i64 x.c.code,.slice A m cap] 31 (0,0)):=by
     rw[hb4.block _ (cS g3)]
     exact g3
    have B04:Below w.heap.size w w4:=B03.trans (hb4.mono B03.size)
    have hidm:=Hid.mk (And.intro hidn.out.1 (And.intro hidn.out.2.1 (And.intro hidn.out.2.2.1 B04.size)))
    have o4:=Hid.mk own4
    have hid4:=Hid.mk (And.intro g4 (And.intro B04 (And.intro h (And.intro hx (And.intro hbt4 own4)))))
    clear hb4 own4 g4 B04 g3 B03 h hx r4 hbt4 hge4 hc4 d3a d3b
    go_wp2_with (at_builtin;refine wpList_append_own _ rfl _ _ 22 rfl w.heap.size 5 i0 (.int .u8 0) 1 1 Tryz.underlying22 hi hz0 hz1 hz2 rfl (by decide) _ _ _ rfl o4.out ⟨b4,0,none⟩ (uv m).length c4 (fP (uv m)) rfl ?c1 ?c2 ?c3 ?c4 ?c5 ?c6 ?_)
    case c1=>simp[fP]
    case c2=>exact jy hid4.out.2.2.2.2.1
    case c3=>exact it _
    case c4=>obtain⟨hl,hle,hms,hzz⟩:=hidm.out;unfold maxLen;rw[if_pos hs0]at hle;rw[<- hms]at hle;omega
    case c5=>obtain⟨hl,hle,hms,hzz⟩:=hidm.out;rw[if_pos hs0]at hle;rw[<- hms]at hle;omega
    case c6=>obtain⟨hl,hle,hms,hzz⟩:=hidm.out;rw[if_pos hs0]at hle;rw[<- hms]at hle;omega
    intro v5 w5 own5 hgrow5 _
    obtain⟨g4,B04,h,hx,hbt4,own4⟩:=hid4.out
    have g5:=rk own4 hgrow5 g4 (by decide)
    have d5b:=cellOf (i:=1) g5 rfl
    have B05:Below w.heap.size w w5:=B04.grown hgrow5 hidm.out.2.2.2 (fun k hk=>(own4.lt k hk).1)
    have own5':=Hid.mk own5
    have hid5:=Hid.mk (And.intro B05 (And.intro h hx))
    clear g4 B04 h hx hbt4 own4 g5 B05 own5 hgrow5 hid4 o4 hid3 own3'
    have hidv:=Hid.mk (And.intro (hidA.out.2.below (hid5.out.1.mono hB) (Nat.le_refl _)) hidA.out.1)
    have hidw:=Hid.mk (And.intro own5'.out hid5.out.1)
    go_wp2_with (at_builtin;refine jT rfl _ _ 22 rfl w.heap.size 5 i0 (.int .u8 0) Tryz.underlying22 hi hz0 hz1 hz2 rfl _ _ _ rfl own5'.out A m cap _ x.c.val rfl hidv.out ?c5 ?c6 ?_)
    case c5=>obtain⟨hl,hle,hms,hzz⟩:=hidm.out;rw[if_pos hs0]at hle;rw[<- hms]at hle;omega
    case c6=>obtain⟨hl,hle,hms,hzz⟩:=hidm.out;have:=hid5.out.1.size;omega
    intro v6 w6 own6 hgrow6
    have own6':=Hid.mk own6
    have hg6:=Hid.mk hgrow6
    clear own6 hgrow6
    go_wp2
    go_roundw
    case rel=>exact Rel8.next hid5.out.2.2 hlt own6'.out (by rw[<- PC (am (l.take k)) hq hs0,<- hidn.out.2.2.1];simp only[List.append_assoc]) (hid5.out.1.grown hg6.out hid5.out.1.size (fun k hk=>(hidw.out.1.lt k hk).1))
    case measure=>exact Bo hki
   ·have o3:=own3'
    have hid5:=Hid.mk (And.intro hid3.out.2.1 hid3.out.2.2.2.1)
    clear own3'
    have hidv:=Hid.mk (And.intro (hidA.out.2.below (hid5.out.1.mono hB) (Nat.le_refl _)) hidA.out.1)
    have hidw:=Hid.mk (And.intro o3.out hid5.out.1)
    go_wp2_with (at_builtin;refine jT rfl _ _ 22 rfl w.heap.size 5 i0 (.int .u8 0) Tryz.underlying22 hi hz0 hz1 hz2 rfl _ _ _ rfl o3.out A m cap _ x.c.val rfl hidv.out ?c5 ?c6 ?_)
    case c5=>obtain⟨hl,hle,hms,hzz⟩:=hidn.out;rw[if_neg (by omega)]at hle;rw[<- hms]at hle;simp at hle;omega
    case c6=>obtain⟨hl,hle,hms,hzz⟩:=hidn.out;have:=hid5.out.1.size;omega
    intro v6 w6 own6 hgrow6
    have own6':=Hid.mk own6
    have hg6:=Hid.mk hgrow6
    clear own6 hgrow6
    go_wp2
    go_roundw
    case rel=>exact Rel8.next hid5.out.2 hlt own6'.out (by rw[<- PD (am (l.take k)) hq (by omega)];simp only[List.append_assoc]) (hid5.out.1.grown hg6.out hid5.out.1.size (fun k hk=>(hidw.out.1.lt k hk).1))
    case measure=>exact Bo hki
  ·have hki:¬(k:Int)<n:=by omega
   have hf:=MZ (show n<=k by omega) h.1 hown
   have hid:=Hid.mk (And.intro hf hnx)
   clear hf h hl hn hown hnx
   go_wp2
   go_ret
   exact⟨_,rfl,hid.out.1,hid.out.2⟩
end
section
open Go Go.Rx Go.RowKit
def Ki:SE->List Nat
 | .normal=>[0,1,5]
 | .ret=>[4]
 |_=>[]
def D6:LoopHook:=cl 25 Nat .ret [4] (fun i=>[.int .i64 (i:Int) false]) Unit (.exit 0) [] (fun _=>[])
def KI:Hooks:={ calls:=fun _=>none,loops:=fun _ _=>some D6 }
def Kk:SE->List Nat
 | .normal=>[0,1,5]
 | .exit _=>[0,5]
 |_=>[]
def D9:LoopHook:=cl 33 (ByteArray×Nat) (.exit 0) [0,5] (fun z=>[.str z.1 false,.int .i64 (z.2:Int) false]) Unit .ret [] (fun _=>[])
def KQ:Hooks:={ calls:=fun _=>none,loops:=fun _ k=>if k=3 then some D9 else none }
noncomputable abbrev vo(s:ByteArray):List SV:=([(.str s false),(.str (ByteArray.mk #[47]) true),(.tup []),(.tup []),(.int .i64 0 true),(.int .i64 0 true)]++List.replicate 19 az)
theorem Ms(s:ByteArray)(w:World):al Tryz.prog KI 1000 92 [.str s false,.str ⟨#[47]⟩ true] (SS.at w) =
(.loop 92 (av Tryz.prog 92 3) (vo s) (SS.mk [] [] true w []) (LoopHook.X (D6)) (LoopHook.out (D6) (vo s) (SS.mk [] [] true w [])) (fun x0 w0 b0=>(.leaf .ret [(.int .i64 ((↑x0.fst:Int)) false)] (SS.mk [] [] true w0 b0))) (LoopHook.Y (D6)) (LoopHook.out' (D6) (vo s) (SS.mk [] [] true w [])) (fun x0 w0 b0=>(.leaf .ret [(.int .i64 (-1) true)] (SS.mk [] [] true w0 b0)))):=by kernel_rfl
theorem Rf(s:ByteArray)(w:World):(by have h:=Ms s w;unfold vo at h;exact type_of% h):=Ms s w
theorem QS(s:ByteArray)(i:Nat)(w:World)(g:Nat->Value):aO Tryz.prog ar 1000 92 (av Tryz.prog 92 3) (ay ((Ki .normal).zip [.str s false,.str ⟨#[47]⟩ true,.int .i64 i false]) g 25 0) (fun e a s=>.leaf e (fG Ki e a) s) (SS.at w) =
 (.split (decide (i64.wrap ((↑i:Int)+(↑(1:Nat):Int))<=(↑s.size:Int)))
  (.need ((0:Int)<=i64.wrap ((↑i:Int)+(↑(1:Nat):Int))/\i64.wrap ((↑i:Int)+(↑(1:Nat):Int))<=(↑s.size:Int))
  (.need ((0:Int)<=(↑i:Int)/\(↑i:Int)<=(↑(i64.wrap ((↑i:Int)+(↑(1:Nat):Int))).toNat:Int))
  (.split ((s.extract (↑i:Int).toNat (i64.wrap ((↑i:Int)+(↑(1:Nat):Int))).toNat).toList == (ByteArray.mk #[(47:UInt8)]).toList)
  (.leaf .ret [(.int .i64 ((↑i:Int)) false)] (SS.mk [] [] true w []))
  (.leaf .normal [(.str s false),(.str (ByteArray.mk #[47]) true),(.int .i64 (i64.wrap ((↑i:Int)+(1:Int))) false)] (SS.mk [] [] true w [])))))
  (.leaf (.exit 0) [] (SS.mk [] [] true w []))):=by kernel_rfl
noncomputable abbrev vm(s:ByteArray):List SV:=([(.str s false),(.str (ByteArray.mk #[47]) true),(.tup []),(.tup []),(.str (ByteArray.mk #[]) true),(.int .i64 ((↑s.size:Int)) false),(.tup []),(.tup []),(.str s false),(.int .i64 ((↑s.size:Int)) false)]++List.replicate 23 az)
theorem Mw(s:ByteArray)(w:World):al Tryz.prog KQ 1000 77 [.str s false,.str ⟨#[47]⟩ true] (SS.at w) =
(.loop 77 (av Tryz.prog 77 3) (vm s) (SS.mk [] [] true w []) (LoopHook.X (D9)) (LoopHook.out (D9) (vm s) (SS.mk [] [] true w [])) (fun x0 w0 b0=>(.need ((0:Int)<=(↑x0.fst.snd:Int)/\(↑x0.fst.snd:Int)<=(↑x0.fst.fst.size:Int)) (.leaf .ret [(.str (x0.fst.fst.extract 0 (↑x0.fst.snd:Int).toNat) false)] (SS.mk [] [] true w0 b0)))) (LoopHook.Y (D9)) (LoopHook.out' (D9) (vm s) (SS.mk [] [] true w [])) (fun x0 w0 b0=>(.leaf .ret [(.raw (x0.snd 4))] (SS.mk [] [] true w0 b0)))):=by kernel_rfl
theorem Rm(s:ByteArray)(w:World):(by have h:=Mw s w;unfold vm at h;exact type_of% h):=Mw s w
theorem QU(s:ByteArray)(i:Nat)(w:World)(g:Nat->Value):aO Tryz.prog ar 1000 77 (av Tryz.prog 77 3) (ay ((Kk .normal).zip [.str s false,.str ⟨#[47]⟩ true,.int .i64 i false]) g 33 0) (fun e a s=>.leaf e (fG Kk e a) s) (SS.at w) =
 (.split (decide ((↑i:Int) > (0:Int)))
  (.need ((0:Int)<=i64.wrap ((↑i:Int)-(1:Int))/\i64.wrap ((↑i:Int)-(1:Int))<(↑s.size:Int))
  (.split ((↑(47:Nat):Int) == (↑(s.data.toList.getD (i64.wrap ((↑i:Int)-(1:Int))).toNat (0:UInt8)).toNat:Int))
  (.leaf .normal [(.str s false),(.str (ByteArray.mk #[47]) true),(.int .i64 (i64.wrap ((↑i:Int)-(1:Int))) false)] (SS.mk [] [] true w []))
  (.leaf (.exit 0) [(.str s false),(.int .i64 ((↑i:Int)) false)] (SS.mk [] [] true w []))))
  (.leaf (.exit 0) [(.str s false),(.int .i64 ((↑i:Int)) false)] (SS.mk [] [] true w []))):=by kernel_rfl
def Pw(l:List UInt8)(v:Value)(_:World):Prop:=(v=.int .i64 (-1)/\∀x∈l,x≠47)∨(∃a b,l=a++47 :: b/\(∀x∈a,x≠47)/\v=.int .i64 (a.length:Int))
theorem FW{l:List UInt8}{i:Nat}(h:i<l.length):((⟨l.toArray⟩:ByteArray).extract i (i+1)).toList=[l.getD i 0]:=by
 have e:(⟨l.toArray⟩:ByteArray).extract i (i+1)=⟨((l.drop i).take 1).toArray⟩:=by
  apply ByteArray.ext
  rw[ByteArray.data_extract]
  apply Array.ext'
  simp
 rw[e,ByteArray.toList_eq,List.getD_eq_getElem?_getD,List.getElem?_eq_getElem h]
 simp only[List.drop_eq_getElem_cons h]
 rfl
theorem C6(l:List UInt8)(hl:l.length<2^61)(w:World):Calls Tryz.prog 92 #[.string ⟨l.toArray⟩,.string ⟨#[47]⟩] w (bB (Pw l) w):=by
 refine aF (hk:=KI) (n:=1000) (args:=[.str ⟨l.toArray⟩ false,.str ⟨#[47]⟩ true]) ⟨trivial,trivial,trivial⟩ ?_
 refine ah (Rf _ w) ?_
 have hsz:(⟨l.toArray⟩:ByteArray).size=l.length:=aC _
 refine ii (w:=w) (Fine.start w _) Ki (α:=Nat) (fun i=>[.str ⟨l.toArray⟩ false,.str ⟨#[47]⟩ true,.int .i64 i false]) (fun i=>l.length-i) (fun _ i _=>i<=l.length/\∀j,j<i->l.getD j 0≠47)
  (fun _ e lv _=>(e=.ret/\∃i:Nat,lv=[.int .i64 (i:Int)]/\i<l.length/\l.getD i 0=47/\∀j,j<i->l.getD j 0≠47)∨(e=.exit 0/\lv=[]/\∀j,j<l.length->l.getD j 0≠47)) (fun _=>ar) 1000 (by simp) (by simp[Ki]) (by simp[Ki]) (fun _=>⟨trivial,trivial,trivial,trivial⟩) rfl rfl rfl
  (by simp) (by simp) (fun _=>⟨trivial,trivial⟩) (fun _=>trivial) ?_ ?_ ?_
 ·rintro w0 i w1 g _ ⟨hi,hall⟩ hb0 _
  refine ah (QS _ i w1 g) ?_
  have hi1:i64.wrap ((i:Int)+((1:Nat):Int))=((i+1:Nat):Int):=by rw[show((1:Nat):Int)=1 from rfl,aq (by omega) (by omega)];omega
  have hi1':i64.wrap ((i:Int)+1)=((i+1:Nat):Int):=hi1
  rw[hi1,hi1',hsz]
  simp only[Int.toNat_natCast]
  refine ak (fun hlt=>?_) (fun hge=>dp (Fine.nil hb0) (by simp) fun β w' _ _=>.inr ⟨rfl,rfl,fun j hj=>hall j (by omega)⟩)
  have hlt':i<l.length:=by omega
  refine aa (by omega) (aa (by omega) ?_)
  rw[FW hlt',ByteArray.toList_eq]
  refine ae (fun he=>dp (Fine.nil hb0) (by simp) fun β w' _ _=>.inl ⟨rfl,i,rfl,hlt',by simpa using he,hall⟩) (fun hne=>fY (Fine.nil hb0) fun β w' _ _=>⟨i+1,by omega,rfl,by omega,fun j hj=>?_⟩)
  by_cases h:j=i
  ·rw[h];simpa using hne
  ·exact hall j (by omega)
 ·intro β w0 hst hb
  exact⟨0,rfl,Nat.zero_le _,fun j hj=>absurd hj (Nat.not_lt_zero j)⟩
 ·rintro β w0 hst hb e lv w' (⟨rfl,i,rfl,hi,h47,hall⟩ |⟨rfl,rfl,hall⟩) hb0 hb1
  ·refine .inl ⟨i,rfl,rfl,fun g bs hbs=>aQ (Fine.mk' hb1 hbs) fun β w' _ _=>.inr ⟨l.take i,l.drop (i+1),?_,?_,?_⟩⟩
   ·have:l.getD i 0=l[i]:=by rw[List.getD_eq_getElem?_getD,List.getElem?_eq_getElem hi];rfl
    rw[<- h47,this,<- List.drop_eq_getElem_cons hi,List.take_append_drop]
   ·intro x hx
    obtain⟨j,hj,rfl⟩:=List.getElem_of_mem hx
    have hj':j<i:=by simp at hj;omega
    have:=hall j hj'
    rw[List.getD_eq_getElem?_getD,List.getElem?_eq_getElem (by omega)]at this
    rw[List.getElem_take]
    exact this
   ·rw[List.length_take,Nat.min_eq_left (by omega)]
    rfl
  ·refine .inr ⟨(),rfl,rfl,fun g bs hbs=>aQ (Fine.mk' hb1 hbs) fun β w' _ _=>.inl ⟨rfl,fun x hx=>?_⟩⟩
   obtain⟨j,hj,rfl⟩:=List.getElem_of_mem hx
   have:=hall j hj
   rw[List.getD_eq_getElem?_getD,List.getElem?_eq_getElem hj]at this
   exact this
theorem FK(l:List UInt8)(x:UInt8)(hx:x≠47)(hl:l.length<2^61)(w:World):Calls Tryz.prog 77 #[.string ⟨(l++[x]).toArray⟩,.string ⟨#[47]⟩] w (bB (fun v _=>v=.string ⟨(l++[x]).toArray⟩) w):=by
 refine aF (hk:=KQ) (n:=1000) (args:=[.str ⟨(l++[x]).toArray⟩ false,.str ⟨#[47]⟩ true]) ⟨trivial,trivial,trivial⟩ ?_
 refine ah (Rm _ w) ?_
 have hsz:(⟨(l++[x]).toArray⟩:ByteArray).size=l.length+1:=by rw[aC];simp
 have hd:(⟨(l++[x]).toArray⟩:ByteArray).data.toList.getD l.length 0=x:=by
  show(l++[x]).getD l.length 0=x
  simp
 rw[hsz]
 refine ii (w:=w) (Fine.start w _) Kk (α:=Unit) (fun _=>[.str ⟨(l++[x]).toArray⟩ false,.str ⟨#[47]⟩ true,.int .i64 ((l.length+1:Nat):Int) false]) (fun _=>0) (fun _ _ _=>True)
  (fun _ e lv _=>e=.exit 0/\lv=[.string ⟨(l++[x]).toArray⟩,.int .i64 ((l.length+1:Nat):Int)]) (fun _=>ar) 1000 (by simp) (by simp[Kk]) (by simp[Kk]) (fun _=>⟨trivial,trivial,trivial,trivial⟩) rfl rfl rfl
  (by simp) (by simp) (fun _=>⟨trivial,trivial,trivial⟩) (fun _=>trivial) ?_ ?_ ?_
 ·rintro w0 ⟨⟩ w1 g _ _ hb0 _
  refine ah (QU _ (l.length+1) w1 g) ?_
  have hi1:i64.wrap (((l.length+1:Nat):Int)-1)=((l.length:Nat):Int):=by rw[aq (by omega) (by omega)];omega
  rw[hi1,hsz]
  simp only[Int.toNat_natCast]
  rw[hd]
  refine ak (fun hlt=>aa (by omega) (ae (fun h47=>?_) (fun _=>dp (Fine.nil hb0) (by simp) fun β w' _ _=>⟨rfl,rfl⟩))) (fun h=>absurd h (by omega))
  exact absurd (UInt8.toNat_inj.1 (by have:=eq_of_beq h47;have h2:(47:Int)=((x.toNat:Nat):Int):=this;show x.toNat=47;omega)) hx
 ·intro β w0 hst hb
  exact⟨(),rfl,trivial⟩
 ·rintro β w0 hst hb e lv w' ⟨rfl,rfl⟩ hb0 hb1
  refine .inl ⟨(_,_),rfl,rfl,fun g bs hbs=>aa (by dsimp only;rw[hsz];omega) (aQ (Fine.mk' hb1 hbs) fun β w' _ _=>?_)⟩
  dsimp only
  rw[Int.toNat_natCast,<- hsz]
  show Value.string _=_
  rw[ByteArray.extract_zero_size]
end
end Go.Proofs.YtnklanajebphpaaGreatDoor
