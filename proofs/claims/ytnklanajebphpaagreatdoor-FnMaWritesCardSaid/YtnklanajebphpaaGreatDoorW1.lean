/- Joined texts: RxH RxI RxJ RxK RxL RxM RxN RxO RxP RxQ. -/
import Derived.Test.YtnklanajebphpaaGreatDoorW0
import Derived.Below
set_option maxRecDepth 100000
set_option maxHeartbeats 4000000
set_option linter.unusedVariables false
set_option linter.unusedSimpArgs false
namespace Go.Rx
open IntKind
section
variable {Γ:Ctx}{β:Nat->Nat}{s:SS}{w:World}
theorem wY{y:SV}{n:Nat}{l:Bool}(h:Ft y=some (n,l)):(Builtin.lenOf (y.den β)).run Γ.P w=.ok n w:=by
 unfold Ft at h
 split at h
 ·simp only[Option.some.injEq,Prod.mk.injEq]at h;obtain⟨rfl,rfl⟩:=h;rfl
 ·simp only[Option.some.injEq,Prod.mk.injEq]at h;obtain⟨rfl,rfl⟩:=h;rfl
 ·cases h
theorem wz(z:Array Value)(n:Nat):Builtin.zeroCells z n=(List.replicate n z.toList).flatten.toArray:=by
 have:=rC z.toList n
 simpa [Builtin.zeroCells] using this
theorem om{z:Option Value}{k:IntKind}(h:qc z=some k):z=some (.int k 0):=by
 unfold qc at h
 split at h
 ·split at h
  ·rename_i hn
   simp only[Option.some.injEq]at h
   subst h;subst hn;rfl
  ·cases h
 ·cases h
theorem run_append_room{P:Program}{t t2 ty elem:TypeId}{e2:TypeId}{inf:TypeInfo}{base:Option Addr}{len cap n:Nat}{y:Value}{new:List Value}{w':World}
  (hu:P.underlying t=some (.slice elem)) (hu2:P.underlying t2=some (.slice e2)) (hi:P.info? elem=some inf) (hl:(Builtin.lenOf y).run P w=.ok n w)
  (hroom:len+n<=cap) (hf:(Builtin.firstCells inf.size n y).run P w=.ok new.toArray w)
  (hst:∀a,base=some a->(storeCells (a.add (len*inf.size)) new).run P w=.ok () w') (hnone:base=none->w'=w) :
  (Builtin.append_ #[t,t2] ty #[.slice base len cap,y]).run P w=.ok (.slice base (len+n) cap) w':=by
 simp only[Builtin.append_,List.getElem?_toArray,List.getElem?_cons_zero,List.getElem?_cons_succ,Sem.run_bind,ab hu,ab hu2,Result.andThen_ok,run_sizeOf hi,Sem.run_pure,Bool.false_eq_true,if_false,hl,hroom,if_true,hf,Bool.not_false]
 cases base with
 |none=>simp[hnone rfl]
 |some a=>
  have:=hst a rfl
  simp[this]
theorem run_append_grow{P:Program}{t t2 ty elem:TypeId}{e2:TypeId}{inf:TypeInfo}{base:Option Addr}{len cap n:Nat}{y:Value}{old new:List Value}{z:Value}
  (hu:P.underlying t=some (.slice elem)) (hu2:P.underlying t2=some (.slice e2)) (hi:P.info? elem=some inf) (hl:∀w',Like w w'->(Builtin.lenOf y).run P w'=.ok n w')
  (hroom:¬len+n<=cap) (hmax:((len+n:Nat):Int)<=i64.max) (hbytes:Builtin.nextslicecap (len+n) cap*inf.bytes<=2^48)
  (hf:∀w',Like w w'->(Builtin.firstCells inf.size n y).run P w'=.ok new.toArray w') (ho:∀w',Like w w'->(Builtin.firstCells inf.size len (.slice base len cap)).run P w'=.ok old.toArray w')
  (hz:inf.zero=some z) :
  ∃w',Like w w'/\(Builtin.append_ #[t,t2] ty #[.slice base len cap,y]).run P w =
   .ok (.slice (some ⟨w.heap.size,0,none⟩) (len+n) ((Question.appendCap (len+n) cap elem).cut (w.tape w.drawn (.appendCap (len+n) cap elem))))
    (w'.alloc (.cells (old++new++(List.replicate ((Question.appendCap (len+n) cap elem).cut (w.tape w.drawn (.appendCap (len+n) cap elem))-(len+n)) z.cells.toList).flatten).toArray elem)):=by
 generalize hc:(Question.appendCap (len+n) cap elem).cut (w.tape w.drawn (.appendCap (len+n) cap elem))=c
 have hlk:Like w { w with drawn:=w.drawn+1 }:=⟨rfl,rfl,rfl,rfl⟩
 refine⟨{ w with drawn:=w.drawn+1 },hlk,?_⟩
 have h1:¬(((len+n:Nat):Int) > i64.max):=by omega
 have h2:¬(Builtin.nextslicecap (len+n) cap*inf.bytes > 2^48):=by omega
 simp only[Builtin.append_,List.getElem?_toArray,List.getElem?_cons_zero,List.getElem?_cons_succ,Sem.run_bind,ab hu,ab hu2,Result.andThen_ok,run_sizeOf hi,Sem.run_pure,Bool.false_eq_true,if_false,
  hl w ⟨rfl,rfl,rfl,rfl⟩,hroom,run_typeInfo hi,h1,false_and,h2,run_choose,Question.forced,hc,run_askRoom,ho _ hlk,hf _ hlk,Bool.not_false,if_true,cx hi hz,newRow,run_newObj,wz]
 congr 2
 simp
theorem BM{id tot lo hi:Nat}{e:TypeId}{l vs:List Value}(hs:St Γ β s w)(ho:s.objs[id]?=some (.vals l tot e lo hi))
  (hf:ap lo hi l.length vs.length=true) (hroom:l.length+vs.length<=tot) (h1:∀v∈vs,v.oneCell'=true) :
  ∃w',(storeCells ⟨β id,l.length,none⟩ vs).run Γ.P w=.ok () w'/\St Γ β (s.set id (.vals (l++vs) tot e lo hi)) w':=by
 obtain⟨rest,hb,htot⟩:=hs.at_ id _ ho
 have:=dF hf
 obtain⟨w',r1,r2,r3⟩:=cj (P:=Γ.P) (β id) l.length e lo hi vs 0 w (l++rest) hb h1 (by rw[List.length_append];omega) (by omega)
 refine⟨w',r1,hs.put ho r3 ?_ trivial⟩
 refine⟨rest.drop vs.length,?_,by rw[List.length_append,List.length_drop];omega⟩
 rw[r2,Nat.add_zero]
 have key:∀(a vs rest:List Value),vs.length<=rest.length->bz (a++rest) a.length vs=a++vs++rest.drop vs.length:=by
  intro a vs
  induction vs generalizing a with
  |nil=>intro rest _;simp[bz]
  |cons v vs ih=>
   intro rest hr
   cases rest with
   |nil=>simp at hr
   |cons r rest=>
    simp only[List.length_cons]at hr
    simp only[bz]
    have e1:(a++r :: rest).set a.length v=(a++[v])++rest:=by
     rw[List.set_append_right _ _ (Nat.le_refl _)];simp
    have e2:a.length+1=(a++[v]).length:=by simp
    rw[e1,e2,ih (a++[v]) rest (by omega)]
    simp
 rw[key l vs rest (by omega)]
theorem BJ(w:World)(b:Nat):Only w w b:=⟨rfl,fun _ _=>rfl,rfl,rfl,rfl⟩
theorem St.asVals(hs:St Γ β s w){id tot lo hi:Nat}{cs:List SV}{l:List Value}{e:TypeId}(ho:s.objs[id]?=some (.cells cs tot e lo hi))(hc:lO cs=some l) :
  St Γ β (s.set id (.vals l tot e lo hi)) w:=by
 obtain⟨rest,hb,htot⟩:=hs.at_ id _ ho
 obtain⟨h1,h2⟩:=lQ hc β
 refine hs.put ho (BJ w _) (o':=.vals l tot e lo hi) ⟨rest,by rw[hb,h1],?_⟩ trivial
 rw[<- h1,av];exact htot
theorem d9{t t2 ty elem e2:TypeId}{inf:TypeInfo}{id off len n cap tot lo hi:Nat}{l new:List Value}{e:TypeId}{y:Value}{z:Value}{K:SV->SS->T}
  (h:(fB s elem inf id off len n cap l tot e lo hi new K).holds Γ) (hs:St Γ β s w) (ho:s.objs[id]?=some (.vals l tot e lo hi))
  (hu:Γ.P.underlying t=some (.slice elem)) (hu2:Γ.P.underlying t2=some (.slice e2)) (hi':Γ.P.info? elem=some inf) (hz:inf.zero=some z) (hzs:z.cells.size=inf.size)
  (hl:∀w',Like w w'->(Builtin.lenOf y).run Γ.P w'=.ok n w') (hf:∀w',Like w w'->(Builtin.firstCells inf.size n y).run Γ.P w'=.ok new.toArray w')
  (hnew:new.length=n*inf.size) (h1:∀v∈new,v.oneCell'=true) (hid:id<s.n) :
  Good Γ β s ((Builtin.append_ #[t,t2] ty #[.slice (some ⟨β id,off,none⟩) len cap,y]).run Γ.P w) K:=by
 unfold fB at h
 obtain⟨g1,g2⟩:=h
 by_cases hroom:len+n<=cap
 ·obtain⟨⟨hoff,htot,hfz⟩,hh⟩:=g1 (by simpa using hroom)
  obtain⟨w',r1,r2⟩:=BM hs ho hfz htot h1
  refine⟨_,_,β,w',?_,⟨r2,by rw[SS.n_set];exact Nat.le_refl _,fun _ _=>rfl⟩,by rw[SS.n_set];exact hid,hh⟩
  simp only[SV.den]
  refine run_append_room hu hu2 hi' (hl w ⟨rfl,rfl,rfl,rfl⟩) hroom (hf w ⟨rfl,rfl,rfl,rfl⟩) (fun a ha=>?_) (fun hn=>by cases hn)
  simp only[Option.some.injEq]at ha
  subst ha
  rw[add_plain,hoff];exact r1
 ·obtain⟨⟨hle,hb,hm⟩,hh⟩:=g2 (by simpa using hroom)
  have hold':∀w',Like w w'->(Builtin.firstCells inf.size len (.slice (some ⟨β id,off,none⟩) len cap)).run Γ.P w'=.ok ((l.drop off).take (len*inf.size)).toArray w':=by
   intro w' hw
   have:=nf (Γ:=Γ) (hs.like hw) ho hle
   simpa [Builtin.firstCells] using this
  obtain⟨w',l1,l2⟩:=run_append_grow (ty:=ty) (base:=some ⟨β id,off,none⟩) (cap:=cap) hu hu2 hi' hl hroom hm hb hf hold' hz
  have hh:=hh (w.tape w.drawn (.appendCap (len+n) cap elem))
  generalize hc:(Question.appendCap (len+n) cap elem).cut (w.tape w.drawn (.appendCap (len+n) cap elem))=c at l2 hh
  have hcle:len+n<=c:=by rw[<- hc];simp only[Question.cut];exact Nat.le_add_right _ _
  have hs':=hs.like l1
  have hsz:w'.heap.size=w.heap.size:=by rw[l1.heap]
  refine⟨_,_,xZ β s.n w'.heap.size,_,?_,⟨hs'.alloc (o:=.vals ((l.drop off).take (len*inf.size)++new) (c*inf.size) elem 0 0) (ob:=.cells ((l.drop off).take (len*inf.size)++new++(List.replicate (c-(len+n)) z.cells.toList).flatten).toArray elem) ?_ trivial,?_,fun i hi=>bN hi⟩,?_,hh⟩
  rotate_left
  ·refine⟨(List.replicate (c-(len+n)) z.cells.toList).flatten,rfl,?_⟩
   have e1:((l.drop off).take (len*inf.size)).length=len*inf.size:=by simp;omega
   rw[List.length_append,e1,hnew]
   simp[List.length_flatten,hzs]
   rw[<- Nat.add_mul,<- Nat.add_mul]
   congr 1
   omega
  ·rw[SS.n_new];exact Nat.le_succ _
  ·rw[SS.n_new];exact Nat.lt_succ_self _
  ·simp only[SV.den,dt,hsz]
   exact l2
theorem qK(w:World)(A:Option Addr)(n:Nat):∀v∈valsAt w A n,v.oneCell'=true:=by
 intro v hv
 simp only[valsAt,List.mem_map]at hv
 obtain⟨_,_,rfl⟩:=hv
 rfl
theorem oP{t t2 ty elem e2:TypeId}{inf:TypeInfo}{x:SV}{A:Option Addr}{n c:Nat}{K:SV->SS->T}
  (h:(mN s elem inf x A n K).holds Γ) (hs:St Γ β s w) (hx:x.ok s.n)
  (hu:Γ.P.underlying t=some (.slice elem)) (hu2:Γ.P.underlying t2=some (.slice e2)) (hi':Γ.P.info? elem=some inf) :
  Good Γ β s ((Builtin.append_ #[t,t2] ty #[x.den β,.slice A n c]).run Γ.P w) K:=by
 unfold mN at h
 split at h
 ·rename_i hcond
  simp only[Bool.and_eq_true,beq_iff_eq]at hcond
  obtain⟨⟨⟨hext,hsz⟩,_⟩,hk⟩:=hcond
  obtain⟨hcb,h⟩:=h
  have hz:=om hk
  have hlen:(valsAt s.w0 A n).length=n:=by simp[valsAt]
  have hl:∀w',Like w w'->(Builtin.lenOf (.slice A n c)).run Γ.P w'=.ok n w':=fun w' _=>rfl
  have hf:∀w',Like w w'->(Builtin.firstCells inf.size n (.slice A n c)).run Γ.P w'=.ok (valsAt s.w0 A n).toArray w':=by
   intro w' hw
   have o:=(hs.like hw).old hext
   cases A with
   |none=>
    rcases hcb with rfl |⟨a,h,_⟩
    ·simp[Builtin.firstCells,valsAt]
    ·cases h
   |some a=>
    have:=run_loadCells_list (P:=Γ.P) w' a (valsAt s.w0 (some a) n) (mV o hcb a rfl)
    rw[hlen]at this
    simp only[Builtin.firstCells,hsz,Nat.mul_one]
    exact this
  split at h
  ·rename_i id off len cap ll lc
   split at h
   ·rename_i cs tot e lo hi ho
    split at h
    ·rename_i l hc
     split at h
     ·have hs2:=hs.asVals ho hc
      have hid:id<(s.set id (.vals l tot e lo hi)).n:=by rw[SS.n_set];exact hx
      obtain⟨v,s',β',w',r1,r2,r3,r4⟩:=d9 (ty:=ty) h hs2 (by simp only[SS.set];exact List.getElem?_set_self (dB ho)) hu hu2 hi' hz (by simp[Value.cells,hsz]) hl hf (by rw[hlen,hsz,Nat.mul_one]) (qK _ _ _) hid
      exact⟨v,s',β',w',r1,⟨r2.st,by have:=r2.le;rw[SS.n_set]at this;exact this,fun i hi=>r2.agree i (by rw[SS.n_set];exact hi)⟩,r3,r4⟩
     ·exact h.elim
    ·exact h.elim
   ·rename_i l tot e lo hi ho
    exact d9 h hs ho hu hu2 hi' hz (by simp[Value.cells,hsz]) hl hf (by rw[hlen,hsz,Nat.mul_one]) (qK _ _ _) hx
   ·exact h.elim
  ·exact h.elim
 ·exact h.elim
theorem rL{ty:TypeId}{ts:List TypeId}{x y:SV}{rest:List SV}{K:SV->SS->T}(h:(tV Γ.P ts x y s K).holds Γ)(hs:St Γ β s w)(hx:x.ok s.n)(hrest:rest=[]) :
  Good Γ β s ((Builtin.append_ ts.toArray ty (ae β (x :: y :: rest)).toArray).run Γ.P w) K:=by
 subst hrest
 unfold tV at h
 split at h
 ·rename_i t t2
  split at h
  ·rename_i elem e2 hu hu2
   split at h
   ·rename_i inf n hi hlen
    obtain⟨new,f1,f2,f3,f4,f5⟩:=fw h hs
    have hl:∀w',Like w w'->(Builtin.lenOf (y.den β)).run Γ.P w'=.ok n w':=fun w' _=>wY hlen
    have hf:=fun w' hw=>f4 inf.size n rfl w' hw
    simp only[ae]
    split at f3
    ·rename_i hone
     split at f3
     ·rename_i id off len cap ll lc
      split at f3
      ·rename_i cs tot e lo hi' ho
       split at f3
       ·-- the two ways
        have hin:(lJ s id off len n cap lc inf.size cs tot e lo hi' new K).holds Γ->len+n<=cap->Good Γ β s ((Builtin.append_ #[t,t2] ty #[SV.den β (.slc id off len cap ll lc),y.den β]).run Γ.P w) K:=by
         intro hh hroom
         unfold lJ at hh
         split at hh
         ·rename_i cs' hp
          split at hh
          ·rename_i hfz
           obtain⟨w',r1,r2⟩:=m0 hs ho hp hfz hone f2
           refine⟨_,_,β,w',?_,⟨r2,by rw[SS.n_set];exact Nat.le_refl _,fun _ _=>rfl⟩,by rw[SS.n_set];exact hx,hh⟩
           simp only[SV.den]
           refine run_append_room hu hu2 hi (hl w ⟨rfl,rfl,rfl,rfl⟩) hroom (hf w ⟨rfl,rfl,rfl,rfl⟩) (fun a ha=>?_) (fun hn=>by cases hn)
           simp only[Option.some.injEq]at ha
           subst ha
           rw[add_plain];exact r1
          ·exact hh.elim
         ·split at hh
          ·rename_i hoff
           split at hh
           ·rename_i hfz
            obtain⟨htot,hh⟩:=hh
            rw[hoff]at hfz
            obtain⟨w',r1,r2⟩:=yG hs ho hfz htot hone f2
            refine⟨_,_,β,w',?_,⟨r2,by rw[SS.n_set];exact Nat.le_refl _,fun _ _=>rfl⟩,by rw[SS.n_set];exact hx,hh⟩
            simp only[SV.den]
            refine run_append_room hu hu2 hi (hl w ⟨rfl,rfl,rfl,rfl⟩) hroom (hf w ⟨rfl,rfl,rfl,rfl⟩) (fun a ha=>?_) (fun hn=>by cases hn)
            simp only[Option.some.injEq]at ha
            subst ha
            rw[add_plain,hoff];exact r1
           ·exact hh.elim
          ·exact hh.elim
        have hgr:(gW Γ.P s elem inf off len n cap cs new K).holds Γ->¬len+n<=cap->Good Γ β s ((Builtin.append_ #[t,t2] ty #[SV.den β (.slc id off len cap ll lc),y.den β]).run Γ.P w) K:=by
         intro hh hroom
         unfold gW at hh
         split at hh
         ·rename_i old hold
          split at hh
          ·exact hh.elim
          ·rename_i hzok
           obtain⟨hb,hm,hh⟩:=hh
           obtain⟨i',z,hi2,hz,hzs⟩:=gq (by simpa using hzok)
           rw[hi]at hi2
           simp only[Option.some.injEq]at hi2
           subst hi2
           have hold':∀w',Like w w'->(Builtin.firstCells inf.size len (.slice (some ⟨β id,off,none⟩) len cap)).run Γ.P w'=.ok (ae β old).toArray w':=by
            intro w' hw
            have hlen':=eB hold
            have hsl:=hs.like hw
            have:=run_loadCells_list (P:=Γ.P) w' ⟨β id,off,none⟩ (ae β old) (fun j v hv=>by
             rw[add_plain]
             rw[bQ]at hv
             cases hj:old[j]? with
             |none=>rw[hj]at hv;cases hv
             |some x=>
              rw[hj]at hv
              simp only[Option.map_some,Option.some.injEq]at hv
              have hjlt:=(List.getElem?_eq_some_iff.1 hj).1
              rw[kX hold j (by omega)]at hj
              rw[hsl.cell ho hj,hv])
            rw[av,hlen']at this
            simpa [Builtin.firstCells] using this
           obtain⟨w',l1,l2⟩:=run_append_grow (ty:=ty) (base:=some ⟨β id,off,none⟩) (cap:=cap) hu hu2 hi hl hroom hm hb hf hold' hz
           have hh:=hh (w.tape w.drawn (.appendCap (len+n) cap elem))
           generalize hc:(Question.appendCap (len+n) cap elem).cut (w.tape w.drawn (.appendCap (len+n) cap elem))=c at l2 hh
           have hcle:len+n<=c:=by rw[<- hc];simp only[Question.cut];exact Nat.le_add_right _ _
           have hs':=hs.like l1
           have hsz:w'.heap.size=w.heap.size:=by rw[l1.heap]
           have okn:bf s.n (old++new):=em (kd hold (hs.ok id _ ho)) f2
           refine⟨_,_,xZ β s.n w'.heap.size,_,?_,⟨hs'.alloc (o:=.cells (old++new) (c*inf.size) elem 0 0) (ob:=.cells (ae β old++ae β new++(List.replicate (c-(len+n)) z.cells.toList).flatten).toArray elem) ?_ (bu (Nat.le_succ _) _ okn),?_,fun i hi=>bN hi⟩,?_,hh⟩
           rotate_left
           ·refine⟨(List.replicate (c-(len+n)) z.cells.toList).flatten,?_,?_⟩
            ·rw[bI (fun i hi=>bN hi) _ okn,dz]
            ·have hlo:=eB hold
             simp[List.length_flatten,hzs,hlo,f1]
             rw[<- Nat.add_mul,<- Nat.add_mul]
             congr 1
             omega
           ·rw[SS.n_new];exact Nat.le_succ _
           ·rw[SS.n_new];exact Nat.lt_succ_self _
           ·simp only[SV.den,dt,hsz]
            exact l2
         ·exact hh.elim
        split at f3
        ·split at f3
         ·rename_i hroom
          exact hin f3 hroom
         ·rename_i hroom
          exact hgr f3 hroom
        ·obtain⟨g1,g2⟩:=f3
         by_cases hroom:len+n<=cap
         ·exact hin (g1 (by simpa using hroom)) hroom
         ·exact hgr (g2 (by simpa using hroom)) hroom
       ·exact f3.elim
      ·rename_i k l e lo hi' ho
       split at f3
       ·rename_i k' v lit
        split at f3
        ·rename_i hk
         obtain⟨rfl,hsz1,rfl⟩:=hk
         obtain⟨g1,g2⟩:=f3
         by_cases hroom:len+1<=cap
         ·obtain⟨hlt,hfz,hh⟩:=g1 (by simpa using hroom)
          have hb:=hs.at_ id _ ho
          simp only[SObj.At]at hb
          have:=dF hfz
          obtain⟨w',r1,r2,r3⟩:=cj (P:=Γ.P) (β id) (off+len) e lo hi' [.int k v] 0 w (l.map (Value.int k)) hb (by simp[Value.oneCell']) (by simp;omega) (by simp;omega)
          refine⟨_,_,β,w',?_,⟨hs.put ho r3 (o':=.ints k (l.set (off+len) v) e lo hi') ?_ trivial,by rw[SS.n_set];exact Nat.le_refl _,fun _ _=>rfl⟩,by rw[SS.n_set];exact hx,hh⟩
          ·simp only[SV.den]
           refine run_append_room hu hu2 hi (hl w ⟨rfl,rfl,rfl,rfl⟩) hroom (hf w ⟨rfl,rfl,rfl,rfl⟩) (fun a ha=>?_) (fun hn=>by cases hn)
           simp only[Option.some.injEq]at ha
           subst ha
           rw[add_plain,hsz1,Nat.mul_one]
           exact r1
          ·simp only[SObj.At,r2,Nat.add_zero,bz]
           simp[List.map_set]
         ·obtain⟨hb,hm,hle,hh⟩:=g2 (by simpa using hroom)
          split at hh
          ·rename_i hkz
           have hz:=om hkz
           have hold':∀w',Like w w'->(Builtin.firstCells inf.size len (.slice (some ⟨β id,off,none⟩) len cap)).run Γ.P w'=.ok (((l.drop off).take len).map (Value.int k)).toArray w':=by
            intro w' hw
            have hsl:=hs.like hw
            have:=run_loadCells_list (P:=Γ.P) w' ⟨β id,off,none⟩ (((l.drop off).take len).map (Value.int k)) (fun j v hv=>by
             rw[add_plain]
             have hjlt:=(List.getElem?_eq_some_iff.1 hv).1
             simp only[List.length_map,List.length_take,List.length_drop]at hjlt
             rw[hsl.icell ho (show off+j<l.length by omega)]
             simp only[List.getElem?_map,List.getElem?_take_of_lt (show j<len by omega),List.getElem?_drop]at hv
             rw[List.getElem?_eq_getElem (show off+j<l.length by omega)]at hv
             simp only[Option.map_some,Option.some.injEq]at hv
             rw[<- hv]
             simp[List.getD,show off+j<l.length by omega])
            have e1:(((l.drop off).take len).map (Value.int k)).length=len:=by simp;omega
            rw[e1]at this
            simpa [Builtin.firstCells,hsz1] using this
           obtain⟨w',l1,l2⟩:=run_append_grow (ty:=ty) (base:=some ⟨β id,off,none⟩) (cap:=cap) hu hu2 hi hl hroom hm hb hf hold' hz
           have hh:=hh (w.tape w.drawn (.appendCap (len+1) cap elem))
           generalize hc:(Question.appendCap (len+1) cap elem).cut (w.tape w.drawn (.appendCap (len+1) cap elem))=c at l2 hh
           have hs':=hs.like l1
           have hszw:w'.heap.size=w.heap.size:=by rw[l1.heap]
           refine⟨_,_,xZ β s.n w'.heap.size,_,?_,⟨hs'.alloc (o:=.ints k ((l.drop off).take len++v :: List.replicate (c-(len+1)) 0) elem 0 0) (ob:=.cells (((l.drop off).take len).map (Value.int k)++ae β [.int k v lit]++(List.replicate (c-(len+1)) (Value.int k 0).cells.toList).flatten).toArray elem) ?_ trivial,?_,fun i hi=>bN hi⟩,?_,hh⟩
           rotate_left
           ·simp[SObj.At,ae,SV.den,Value.cells]
           ·rw[SS.n_new];exact Nat.le_succ _
           ·rw[SS.n_new];exact Nat.lt_succ_self _
           ·simp only[SV.den,dt,hszw]
            exact l2
          ·exact hh.elim
        ·exact f3.elim
       ·exact f3.elim
      ·rename_i l tot e lo hi' ho
       split at f3
       ·rename_i nv hnv
        obtain⟨c1,c2⟩:=lQ hnv β
        split at f3
        ·exact f3.elim
        ·rename_i hzok
         obtain⟨i',z,hi2,hz,hzs⟩:=gq (by simpa using hzok)
         rw[hi]at hi2
         simp only[Option.some.injEq]at hi2
         subst hi2
         rw[<- c1]at f3
         have:=d9 (t:=t) (t2:=t2) (ty:=ty) (y:=y.den β) f3 hs ho hu hu2 hi hz hzs hl hf (by rw[av];exact f1) (fun v hv=>by
          rw[cD]at hv
          obtain⟨u,hu',rfl⟩:=List.mem_map.1 hv
          exact SV.isOne_den (List.all_eq_true.1 hone u hu') β) hx
         simpa only[SV.den] using this
       ·exact f3.elim
      ·exact f3.elim
     ·rename_i len cap _
      split at f3
      ·rename_i hlc
       obtain⟨rfl,rfl⟩:=hlc
       split at f3
       ·rename_i hn
        subst hn
        refine⟨_,_,β,w,?_,Ext.refl hs,hx,f3⟩
        simp only[SV.den]
        exact run_append_room hu hu2 hi (hl w ⟨rfl,rfl,rfl,rfl⟩) (Nat.le_refl _) (hf w ⟨rfl,rfl,rfl,rfl⟩) (fun a ha=>by cases ha) (fun _=>rfl)
       ·rename_i hn
        split at f3
        ·exact f3.elim
        ·rename_i hzok
         obtain⟨hb,hm,hh⟩:=f3
         obtain⟨i',z,hi2,hz,hzs⟩:=gq (by simpa using hzok)
         rw[hi]at hi2
         simp only[Option.some.injEq]at hi2
         subst hi2
         have hold':∀w',Like w w'->(Builtin.firstCells inf.size 0 (.slice none 0 0)).run Γ.P w'=.ok ([]:List Value).toArray w':=by
          intro w' hw
          simp[Builtin.firstCells]
         obtain⟨w',l1,l2⟩:=run_append_grow (ty:=ty) (base:=none) (len:=0) (cap:=0) hu hu2 hi hl (by omega) (by simpa using hm) (by simpa using hb) hf hold' hz
         have hh:=hh (w.tape w.drawn (.appendCap n 0 elem))
         rw[Nat.zero_add]at l2
         generalize hc:(Question.appendCap n 0 elem).cut (w.tape w.drawn (.appendCap n 0 elem))=c at l2 hh
         have hcle:n<=c:=by rw[<- hc];simp only[Question.cut];exact Nat.le_add_right _ _
         have hs':=hs.like l1
         have hszw:w'.heap.size=w.heap.size:=by rw[l1.heap]
         refine⟨_,_,xZ β s.n w'.heap.size,_,?_,⟨hs'.alloc (o:=.cells new (c*inf.size) elem 0 0) (ob:=.cells ([]++ae β new++(List.replicate (c-n) z.cells.toList).flatten).toArray elem) ?_ (bu (Nat.le_succ _) _ f2),?_,fun i hi=>bN hi⟩,?_,hh⟩
         rotate_left
         ·refine⟨(List.replicate (c-n) z.cells.toList).flatten,?_,?_⟩
          ·rw[bI (fun i hi=>bN hi) _ f2]
           simp
          ·simp[List.length_flatten,hzs,f1]
           rw[<- Nat.add_mul]
           congr 1
           omega
         ·rw[SS.n_new];exact Nat.le_succ _
         ·rw[SS.n_new];exact Nat.lt_succ_self _
         ·simp only[SV.den,dt,hszw]
          exact l2
      ·exact f3.elim
     ·exact f3.elim
    ·exact f3.elim
   ·rename_i inf hi _
    split at h
    ·rename_i A n c _
     have:=oP (ty:=ty) (t:=t) (t2:=t2) (c:=c) h hs hx hu hu2 hi
     simpa only[ae,SV.den] using this
    ·exact h.elim
   ·exact h.elim
  ·exact h.elim
 ·exact h.elim
end
section
variable {Γ:Ctx}{β:Nat->Nat}{s:SS}{w:World}
theorem rE{t ty elem:TypeId}{more:List TypeId}{inf:TypeInfo}{id off len cap n c:Nat}{ll lc:Bool}{A:Option Addr}{rest:List SV}{K:SV->SS->T}
  (h:(sZ s inf id off len A n K).holds Γ) (hs:St Γ β s w) (hu:Γ.P.underlying t=some (.slice elem)) (hi:Γ.P.info? elem=some inf) :
  Good Γ β s ((Builtin.copy_ (t :: more).toArray ty (ae β (SV.slc id off len cap ll lc :: SV.xs A n c :: rest)).toArray).run Γ.P w) K:=by
 unfold sZ at h
 split at h
 ·rename_i hcond
  simp only[Bool.and_eq_true,beq_iff_eq]at hcond
  obtain⟨⟨⟨hext,hsz⟩,_⟩,hk⟩:=hcond
  obtain⟨hcb,hnl,h⟩:=h
  split at h
  ·rename_i l e lo hi' ho
   obtain⟨⟨hle,hfz⟩,h⟩:=h
   have hlen:((valsAt s.w0 A n).map bT).length=n:=by simp[valsAt]
   have hvals:((valsAt s.w0 A n).map bT).map (Value.int .u8)=valsAt s.w0 A n:=by
    simp[valsAt,bT,Function.comp_def]
   obtain⟨w',r1,r2⟩:=DJ hs ho (vs:=(valsAt s.w0 A n).map bT) (off:=off) (by rw[hlen];exact hfz) (by rw[hlen];exact hle)
   rw[hvals]at r1
   rw[hlen]at r2
   have hf:(Builtin.firstCells inf.size n (.slice A n c)).run Γ.P w=.ok (valsAt s.w0 A n).toArray w:=by
    have o:=hs.old hext
    have hl0:(valsAt s.w0 A n).length=n:=by simp[valsAt]
    cases A with
    |none=>
     rcases hcb with rfl |⟨a,h,_⟩
     ·simp[Builtin.firstCells,valsAt]
     ·cases h
    |some a=>
     have:=run_loadCells_list (P:=Γ.P) w a (valsAt s.w0 (some a) n) (mV o hcb a rfl)
     rw[hl0]at this
     simp only[Builtin.firstCells,hsz,Nat.mul_one]
     exact this
   have hl:(Builtin.lenOf (.slice A n c)).run Γ.P w=.ok n w:=rfl
   have hmin:Nat.min n len=n:=Nat.min_eq_left hnl
   refine⟨_,_,β,w',?_,⟨r2,by rw[SS.n_set];exact Nat.le_refl _,fun _ _=>rfl⟩,by trivial,h⟩
   simp only[Builtin.copy_,ae,SV.den,List.getElem?_toArray,List.getElem?_cons_zero,List.getElem?_cons_succ,Sem.run_bind,ab hu,Result.andThen_ok,Sem.run_pure,hl,hmin,run_sizeOf hi,hf,r1,goInt]
  ·exact h.elim
 ·exact h.elim
theorem xM{ty:TypeId}{ts:List TypeId}{x y:SV}{rest:List SV}{K:SV->SS->T}(h:(En Γ.P ts x y s K).holds Γ)(hs:St Γ β s w) :
  Good Γ β s ((Builtin.copy_ ts.toArray ty (ae β (x :: y :: rest)).toArray).run Γ.P w) K:=by
 unfold En at h
 split at h
 ·rename_i t more
  split at h
  ·rename_i elem hu
   split at h
   ·rename_i inf hi
    split at h
    ·rename_i A n c
     split at h
     ·exact rE h hs hu hi
     ·exact h.elim
    ·split at h
     ·rename_i id off len cap lc m lm hlen
      have hl:(Builtin.lenOf (y.den β)).run Γ.P w=.ok m w:=wY hlen
      have key:∀n,Nat.min m len=n->(s8 s id off inf.size n y K).holds Γ ->
        Good Γ β s ((Builtin.copy_ (t :: more).toArray ty (ae β (SV.slc id off len cap true lc :: y :: rest)).toArray).run Γ.P w) K:=by
       intro n hn hh
       unfold s8 at hh
       obtain⟨new,f1,f2,f3,f4,f5⟩:=fw hh hs
       have hf:=f4 inf.size n rfl w ⟨rfl,rfl,rfl,rfl⟩
       split at f3
       ·rename_i hone
        split at f3
        ·rename_i cs tot e lo hi' ho
         split at f3
         ·rename_i cs' hp
          split at f3
          ·rename_i hfz
           obtain⟨w',r1,r2⟩:=m0 hs ho hp hfz hone f2
           refine⟨_,_,β,w',?_,⟨r2,by rw[SS.n_set];exact Nat.le_refl _,fun _ _=>rfl⟩,by trivial,f3⟩
           simp only[Builtin.copy_,ae,SV.den,List.getElem?_toArray,List.getElem?_cons_zero,List.getElem?_cons_succ,Sem.run_bind,ab hu,Result.andThen_ok,Sem.run_pure,hl,hn,run_sizeOf hi,hf,r1,goInt]
          ·exact f3.elim
         ·exact f3.elim
        ·exact f3.elim
       ·exact f3.elim
      split at h
      ·exact key _ rfl h
      ·obtain⟨hle,h⟩:=h
       exact key _ (Nat.min_eq_right hle) h
     ·exact h.elim
   ·exact h.elim
  ·exact h.elim
 ·exact h.elim
def SPlace.den(β:Nat->Nat):SPlace->Place
 | .val v=>.val (v.den β)
 | .var id off=>.var ⟨β id,off,none⟩
def SPlace.ok(n:Nat):SPlace->Prop
 | .val v=>v.ok n
 | .var id _=>id<n
theorem iu{t:TypeId}{x:SPlace}{K:SV->T}(h:(Ep Γ.P t x s K).holds Γ)(hs:St Γ β s w)(hx:x.ok s.n) :
  Same Γ β s w (((x.den β).get t).run Γ.P w) K:=by
 cases x with
 |val v=>exact⟨v,rfl,hx,h⟩
 |var id off=>exact kh h hs
theorem eG:∀(path:List FieldStep) (t:TypeId) (x:SPlace) (K:TypeId->SPlace->T),(kg Γ.P path t x s K).holds Γ->St Γ β s w->x.ok s.n ->
  ∃xt x',(follow path t (x.den β)).run Γ.P w=.ok (xt,x'.den β) w/\x'.ok s.n/\(K xt x').holds Γ
 |[],t,x,K,h,hs,hx=>⟨t,x,rfl,hx,h⟩
 |st :: rest,t,x,K,h,hs,hx=>by
  unfold kg at h
  split at h
  ·rename_i fields hu
   split at h
   ·rename_i f hf
    split at h
    ·rename_i fi hfi
     split at h
     ·exact h.elim
     ·rename_i h0
      split at h
      ·rename_i hd
       obtain⟨v,g1,g2,g3⟩:=iu h hs hx
       dsimp only at g3
       split at g3
       ·rename_i id off
        obtain⟨xt,x',r1,r2,r3⟩:=eG rest f.type (.var id (off+f.offset)) K g3 hs g2
        refine⟨xt,x',?_,r2,r3⟩
        simp only[follow,Sem.run_bind,ab hu,Result.andThen_ok,hf,hd,if_true,g1,SV.den,asAddr,Sem.run_pure,dP hfi h0]
        exact r1
       ·exact g3.elim
      ·rename_i hd
       have hd':st.deref=false:=by simpa using hd
       split at h
       ·rename_i id off
        obtain⟨xt,x',r1,r2,r3⟩:=eG rest f.type (.var id (off+f.offset)) K h hs hx
        refine⟨xt,x',?_,r2,r3⟩
        simp only[follow,Sem.run_bind,ab hu,Result.andThen_ok,hf,hd',Bool.false_eq_true,if_false,SPlace.den,dP hfi h0]
        exact r1
       ·rename_i cs
        split at h
        ·rename_i v hv
         obtain⟨p1,p2⟩:=mZ (β:=β) (w:=w) hv
         obtain⟨xt,x',r1,r2,r3⟩:=eG rest f.type (.val v) K h hs (p2 _ hx)
         refine⟨xt,x',?_,r2,r3⟩
         simp only[follow,Sem.run_bind,ab hu,Result.andThen_ok,hf,hd',Bool.false_eq_true,if_false,SPlace.den,SV.den,p1]
         exact r1
        ·exact h.elim
       ·exact h.elim
    ·exact h.elim
   ·exact h.elim
  ·exact h.elim
theorem oy{P:Program}{xt:TypeId}{a:Addr}{u v:String}:(Builtin.ssaWrapNilChk_ #[xt] xt #[.pointer (some a),strVal u,strVal v]).run P w=.ok (.pointer (some a)) w:=rfl
theorem xQ{xt:TypeId}{x:SPlace}{pr:Bool}{K:SV->T}(h:(Et Γ.P xt x pr s K).holds Γ)(hs:St Γ β s w)(hx:x.ok s.n)(wrapper:Option String) :
  Same Γ β s w ((receiverAt xt (x.den β) pr wrapper).run Γ.P w) K:=by
 unfold Et at h
 split at h
 ·rename_i elem hu
  split at h
  ·rename_i hp
   subst hp
   obtain⟨v,g1,g2,g3⟩:=iu h hs hx
   refine⟨v,?_,g2,g3⟩
   simp only[receiverAt,Sem.run_bind,ab hu,Result.andThen_ok]
   exact g1
  ·rename_i hp
   have hp':pr=false:=by simpa using hp
   subst hp'
   obtain⟨v,g1,g2,g3⟩:=iu h hs hx
   dsimp only at g3
   split at g3
   ·rename_i id off
    obtain⟨v',l1,l2,l3⟩:=kh g3 hs
    refine⟨v',?_,l2,l3⟩
    cases wrapper with
    |none=>
     simp only[receiverAt,Sem.run_bind,ab hu,Result.andThen_ok,g1,SV.den,Sem.run_pure,asAddr]
     exact l1
    |some nm=>
     simp only[receiverAt,Sem.run_bind,ab hu,Result.andThen_ok,g1,SV.den,oy,asAddr,Sem.run_pure]
     exact l1
   ·rename_i a
    obtain⟨v',l1,l2,l3⟩:=qV (t:=elem) (a:=a) (K:=K) g3 hs
    refine⟨v',?_,l2,l3⟩
    cases wrapper with
    |none=>
     simp only[receiverAt,Sem.run_bind,ab hu,Result.andThen_ok,g1,SV.den,Sem.run_pure,asAddr]
     exact l1
    |some nm=>
     simp only[receiverAt,Sem.run_bind,ab hu,Result.andThen_ok,g1,SV.den,oy,asAddr,Sem.run_pure]
     exact l1
   ·exact g3.elim
 ·rename_i d hd hu
  split at h
  ·rename_i hp
   subst hp
   split at h
   ·rename_i id off
    refine⟨.ptr id off,?_,hx,h⟩
    simp only[receiverAt,Sem.run_bind,ab hu,Result.andThen_ok,SPlace.den]
    cases d <;> first |exact(hd _ rfl).elim |rfl
   ·exact h.elim
  ·rename_i hp
   have hp':pr=false:=by simpa using hp
   subst hp'
   obtain⟨v,g1,g2,g3⟩:=iu h hs hx
   refine⟨v,?_,g2,g3⟩
   simp only[receiverAt,Sem.run_bind,ab hu,Result.andThen_ok]
   cases d <;> first |exact(hd _ rfl).elim |exact g1
 ·exact h.elim
theorem rN{t:TypeId}{v:SV}{name:String}{K:FuncId->SV->T}(h:(tX Γ.P t v name s K).holds Γ)(hs:St Γ β s w)(hv:v.ok s.n)(fuel:Nat) :
  ∃f r,(method (fuel+1) t (v.den β) name).run Γ.P w=.ok (f,r.den β) w/\r.ok s.n/\(K f r).holds Γ:=by
 unfold tX at h
 split at h
 ·rename_i i hi
  split at h
  ·rename_i m hm
   split at h
   ·rename_i f pr hf
    obtain⟨xt,x',r1,r2,r3⟩:=eG m.path.toList t (.val v) _ h hs hv
    obtain⟨r,g1,g2,g3⟩:=xQ r3 hs r2 (if m.path.isEmpty then some ((name.splitOn ".").getLastD name) else none)
    refine⟨f,r,?_,g2,g3⟩
    have r1':(follow m.path.toList t (.val (v.den β))).run Γ.P w=.ok (xt,x'.den β) w:=r1
    simp only[method,Sem.run_bind,run_typeInfo hi,Result.andThen_ok,hm,r1',hf,g1,Sem.run_pure]
   ·exact h.elim
  ·exact h.elim
 ·exact h.elim
theorem sQ{t:TypeId}{v:SV}{name:String}(h:sP Γ.P t v name=true)(fuel:Nat) :
  (nilAhead (fuel+1) t (v.den β) name).run Γ.P w=.ok (some false) w:=by
 unfold sP at h
 split at h
 ·rename_i i hi
  split at h
  ·rename_i m hm
   split at h
   ·rename_i hp
    have hp':m.path.toList=[]:=by simpa using hp
    split at h
    ·rename_i f hf
     simp only[nilAhead,Sem.run_bind,run_typeInfo hi,Result.andThen_ok,hm,hp',followBlind,Sem.run_pure,hf]
    ·rename_i f hf
     split at h
     ·rename_i e hu
      split at h
      ·simp only[nilAhead,Sem.run_bind,run_typeInfo hi,Result.andThen_ok,hm,hp',followBlind,Sem.run_pure,hf,ab hu,SV.den]
      ·cases h
     ·rename_i d hd hu
      simp only[nilAhead,Sem.run_bind,run_typeInfo hi,Result.andThen_ok,hm,hp',followBlind,Sem.run_pure,hf,ab hu]
      cases d <;> first |exact(hd _ rfl).elim |rfl
     ·cases h
    ·cases h
   ·cases h
  ·cases h
 ·cases h
theorem iP{x:SV}{o:Oper}{K:SV->T}(h:(ni Γ.P x K).holds Γ)(hx:x.ok s.n)(y:Operand)(ρ:Operand->Value)(hop:o.op=.nilCheck y)(hρ:ρ y=x.den β) :
  ∃v,(execOp ρ o).run Γ.P w=.ok (.value (v.den β)) w/\v.ok s.n/\(K v).holds Γ:=by
 unfold ni at h
 split at h
 ·exact⟨_,by simp[execOp,hop,hρ,SV.den],hx,h⟩
 ·exact⟨_,by simp[execOp,hop,hρ,SV.den],hx,h⟩
 ·exact⟨_,by simp[execOp,hop,hρ,SV.den],hx,h⟩
 ·rename_i name first cap
  split at h
  ·rename_i t v more
   split at h
   ·rename_i ha
    refine⟨_,?_,hx,h⟩
    have hn:=sQ (Γ:=Γ) (β:=β) (w:=w) ha (Γ.P.types.size+(Made.depth-1))
    have e1:Γ.P.types.size+(Made.depth-1)+1=Γ.P.types.size+Made.depth:=by
     have:0<Made.depth:=by decide
     omega
    rw[e1]at hn
    simp only[execOp,hop,hρ,SV.den,ae,List.getElem?_toArray,List.getElem?_cons_zero,Sem.run_bind,run_program,Result.andThen_ok,hn]
    simp
   ·exact h.elim
  ·exact h.elim
 ·exact⟨_,by simp[execOp,hop,hρ,SV.den],hx,h⟩
 ·exact⟨_,by simp[execOp,hop,hρ,SV.den],hx,h⟩
 ·exact⟨_,by simp[execOp,hop,hρ,SV.den],hx,h⟩
 ·exact h.elim
theorem cE{a:List SV}{x:Operand}{v:SV}(h:ev s a x=some v)(hs:St Γ β s w)(ha:bf s.n a):(aG β a).eval x=v.den β/\v.ok s.n:=by
 cases x with
 |tmp t=>
  simp only[ev,Option.some.injEq]at h
  subst h
  simp only[Act.eval,aG,List.getD_eq_getElem?_getD]
  cases ht:a[t]? with
  |none=>simp[bQ,ht,aA,SV.den,ae,undef,SV.ok,bf]
  |some v=>simp[bQ,ht,ik ha ht]
 |const c=>exact⟨(SV.ofValue_den h β).symm,SV.ofValue_ok h _⟩
 |global g=>
  simp only[ev]at h
  split at h
  ·rename_i id hid
   simp only[Option.some.injEq]at h
   subst h
   have hm:(g,id)∈s.gl:=by
    have:=List.lookup_eq_some_iff.1 hid
    obtain⟨l1,l2,hl,_⟩:=this
    rw[hl];simp
   obtain⟨h1,h2⟩:=hs.gl _ hm
   exact⟨by simp only[Act.eval,SV.den];rw[h2],h1⟩
  ·simp only[Option.some.injEq]at h
   subst h
   exact⟨rfl,trivial⟩
 |func f=>
  simp only[ev,Option.some.injEq]at h
  subst h
  exact⟨by simp[Act.eval,SV.den,ae],trivial,trivial⟩
theorem eh{a:List SV}:∀(xs:List Operand) (vs:List SV),F3 s a xs=some vs->St Γ β s w->bf s.n a->xs.map (aG β a).eval=ae β vs/\bf s.n vs
 |[],vs,h,_,_=>by simp[F3]at h;subst h;exact⟨rfl,trivial⟩
 |x :: xs,vs,h,hs,ha=>by
  simp only[F3]at h
  split at h
  ·rename_i v vs' hv hvs
   simp only[Option.some.injEq]at h
   subst h
   obtain⟨h1,h2⟩:=cE hv hs ha
   obtain⟨h3,h4⟩:=eh xs vs' hvs hs ha
   exact⟨by simp only[List.map_cons,ae,h1,h3],h2,h4⟩
  ·cases h
theorem jQ{a:List SV}:∀(xs:List (Nat×Operand)) (vs:List (Nat×SV)),JA s a xs=some vs->St Γ β s w->bf s.n a ->
  xs.map (fun p=>(p.1,(aG β a).eval p.2))=vs.map (fun p=>(p.1,p.2.den β))/\∀p∈vs,p.2.ok s.n
 |[],vs,h,_,_=>by simp[JA]at h;subst h;simp
 |(i,x) :: xs,vs,h,hs,ha=>by
  simp only[JA]at h
  split at h
  ·rename_i v vs' hv hvs
   simp only[Option.some.injEq]at h
   subst h
   obtain⟨h1,h2⟩:=cE hv hs ha
   obtain⟨h3,h4⟩:=jQ xs vs' hvs hs ha
   refine⟨by simp only[List.map_cons,h1,h3],fun p hp=>?_⟩
   rcases List.mem_cons.1 hp with rfl |hp
   ·exact h2
   ·exact h4 p hp
  ·cases h
theorem fy{a:List SV}{x:Option Operand}{v:Option SV}(h:Jz s a x=some v)(hs:St Γ β s w)(ha:bf s.n a):x.map (aG β a).eval=v.map (SV.den β):=by
 cases x with
 |none=>simp[Jz]at h;subst h;rfl
 |some x=>
  simp only[Jz]at h
  cases hx:ev s a x with
  |none=>rw[hx]at h;cases h
  |some y=>
   rw[hx]at h
   simp only[Option.map_some,Option.some.injEq]at h
   subst h
   simp[(cE hx hs ha).1]
theorem aC{a:List SV}{x:Operand}{K:SV->T}(h:(dG s a x K).holds Γ)(hs:St Γ β s w)(ha:bf s.n a):∃v,(aG β a).eval x=v.den β/\v.ok s.n/\(K v).holds Γ:=by
 unfold dG at h
 split at h
 ·rename_i v hv
  obtain⟨h1,h2⟩:=cE hv hs ha
  exact⟨v,h1,h2,h⟩
 ·exact h.elim
theorem cr{a:List SV}{x y:Operand}{K:SV->SV->T}(h:(qO s a x y K).holds Γ)(hs:St Γ β s w)(ha:bf s.n a) :
  ∃u v,(aG β a).eval x=u.den β/\(aG β a).eval y=v.den β/\u.ok s.n/\v.ok s.n/\(K u v).holds Γ:=by
 obtain⟨u,h1,h2,h⟩:=aC h hs ha
 obtain⟨v,h3,h4,h⟩:=aC h hs ha
 exact⟨u,v,h1,h3,h2,h4,h⟩
end
section
variable {Γ:Ctx}{β:Nat->Nat}{s:SS}{w:World}
def d6(Γ:Ctx)(call:eI):Prop:=∀f args s K β w,(call f args s K).holds Γ->St Γ β s w->bf s.n args ->
 Calls Γ.P f (ae β args).toArray w fun e w'=>∃v s' β',e=.returned (v.den β')/\Ext Γ β s β' s' w'/\v.ok s'.n/\(K v s').holds Γ
theorem fA{a:List SV}{β':Nat->Nat}{s':SS}{w':World}(he:Ext Γ β s β' s' w')(ha:bf s.n a)(dst:Option Nat)(v:SV) :
  (aG β a).put dst (v.den β')=aG β' (dr a dst v):=by
 have e1:ae β' a=ae β a:=bI he.agree a ha
 cases dst with
 |none=>simp only[Act.put,dr,aG,e1]
 |some d=>
  simp only[Act.put,dr,aG,wP,e1]
  congr 1
  simp
theorem gc{a:List SV}{n:Nat}(ha:bf n a){v:SV}(hv:v.ok n)(dst:Option Nat):bf n (dr a dst v):=by
 cases dst with
 |none=>exact ha
 |some d=>exact Az ha hv d
theorem cL(a:List SV)(dst:Option Nat)(v:SV):(dr a dst v).length=a.length:=by
 cases dst <;> simp[dr]
theorem cl{o:Oper}{a:List SV}{x:Sem Value}{K:SV->SS->T}{next:Act->World->Prop}{Q:Exit->Act->World->Prop}
  (he:execOp (aG β a).eval o=(do pure (Next.value (<- x)))) (hg:Good Γ β s (x.run Γ.P w) K)
  (hnext:∀v s' β' w',Ext Γ β s β' s' w'->v.ok s'.n->(K v s').holds Γ->next ((aG β a).put o.dst (v.den β')) w'):o.wp Γ.P (aG β a) w next Q:=by
 obtain⟨v,s',β',w',h1,h2,h3,h4⟩:=hg
 unfold Oper.wp
 rw[he]
 simp only[Sem.run_bind,h1,Result.andThen_ok,Sem.run_pure]
 exact hnext v s' β' w' h2 h3 h4
theorem lM{f:FuncId}{args:Array Value}(h:lR Γ.P f=true):(callFunc f args).run Γ.P w=.ok (.enter f args) w:=by
 unfold lR at h
 split at h
 ·rename_i fn hf
  rw[Bool.and_eq_true]at h
  have h1:(fn.name == "runtime.NumGoroutine")=false:=by
   have:=h.1
   simp only[bne,Bool.not_eq_true']at this
   exact this
  have h2:fn.body.isNone=false:=by
   cases hb:fn.body with
   |none=>rw[hb]at h;simp at h
   |some b=>rfl
  simp only[callFunc,Sem.run_bind,run_program,Result.andThen_ok,hf,h1,h2,Bool.false_eq_true,if_false,Sem.run_pure]
 ·cases h
theorem kI{call:eI}(hc:d6 Γ call){f:Fn}{args cap:List SV}{K:SV->SS->T}(h:(pj Γ.P call f args cap s K).holds Γ)(hs:St Γ β s w)
  (hargs:bf s.n args) (hcap:bf s.n cap) {o:Oper}{a:List SV}{next:Act->World->Prop}{Q:Exit->Act->World->Prop}
  (he:(execOp (aG β a).eval o).run Γ.P w=(invoke (.fn f (ae β cap).toArray) (ae β args).toArray).run Γ.P w)
  (hnext:∀v s' β' w',Ext Γ β s β' s' w'->v.ok s'.n->(K v s').holds Γ->next ((aG β a).put o.dst (v.den β')) w'):o.wp Γ.P (aG β a) w next Q:=by
 unfold pj at h
 split at h
 ·rename_i g
  split at h
  ·rename_i hen
   have h1:=hc g (args++cap) s K β w h hs (em hargs hcap)
   unfold Oper.wp
   rw[he]
   have:(invoke (.fn (.func g) (ae β cap).toArray) (ae β args).toArray).run Γ.P w=.ok (.enter g (ae β (args++cap)).toArray) w:=by
    simp only[invoke]
    rw[lM hen,dz]
    simp
   rw[this,Oper.upon_enter]
   refine h1.mono ?_
   rintro e w' ⟨v,s',β',rfl,h2,h3,h4⟩
   exact hnext v s' β' w' h2 h3 h4
  ·exact h.elim
 ·rename_i name
  split at h
  ·rename_i t v rest
   obtain⟨g,r,m1,m2,m3⟩:=rN h hs hargs.1 (Γ.P.types.size+(Made.depth-1))
   have e1:Γ.P.types.size+(Made.depth-1)+1=Γ.P.types.size+Made.depth:=by
    have:0<Made.depth:=by decide
    omega
   rw[e1]at m1
   split at m3
   ·rename_i hen
    have h1:=hc g (r :: rest) s K β w m3 hs ⟨m2,hargs.2⟩
    unfold Oper.wp
    rw[he]
    have:(invoke (.fn (.method name) (ae β cap).toArray) (ae β (.ifc t v :: rest)).toArray).run Γ.P w=.ok (.enter g (ae β (r :: rest)).toArray) w:=by
     simp only[invoke,ae,SV.den,List.getElem?_toArray,List.getElem?_cons_zero,callMethod,Sem.run_bind,run_program,Result.andThen_ok,m1]
     rw[lM hen]
     congr 2
     simp
    rw[this,Oper.upon_enter]
    refine h1.mono ?_
    rintro e w' ⟨v,s',β',rfl,h2,h3,h4⟩
    exact hnext v s' β' w' h2 h3 h4
   ·exact m3.elim
  ·exact h.elim
 ·exact h.elim
theorem ce{xs:Array Operand}{a:List SV}{vs:List SV}(h:F3 s a xs.toList=some vs)(hs:St Γ β s w)(ha:bf s.n a):xs.map (aG β a).eval=(ae β vs).toArray:=by
 obtain⟨h1,_⟩:=eh _ _ h hs ha
 apply Array.ext'
 simp[h1]
theorem nj{call:eI}(hc:d6 Γ call){o:Oper}{a:List SV}{K:SV->SS->T}(h:(Er Γ.P call o a s K).holds Γ)(hs:St Γ β s w)(ha:bf s.n a)
  {next:Act->World->Prop}{Q:Exit->Act->World->Prop}
  (hnext:∀v s' β' w',Ext Γ β s β' s' w'->v.ok s'.n->(K v s').holds Γ->next ((aG β a).put o.dst (v.den β')) w'):o.wp Γ.P (aG β a) w next Q:=by
 unfold Er at h
 split at h
 ·-- move
  rename_i x hop
  obtain⟨v,h1,h2,h3⟩:=aC h hs ha
  unfold Oper.wp
  simp only[execOp,hop,Sem.run_pure,h1]
  exact hnext v s β w (Ext.refl hs) h2 h3
 ·rename_i x hop
  obtain⟨v,h1,h2,h3⟩:=aC h hs ha
  unfold Oper.wp
  simp only[execOp,hop,Sem.run_pure,h1]
  exact hnext v s β w (Ext.refl hs) h2 h3
 ·-- pick
  rename_i c x y hop
  obtain⟨b,h1,h2,h3⟩:=aC h hs ha
  obtain⟨u,v,h4,h5,h6,h7,h8⟩:=cr h3 hs ha
  split at h8
  ·rename_i t lit
   have hrun:(execOp (aG β a).eval o).run Γ.P w=.ok (.value (if t then u.den β else v.den β)) w:=by
    simp only[execOp,hop,h1,h4,h5,SV.den,asBool,Sem.run_bind,Sem.run_pure,Result.andThen_ok]
   unfold Oper.wp
   rw[hrun]
   have key:(if t=true then K u s else K v s).holds Γ:=by
    split at h8
    ·exact h8
    ·obtain⟨k1,k2⟩:=h8
     cases t
     ·simpa using k2 rfl
     ·simpa using k1 rfl
   cases t
   ·exact hnext v s β w (Ext.refl hs) h7 (by simpa using key)
   ·exact hnext u s β w (Ext.refl hs) h6 (by simpa using key)
  ·exact h8.elim
 ·-- alloc
  rename_i e hop
  exact cl (by simp only[execOp,hop]) (tU h hs) hnext
 ·-- box
  rename_i e x hop
  obtain⟨v,h1,h2,h3⟩:=aC h hs ha
  refine cl (x:=Instr.box e (v.den β)) (by simp only[execOp,hop,h1]) ?_ hnext
  rw[FE]
  exact qX h3 hs (SV.cells_ok h2)
 ·-- build
  rename_i t parts hop
  split at h
  ·rename_i ps hps
   obtain⟨p1,p2⟩:=jQ _ _ hps hs ha
   refine cl (x:=Instr.build t (ps.map fun p=>(p.1,p.2.den β)).toArray) ?_ (Same.good hs (mp h p2)) hnext
   have:(parts.map fun(i,x)=>(i,(aG β a).eval x))=(ps.map fun p=>(p.1,p.2.den β)).toArray:=by
    apply Array.ext'
    simp only[Array.toList_map]
    exact p1
   simp only[execOp,hop,this]
  ·exact h.elim
 ·-- buildSlice
  rename_i t len parts hop
  split at h
  ·rename_i ps hps
   obtain⟨p1,p2⟩:=jQ _ _ hps hs ha
   refine cl (x:=Instr.buildSlice t len (ps.map fun p=>(p.1,p.2.den β)).toArray) ?_ (mo h hs p2) hnext
   have:(parts.map fun(i,x)=>(i,(aG β a).eval x))=(ps.map fun p=>(p.1,p.2.den β)).toArray:=by
    apply Array.ext'
    simp only[Array.toList_map]
    exact p1
   simp only[execOp,hop,this]
  ·exact h.elim
 ·-- load
  rename_i t x hop
  obtain⟨v,h1,h2,h3⟩:=aC h hs ha
  exact cl (x:=Instr.loadAt t (v.den β)) (by simp only[execOp,hop,h1]) (Same.good hs (oI h3 hs)) hnext
 ·-- store
  rename_i t x y hop
  obtain⟨u,v,h4,h5,h6,h7,h8⟩:=cr h hs ha
  obtain⟨s',w',r1,r2,r3⟩:=tY h8 hs h7
  unfold Oper.wp
  have hrun:(execOp (aG β a).eval o).run Γ.P w=.ok .skip w':=by
   simp only[execOp,hop,h4,h5,Sem.run_bind,r1,Result.andThen_ok,Sem.run_pure]
  rw[hrun,Oper.upon_skip]
  have:=hnext aA s' β w' r2 trivial r3
  simpa [aA,SV.den,ae,undef] using this
 ·-- nilCheck
  rename_i x hop
  obtain⟨v,h1,h2,h3⟩:=aC h hs ha
  obtain⟨r,r1,r2,r3⟩:=iP (w:=w) (β:=β) h3 h2 x (aG β a).eval hop h1
  unfold Oper.wp
  rw[r1]
  exact hnext r s β w (Ext.refl hs) r2 r3
 ·-- binOp
  rename_i op t x y yt hop
  obtain⟨u,v,h4,h5,h6,h7,h8⟩:=cr h hs ha
  exact cl (x:=do eqGuard op t x y (u.den β) (v.den β);binOp op t (u.den β) (v.den β)) (by simp only[execOp,hop,h4,h5]) (Same.good hs (qQ h8 hs h6 h7)) hnext
 ·-- unOp
  rename_i op t x hop
  obtain⟨v,h1,h2,h3⟩:=aC h hs ha
  exact cl (x:=Op.unary op (v.den β)) (by simp only[execOp,hop,h1]) (Same.good hs (sC h3)) hnext
 ·-- convert
  rename_i src dst x hop
  obtain⟨v,h1,h2,h3⟩:=aC h hs ha
  exact cl (x:=convert src dst (v.den β)) (by simp only[execOp,hop,h1]) (qU h3 hs) hnext
 ·-- makeInterface
  rename_i t x hop
  obtain⟨v,h1,h2,h3⟩:=aC h hs ha
  split at h3
  ·exact h3.elim
  ·rename_i d hd hu
   refine cl (x:=Instr.makeInterface t (v.den β)) (by simp only[execOp,hop,h1]) (Same.good hs ⟨.ifc t v,?_,h2,h3⟩) hnext
   simp only[Instr.makeInterface,Sem.run_bind,ab hu,Result.andThen_ok,SV.den]
   cases d <;> first |exact(hd _ rfl).elim |rfl
  ·exact h3.elim
 ·-- makeFunc
  rename_i f first cap hop
  split at h
  ·rename_i u v hu hv
   have e1:=ce hu hs ha
   have e2:=ce hv hs ha
   refine cl (x:=Instr.makeFunc f (ae β u).toArray (ae β v).toArray) (by simp only[execOp,hop,e1,e2]) (Same.good hs ⟨.fn f u v,?_,⟨(eh _ _ hu hs ha).2,(eh _ _ hv hs ha).2⟩,h⟩) hnext
   simp[Instr.makeFunc,SV.den]
  ·exact h.elim
 ·-- makeSlice
  rename_i t l c hop
  obtain⟨u,v,h4,h5,h6,h7,h8⟩:=cr h hs ha
  exact cl (x:=Instr.makeSlice t (u.den β) (v.den β)) (by simp only[execOp,hop,h4,h5]) (nh h8 hs) hnext
 ·-- slice
  rename_i t x lo hi mx hop
  obtain⟨v,h1,h2,h3⟩:=aC h hs ha
  split at h3
  ·rename_i l hh m hl hhh hm
   have e1:=fy hl hs ha
   have e2:=fy hhh hs ha
   have e3:=fy hm hs ha
   exact cl (x:=Instr.sliceAt t (v.den β) (l.map (SV.den β)) (hh.map (SV.den β)) (m.map (SV.den β))) (by simp only[execOp,hop,h1,e1,e2,e3]) (Same.good hs (mu h3 h2)) hnext
  ·exact h3.elim
 ·-- fieldAddr
  rename_i t x f hop
  obtain⟨v,h1,h2,h3⟩:=aC h hs ha
  exact cl (x:=Instr.fieldAt t (v.den β) f) (by simp only[execOp,hop,h1]) (Same.good hs (gQ h3 h2)) hnext
 ·-- field
  rename_i t x f hop
  obtain⟨v,h1,h2,h3⟩:=aC h hs ha
  exact cl (x:=Instr.field t (v.den β) f) (by simp only[execOp,hop,h1]) (Same.good hs (mr h3 h2)) hnext
 ·-- indexAddr
  rename_i t x i hop
  obtain⟨u,v,h4,h5,h6,h7,h8⟩:=cr h hs ha
  exact cl (x:=Instr.indexAt t (u.den β) (v.den β)) (by simp only[execOp,hop,h4,h5]) (Same.good hs (gS h8 h6)) hnext
 ·-- index
  rename_i t x i hop
  obtain⟨u,v,h4,h5,h6,h7,h8⟩:=cr h hs ha
  exact cl (x:=Instr.index t (u.den β) (v.den β)) (by simp only[execOp,hop,h4,h5]) (Same.good hs (mt h8 h6)) hnext
 ·-- typeAssert
  rename_i x xt as ok hop
  obtain⟨v,h1,h2,h3⟩:=aC h hs ha
  exact cl (x:=Instr.typeAssert (v.den β) xt as ok) (by simp only[execOp,hop,h1]) (Same.good hs (kG h3 h2)) hnext
 ·-- extract
  rename_i x i hop
  obtain⟨v,h1,h2,h3⟩:=aC h hs ha
  split at h3
  ·rename_i vs
   split at h3
   ·rename_i r hr
    refine cl (x:=Instr.extract (SV.den β (.tup vs)) i) (by simp only[execOp,hop,h1]) (Same.good hs ⟨r,?_,ik h2 hr,h3⟩) hnext
    simp[Instr.extract,SV.den,bQ,hr]
   ·exact h3.elim
  ·exact h3.elim
 ·-- call
  rename_i c hop
  split at h
  ·rename_i args hargs
   have e1:=ce hargs hs ha
   have okargs:=(eh _ _ hargs hs ha).2
   split at h
   ·rename_i b hcal
    have hex:∀(w:World),(execOp (aG β a).eval o).run Γ.P w=(builtin b c.argTypes o.type (c.args.map fun | .const _=>true |_=>false) (ae β args).toArray).run Γ.P w:=by
     intro w
     simp only[execOp,hop,resolve,hcal,e1,Sem.run_bind,Sem.run_pure,Result.andThen_ok,invoke]
     rfl
    have fin:∀x:Sem Value,(builtin b c.argTypes o.type (c.args.map fun | .const _=>true |_=>false) (ae β args).toArray)=(do pure (Next.value (<- x)))->Good Γ β s (x.run Γ.P w) K->o.wp Γ.P (aG β a) w next Q:=by
     intro x hx hg
     obtain⟨v,s',β',w',h1,h2,h3,h4⟩:=hg
     unfold Oper.wp
     rw[hex,hx]
     simp only[Sem.run_bind,h1,Result.andThen_ok,Sem.run_pure]
     exact hnext v s' β' w' h2 h3 h4
    unfold qS at h
    split at h
    ·split at h
     ·rename_i t ts x xs hts
      refine fin (Builtin.len_ c.argTypes o.type (ae β (x :: xs)).toArray) (by simp only[builtin]) (Same.good hs ?_)
      have:c.argTypes=(t :: ts).toArray:=by apply Array.ext';rw[hts]
      rw[this]
      exact qW h
     ·exact h.elim
    ·split at h
     ·rename_i t ts x xs hts
      refine fin (Builtin.cap_ c.argTypes o.type (ae β (x :: xs)).toArray) (by simp only[builtin]) (Same.good hs ?_)
      have:c.argTypes=(t :: ts).toArray:=by apply Array.ext';rw[hts]
      rw[this]
      exact qT h
     ·exact h.elim
    ·split at h
     ·rename_i x y
      refine fin (Builtin.append_ c.argTypes o.type (ae β [x,y]).toArray) (by simp only[builtin]) ?_
      have:=rL (ty:=o.type) h hs okargs.1 rfl
      simpa using this
     ·exact h.elim
    ·split at h
     ·rename_i x y rest
      refine fin (Builtin.copy_ c.argTypes o.type (ae β (x :: y :: rest)).toArray) (by simp only[builtin]) ?_
      have:=xM (ty:=o.type) (rest:=rest) h hs
      simpa using this
     ·exact h.elim
    ·exact h.elim
   ·rename_i r m hcal
    obtain⟨v,h1,h2,h3⟩:=aC h hs ha
    refine kI hc h3 hs ⟨h2,okargs⟩ trivial ?_ hnext
    simp only[execOp,hop,resolve,hcal,e1,h1,Sem.run_bind,Sem.run_pure,Result.andThen_ok,ae]
    congr 2
    simp
   ·rename_i f hcal
    obtain⟨v,h1,h2,h3⟩:=aC h hs ha
    split at h3
    ·rename_i g first cap
     refine kI hc h3 hs (em h2.1 okargs) h2.2 ?_ hnext
     simp only[execOp,hop,resolve,hcal,e1,h1,SV.den,Deferred.ofValue,Sem.run_bind,Sem.run_pure,Result.andThen_ok,dz]
     congr 2
     simp
    ·exact h3.elim
  ·exact h.elim
 ·exact h.elim
end
section
variable {Γ:Ctx}{β:Nat->Nat}{s:SS}{w:World}
def PostN(Γ:Ctx)(β:Nat->Nat)(s:SS)(n:Nat)(K:List SV->SS->T)(e:Exit)(a':Act)(w':World):Prop:=
 e=.normal/\∃vs s' β',a'=aG β' vs/\Ext Γ β s β' s' w'/\bf s'.n vs/\vs.length=n/\(K vs s').holds Γ
theorem dS{ops:Array Oper}{a:List SV}{o:Oper}{b lit:Bool}(h:gh ops a o=some (b,lit)):Region.wanted o (yielded ops (aG β a).tmps)=b:=by
 unfold gh at h
 unfold Region.wanted
 split at h
 ·rename_i hg
  simp only[Option.some.injEq,Prod.mk.injEq]at h
  rw[hg];exact h.1
 ·rename_i j want hg
  rw[hg]
  simp only[yielded,aG]
  split at h
  ·rename_i hd
   simp only[Option.some.injEq,Prod.mk.injEq]at h
   simp only[hd,Option.bind_none]
   rw[<- h.1]
   simp
  ·rename_i d hd
   simp only[hd,Option.bind_some,List.getElem?_toArray,bQ]
   split at h
   ·rename_i t lit' ht
    simp only[Option.some.injEq,Prod.mk.injEq]at h
    simp only[ht,Option.map_some,SV.den]
    rw[<- h.1]
    rfl
   ·rename_i vs ht
    simp only[Option.some.injEq,Prod.mk.injEq]at h
    simp only[ht,Option.map_some,SV.den]
    rw[<- h.1]
    simp
   ·cases h
theorem qN{ops:Array Oper}{a:List SV}{o:Oper}{b:Bool}(h:mn ops a o=.sure b):gh ops a o=some (b,true):=by
 unfold mn at h
 unfold gh
 cases hg:o.guard with
 |none=>rw[hg]at h;cases h;rfl
 |some gw=>
  obtain⟨j,want⟩:=gw
  rw[hg]at h
  dsimp only at h ⊢
  cases hd:(ops[j]?).bind (fun x=>x.dst) with
  |none=>rw[hd]at h;cases h;rfl
  |some d=>
   rw[hd]at h
   dsimp only at h ⊢
   split at h
   ·rename_i t lit ht
    split at h
    ·rename_i hl
     cases h
     rw[hl]
    ·cases h
   ·rename_i vs ht
    cases h
    rfl
   ·cases h
theorem sA{ops:Array Oper}{a:List SV}{o:Oper}{d:Nat}{b want:Bool}(h:mn ops a o=.ask d b want) :
  gh ops a o=some (b == want,false)/\a[d]?=some (.bool b false):=by
 unfold mn at h
 unfold gh
 cases hg:o.guard with
 |none=>rw[hg]at h;cases h
 |some gw=>
  obtain⟨j,want'⟩:=gw
  rw[hg]at h
  dsimp only at h ⊢
  cases hd:(ops[j]?).bind (fun x=>x.dst) with
  |none=>rw[hd]at h;cases h
  |some d'=>
   rw[hd]at h
   dsimp only at h ⊢
   split at h
   ·rename_i t lit ht
    split at h
    ·cases h
    ·rename_i hl
     have hl':lit=false:=by simpa using hl
     subst hl'
     injection h with h1 h2 h3
     subst h1;subst h2;subst h3
     exact⟨rfl,ht⟩
   ·cases h
   ·cases h
theorem C1{a:List SV}{d:Nat}{b l:Bool}(h:a[d]?=some (.bool b l)):ae β (iU a d b)=ae β a:=by
 unfold iU
 rw[wP]
 apply List.ext_getElem?
 intro i
 by_cases hi:d=i
 ·subst hi
  have hlt:d<(ae β a).length:=by rw[av];exact(List.getElem?_eq_some_iff.1 h).1
  rw[List.getElem?_set_self hlt,bQ,h]
  rfl
 ·rw[List.getElem?_set_ne hi]
theorem qe{a:List SV}{d:Nat}{b l:Bool}(h:a[d]?=some (.bool b l)):aG β (iU a d b)=aG β a:=by
 unfold aG
 rw[C1 h]
theorem tn{a:List SV}{n:Nat}(h:bf n a)(d:Nat)(b:Bool):bf n (iU a d b):=Az h (v:=.bool b true) trivial d
theorem jl(a:List SV)(d:Nat)(b:Bool):(iU a d b).length=a.length:=by simp[iU]
theorem gY{ops:Array Oper}{a:List SV}{o:Oper}{yes no:List SV->T}(h:(pM (mn ops a o) a yes no).holds Γ)(n:Nat)(ha:bf n a) :
  ∃a',aG β a'=aG β a/\bf n a'/\a'.length=a.length /\
   ((Region.wanted o (yielded ops (aG β a).tmps)=true/\(yes a').holds Γ)∨(Region.wanted o (yielded ops (aG β a).tmps)=false/\(no a').holds Γ)):=by
 unfold pM at h
 split at h
 ·exact h.elim
 ·rename_i hw
  exact⟨a,rfl,ha,rfl,.inl ⟨dS (β:=β) (qN hw),h⟩⟩
 ·rename_i hw
  exact⟨a,rfl,ha,rfl,.inr ⟨dS (β:=β) (qN hw),h⟩⟩
 ·rename_i d b want hw
  obtain⟨h1,h2⟩:=sA hw
  have h3:=dS (β:=β) h1
  refine⟨iU a d b,qe h2,tn ha d b,jl a d b,?_⟩
  split at h
  ·rename_i hwt
   subst hwt
   obtain⟨k1,k2⟩:=h
   cases b
   ·exact .inr ⟨by simpa using h3,k2 rfl⟩
   ·exact .inl ⟨by simpa using h3,k1 rfl⟩
  ·rename_i hwt
   have hwt':want=false:=by simpa using hwt
   subst hwt'
   obtain⟨k1,k2⟩:=h
   cases b
   ·exact .inl ⟨by simpa using h3,k2 rfl⟩
   ·exact .inr ⟨by simpa using h3,k1 rfl⟩
theorem sm{a:List SV}(hs:St Γ β s w)(ha:bf s.n a)(dst:Option Nat):(aG β a).put dst undef=aG β (dr a dst aA):=by
 have:=fA (Ext.refl hs) ha dst aA
 simpa [aA,SV.den,ae,undef] using this
theorem PostN.ext{n:Nat}{K:List SV->SS->T}{β':Nat->Nat}{s':SS}{w':World}(he:Ext Γ β s β' s' w'){e:Exit}{a':Act}{w'':World}(h:PostN Γ β' s' n K e a' w''):PostN Γ β s n K e a' w'':=by
 obtain⟨h0,vs,s2,β2,h1,h2,h3,h4,h5⟩:=h
 exact⟨h0,vs,s2,β2,h1,he.trans h2,h3,h4,h5⟩
theorem jB{P:Program}{ops:Array Oper}{Q Q':Exit->Act->World->Prop}(hq:∀e a w,Q e a w->Q' e a w):∀(l:List Oper) (a:Act) (w:World),wpList P ops Q l a w->wpList P ops Q' l a w
 |[],a,w,h=>hq _ _ _ h
 |o :: rest,a,w,h=>by
  unfold wpList at *
  split
  ·rename_i hw
   rw[if_pos hw]at h
   rcases h with h |⟨h1,a0,w0,h2⟩
   ·left
    refine Oper.wp_mono (Q:=Q') (fun a w=>jB hq rest a w) ?_
    unfold Oper.wp at *
    generalize (execOp a.eval o).run P w=r at *
    cases r with
    |ok n w'=>
     cases n <;> simp only[Oper.upon]at h ⊢ <;> first
      |exact h
      |exact h.elim
      |exact Calls.mono h (fun e w'' he=>by
        cases e with
        |returned v=>exact he
        |panicked c=>exact hq _ _ _ he
        |outgrown=>obtain⟨a0,w0,h2⟩:=he;exact⟨a0,w0,hq _ _ _ h2⟩)
    |halt x w'=>cases x <;> simp only[Oper.upon]at h ⊢ <;> first |exact hq _ _ _ h |exact h.elim |exact h
   ·right;exact⟨h1,a0,w0,hq _ _ _ h2⟩
  ·rename_i hw
   rw[if_neg hw]at h
   exact jB hq rest _ _ h
theorem jE{call:eI}(hc:d6 Γ call){ops:Array Oper}:∀(l:List Oper) (a:List SV) (K:List SV->SS->T) (s:SS) (β:Nat->Nat) (w:World),
  (xO Γ.P call ops l a K s).holds Γ->St Γ β s w->bf s.n a->wpList Γ.P ops (PostN Γ β s a.length K) l (aG β a) w
 |[],a,K,s,β,w,h,hs,ha=>⟨rfl,a,s,β,rfl,Ext.refl hs,ha,rfl,h⟩
 |o :: rest,a,K,s,β,w,h,hs,ha=>by
  unfold xO at h
  obtain⟨a',e1,oka,la,hcase⟩:=gY (β:=β) h s.n ha
  rw[<- e1]
  rw[<- e1]at hcase
  rcases hcase with⟨hw',hh⟩ |⟨hw',hh⟩
  ·unfold wpList
   rw[if_pos hw']
   left
   refine nj hc hh hs oka ?_
   intro v s' β' w' he hv hk
   rw[fA he oka]
   have:=jE hc rest (dr a' o.dst v) K s' β' w' hk he.st (gc (bu he.le a' oka) hv _)
   rw[cL,la]at this
   exact jB (fun e a w hp=>PostN.ext he hp) _ _ _ this
  ·unfold wpList
   rw[if_neg (by rw[hw'];simp),sm hs oka]
   have:=jE hc rest (dr a' o.dst aA) K s β w hh hs (gc oka (v:=aA) trivial _)
   rw[cL,la]at this
   exact this
theorem tF{a:List SV}{o:Oper}{v:SV}(h:pf Γ.P s a o=some v)(hs:St Γ β s w)(ha:bf s.n a) :
  (∀w',(execOp (aG β a).eval o).run Γ.P w'=.ok (.value (v.den β)) w')/\v.ok s.n:=by
 unfold pf at h
 split at h
 ·rename_i x hop
  obtain⟨h1,h2⟩:=cE h hs ha
  exact⟨fun w'=>by simp only[execOp,hop,h1,Sem.run_pure],h2⟩
 ·rename_i x hop
  obtain⟨h1,h2⟩:=cE h hs ha
  exact⟨fun w'=>by simp only[execOp,hop,h1,Sem.run_pure],h2⟩
 ·rename_i x hop
  split at h
  ·rename_i id off hev
   simp only[Option.some.injEq]at h
   subst h
   obtain⟨h1,h2⟩:=cE hev hs ha
   exact⟨fun w'=>by simp only[execOp,hop,h1,SV.den,Sem.run_pure],h2⟩
  ·cases h
 ·rename_i t x f hop
  split at h
  ·rename_i id off hev
   obtain⟨h1,h2⟩:=cE hev hs ha
   split at h
   ·rename_i fields hu
    split at h
    ·rename_i fd hfd
     split at h
     ·rename_i i hi
      split at h
      ·cases h
      ·rename_i h0
       simp only[Option.some.injEq]at h
       subst h
       refine⟨fun w'=>?_,h2⟩
       simp[execOp,hop,h1,SV.den,Instr.fieldAt,ab hu,hfd,Instr.sureAddr,dP hi h0]
     ·cases h
    ·cases h
   ·cases h
  ·cases h
 ·rename_i x i hop
  split at h
  ·rename_i vs hev
   obtain⟨h1,h2⟩:=cE hev hs ha
   refine⟨fun w'=>?_,ik h2 h⟩
   simp[execOp,hop,h1,SV.den,Instr.extract,bQ,h]
  ·cases h
 ·rename_i t x hop
  split at h
  ·cases h
  ·rename_i u d hd hev hu
   simp only[Option.some.injEq]at h
   subst h
   obtain⟨h1,h2⟩:=cE hev hs ha
   refine⟨fun w'=>?_,h2⟩
   simp only[execOp,hop,h1,Instr.makeInterface,Sem.run_bind,ab hu,Result.andThen_ok,SV.den]
   cases d <;> first |exact(hd _ rfl).elim |rfl
  ·cases h
 ·cases h
theorem ol{l:List Nat}{f:Nat->T}{t:T}(h:(l.foldr (fun i t=>T.both (f i) t) t).holds Γ):t.holds Γ/\∀i∈l,(f i).holds Γ:=by
 induction l with
 |nil=>exact⟨h,by simp⟩
 |cons i l ih=>
  simp only[List.foldr_cons]at h
  obtain⟨h1,h2⟩:=h
  obtain⟨h3,h4⟩:=ih h2
  refine⟨h3,fun j hj=>?_⟩
  rcases List.mem_cons.1 hj with rfl |hj
  ·exact h1
  ·exact h4 j hj
theorem qP{P:Program}{md:Region.Mode}{ops:Array Oper}{Q Q':Exit->Act->World->Prop}(hq:∀e a w,Q e a w->Q' e a w):∀(fuel:Nat) (listed:Array Bool) (a:Act) (w:World),
  wpAny P md ops Q fuel listed a w->wpAny P md ops Q' fuel listed a w:=by
 have hop:∀(i:Nat) (K K':Act->World->Prop),(∀a w,K a w->K' a w)->∀a w,wpOp P ops Q i K a w->wpOp P ops Q' i K' a w:=by
  intro i K K' hK a w h
  have h:=wpOp_mono hK h
  unfold wpOp at *
  split
  ·rename_i ho;simp only[ho]at h;exact h
  ·rename_i o ho
   simp only[ho]at h
   split
   ·rename_i hw
    rw[if_pos hw]at h
    rcases h with h |⟨h1,a0,w0,h2⟩
    ·left
     unfold Oper.wp at *
     generalize (execOp a.eval o).run P w=r at *
     cases r with
     |ok n w'=>
      cases n <;> simp only[Oper.upon]at h ⊢ <;> first
       |exact h
       |exact h.elim
       |exact Calls.mono h (fun e w'' he=>by
         cases e with
         |returned v=>exact he
         |panicked c=>exact hq _ _ _ he
         |outgrown=>obtain⟨a0,w0,h2⟩:=he;exact⟨a0,w0,hq _ _ _ h2⟩)
     |halt x w'=>cases x <;> simp only[Oper.upon]at h ⊢ <;> first |exact hq _ _ _ h |exact h.elim |exact h
    ·right;exact⟨h1,a0,w0,hq _ _ _ h2⟩
   ·rename_i hw
    rw[if_neg hw]at h
    exact h
 intro fuel
 induction fuel with
 |zero=>intro listed a w h;exact⟨h.1,hq _ _ _ h.2⟩
 |succ fuel ih=>
  intro listed a w h
  exact⟨fun h0=>hq _ _ _ (h.1 h0),fun i hi=>hop i _ _ (fun a w hk=>ih _ a w hk) a w (h.2 i hi)⟩
theorem iq{call:eI}(hc:d6 Γ call){ops:Array Oper}(hsel:Region.noSelect ops=true):∀(n:Nat) (listed:List Bool) (a:List SV) (K:List SV->SS->T) (s:SS) (β:Nat->Nat) (w:World),
  (yQ Γ.P call ops n listed a K s).holds Γ->St Γ β s w->bf s.n a->wpAny Γ.P .any ops (PostN Γ β s a.length K) n listed.toArray (aG β a) w
 |0,listed,a,K,s,β,w,h,hs,ha=>by
  unfold yQ at h
  split at h
  ·rename_i hr
   exact⟨hr,rfl,a,s,β,rfl,Ext.refl hs,ha,rfl,h⟩
  ·exact h.elim
 |n+1,listed,a,K,s,β,w,h,hs,ha=>by
  unfold yQ at h
  simp only at h
  split at h
  ·rename_i hr
   exact wpAny_done hr ⟨rfl,a,s,β,rfl,Ext.refl hs,ha,rfl,h⟩ _
  ·rename_i r more hr
   split at h
   ·rename_i i dst v hfind
    obtain⟨l1,i',l2,hl,hi',_⟩:=List.findSome?_eq_some_iff.1 hfind
    split at hi'
    ·rename_i o ho
     split at hi'
     ·rename_i hcond
      rw[Bool.and_eq_true]at hcond
      cases hp:pf Γ.P s a o with
      |none=>rw[hp]at hi';cases hi'
      |some v'=>
       rw[hp]at hi'
       simp only[Option.map_some,Option.some.injEq,Prod.mk.injEq]at hi'
       obtain⟨rfl,rfl,rfl⟩:=hi'
       obtain⟨p1,p2⟩:=tF hp hs ha
       have hmem:i'∈Region.ready .any ops listed.toArray:=by rw[hr,hl];simp
       have hg:o.guard=none:=by simpa using hcond.1
       refine wpAny_take (v:=v'.den β) ho hsel hcond.2 (by simpa using hmem) (fun c a w hq=>by cases hq.1) (.inl ⟨by simp[Region.wanted,hg],p1⟩) ?_
       rw[fA (Ext.refl hs) ha]
       have:=iq hc hsel n (listed.set i' true) (dr a o.dst v') K s β w h hs (gc ha p2 _)
       rw[cL]at this
       simpa using this
     ·cases hi'
    ·cases hi'
   ·obtain⟨h1,h2⟩:=ol h
    have hall:∀i∈r :: more,_:=fun i hi=>(List.mem_cons.1 hi).elim (fun e=>e ▸ h1) (fun hm=>h2 i hm)
    refine wpAny_all hr (by simp) fun i hi=>?_
    have h:=hall i hi
    unfold wpOp
    split at h
    ·exact h.elim
    ·rename_i o ho
     simp only[ho]
     obtain⟨a',e1,oka,la,hcase⟩:=gY (β:=β) h s.n ha
     rw[<- e1]
     rw[<- e1]at hcase
     rcases hcase with⟨hw',hh⟩ |⟨hw',hh⟩
     ·rw[if_pos hw']
      left
      refine nj hc hh hs oka ?_
      intro v s' β' w' he hv hk
      rw[fA he oka]
      have:=iq hc hsel n (listed.set i true) (dr a' o.dst v) K s' β' w' hk he.st (gc (bu he.le a' oka) hv _)
      rw[cL,la]at this
      have:=qP (fun e a w hp=>PostN.ext he hp) _ _ _ _ this
      simpa using this
     ·rw[if_neg (by rw[hw'];simp),sm hs oka]
      have:=iq hc hsel n (listed.set i true) (dr a' o.dst aA) K s β w hh hs (gc oka (v:=aA) trivial _)
      rw[cL,la]at this
      simpa using this
end
section
variable {Γ:Ctx}{β:Nat->Nat}{s:SS}{w:World}
theorem bV{o:Oper}{a:List SV}{x:Sem Value}{K:SV->T}(he:execOp (aG β a).eval o=(do pure (Next.value (<- x))))(hg:Same Γ β s w (x.run Γ.P w) K) :
  ∃v,(execOp (aG β a).eval o).run Γ.P w=.ok (.value (v.den β)) w/\v.ok s.n/\(K v).holds Γ:=by
 obtain⟨v,h1,h2,h3⟩:=hg
 exact⟨v,by rw[he];simp only[Sem.run_bind,h1,Result.andThen_ok,Sem.run_pure],h2,h3⟩
theorem B1{call:eI}{o:Oper}{a:List SV}{K:SV->SS->T}(hq:tH o=true)(h:(Er Γ.P call o a s K).holds Γ)(hs:St Γ β s w)(ha:bf s.n a) :
  ∃v,(execOp (aG β a).eval o).run Γ.P w=.ok (.value (v.den β)) w/\v.ok s.n/\(K v s).holds Γ:=by
 unfold Er at h
 unfold tH at hq
 split at h
 ·rename_i x hop
  obtain⟨v,h1,h2,h3⟩:=aC h hs ha
  exact⟨v,by simp only[execOp,hop,Sem.run_pure,h1],h2,h3⟩
 ·rename_i x hop
  obtain⟨v,h1,h2,h3⟩:=aC h hs ha
  exact⟨v,by simp only[execOp,hop,Sem.run_pure,h1],h2,h3⟩
 ·rename_i hop;simp[hop]at hq
 ·rename_i hop;simp[hop]at hq
 ·rename_i hop;simp[hop]at hq
 ·rename_i t parts hop
  split at h
  ·rename_i ps hps
   obtain⟨p1,p2⟩:=jQ _ _ hps hs ha
   refine bV (x:=Instr.build t (ps.map fun p=>(p.1,p.2.den β)).toArray) ?_ (mp h p2)
   have:(parts.map fun(i,x)=>(i,(aG β a).eval x))=(ps.map fun p=>(p.1,p.2.den β)).toArray:=by
    apply Array.ext'
    simp only[Array.toList_map]
    exact p1
   simp only[execOp,hop,this]
  ·exact h.elim
 ·rename_i hop;simp[hop]at hq
 ·rename_i t x hop
  obtain⟨v,h1,h2,h3⟩:=aC h hs ha
  exact bV (x:=Instr.loadAt t (v.den β)) (by simp only[execOp,hop,h1]) (oI h3 hs)
 ·rename_i hop;simp[hop]at hq
 ·rename_i x hop
  obtain⟨v,h1,h2,h3⟩:=aC h hs ha
  exact iP (w:=w) (β:=β) h3 h2 x (aG β a).eval hop h1
 ·rename_i op t x y yt hop
  obtain⟨u,v,h4,h5,h6,h7,h8⟩:=cr h hs ha
  exact bV (x:=do eqGuard op t x y (u.den β) (v.den β);binOp op t (u.den β) (v.den β)) (by simp only[execOp,hop,h4,h5]) (qQ h8 hs h6 h7)
 ·rename_i op t x hop
  obtain⟨v,h1,h2,h3⟩:=aC h hs ha
  exact bV (x:=Op.unary op (v.den β)) (by simp only[execOp,hop,h1]) (sC h3)
 ·rename_i hop;simp[hop]at hq
 ·rename_i t x hop
  obtain⟨v,h1,h2,h3⟩:=aC h hs ha
  split at h3
  ·exact h3.elim
  ·rename_i d hd hu
   refine bV (x:=Instr.makeInterface t (v.den β)) (by simp only[execOp,hop,h1]) ⟨.ifc t v,?_,h2,h3⟩
   simp only[Instr.makeInterface,Sem.run_bind,ab hu,Result.andThen_ok,SV.den]
   cases d <;> first |exact(hd _ rfl).elim |rfl
  ·exact h3.elim
 ·rename_i f first cap hop
  split at h
  ·rename_i u v hu hv
   have e1:=ce hu hs ha
   have e2:=ce hv hs ha
   refine bV (x:=Instr.makeFunc f (ae β u).toArray (ae β v).toArray) (by simp only[execOp,hop,e1,e2]) ⟨.fn f u v,?_,⟨(eh _ _ hu hs ha).2,(eh _ _ hv hs ha).2⟩,h⟩
   simp[Instr.makeFunc,SV.den]
  ·exact h.elim
 ·rename_i hop;simp[hop]at hq
 ·rename_i t x lo hi mx hop
  obtain⟨v,h1,h2,h3⟩:=aC h hs ha
  split at h3
  ·rename_i l hh m hl hhh hm
   have e1:=fy hl hs ha
   have e2:=fy hhh hs ha
   have e3:=fy hm hs ha
   exact bV (x:=Instr.sliceAt t (v.den β) (l.map (SV.den β)) (hh.map (SV.den β)) (m.map (SV.den β))) (by simp only[execOp,hop,h1,e1,e2,e3]) (mu h3 h2)
  ·exact h3.elim
 ·rename_i t x f hop
  obtain⟨v,h1,h2,h3⟩:=aC h hs ha
  exact bV (x:=Instr.fieldAt t (v.den β) f) (by simp only[execOp,hop,h1]) (gQ h3 h2)
 ·rename_i t x f hop
  obtain⟨v,h1,h2,h3⟩:=aC h hs ha
  exact bV (x:=Instr.field t (v.den β) f) (by simp only[execOp,hop,h1]) (mr h3 h2)
 ·rename_i t x i hop
  obtain⟨u,v,h4,h5,h6,h7,h8⟩:=cr h hs ha
  exact bV (x:=Instr.indexAt t (u.den β) (v.den β)) (by simp only[execOp,hop,h4,h5]) (gS h8 h6)
 ·rename_i t x i hop
  obtain⟨u,v,h4,h5,h6,h7,h8⟩:=cr h hs ha
  exact bV (x:=Instr.index t (u.den β) (v.den β)) (by simp only[execOp,hop,h4,h5]) (mt h8 h6)
 ·rename_i x xt as ok hop
  obtain⟨v,h1,h2,h3⟩:=aC h hs ha
  exact bV (x:=Instr.typeAssert (v.den β) xt as ok) (by simp only[execOp,hop,h1]) (kG h3 h2)
 ·rename_i x i hop
  obtain⟨v,h1,h2,h3⟩:=aC h hs ha
  split at h3
  ·rename_i vs
   split at h3
   ·rename_i r hr
    refine bV (x:=Instr.extract (SV.den β (.tup vs)) i) (by simp only[execOp,hop,h1]) ⟨r,?_,ik h2 hr,h3⟩
    simp[Instr.extract,SV.den,bQ,hr]
   ·exact h3.elim
  ·exact h3.elim
 ·rename_i c hop
  simp only[hop]at hq
  split at h
  ·rename_i args hargs
   have e1:=ce hargs hs ha
   split at h
   ·rename_i b hcal
    have hex:(execOp (aG β a).eval o).run Γ.P w=(builtin b c.argTypes o.type (c.args.map fun | .const _=>true |_=>false) (ae β args).toArray).run Γ.P w:=by
     simp only[execOp,hop,resolve,hcal,e1,Sem.run_bind,Sem.run_pure,Result.andThen_ok,invoke]
     rfl
    have fin:∀x:Sem Value,(builtin b c.argTypes o.type (c.args.map fun | .const _=>true |_=>false) (ae β args).toArray)=(do pure (Next.value (<- x)))->Same Γ β s w (x.run Γ.P w) (fun v=>K v s) ->
      ∃v,(execOp (aG β a).eval o).run Γ.P w=.ok (.value (v.den β)) w/\v.ok s.n/\(K v s).holds Γ:=by
     intro x hx hg
     obtain⟨v,h1,h2,h3⟩:=hg
     refine⟨v,?_,h2,h3⟩
     rw[hex,hx]
     simp only[Sem.run_bind,h1,Result.andThen_ok,Sem.run_pure]
    unfold qS at h
    split at h
    ·split at h
     ·rename_i t ts x xs hts
      refine fin (Builtin.len_ c.argTypes o.type (ae β (x :: xs)).toArray) (by simp only[builtin]) ?_
      have:c.argTypes=(t :: ts).toArray:=by apply Array.ext';rw[hts]
      rw[this]
      exact qW h
     ·exact h.elim
    ·split at h
     ·rename_i t ts x xs hts
      refine fin (Builtin.cap_ c.argTypes o.type (ae β (x :: xs)).toArray) (by simp only[builtin]) ?_
      have:c.argTypes=(t :: ts).toArray:=by apply Array.ext';rw[hts]
      rw[this]
      exact qT h
     ·exact h.elim
    ·simp[hcal]at hq
    ·simp[hcal]at hq
    ·exact h.elim
   ·rename_i r m hcal;simp[hcal]at hq
   ·rename_i f hcal;simp[hcal]at hq
  ·exact h.elim
 ·exact h.elim
theorem sd:Like w { w with drawn:=w.drawn+1 }:=⟨rfl,rfl,rfl,rfl⟩
theorem Ext.like{β':Nat->Nat}{s':SS}{w' w'':World}(h:Ext Γ β s β' s' w')(hl:Like w' w''):Ext Γ β s β' s' w'':=⟨h.st.like hl,h.le,h.agree⟩
end
section
variable {Γ:Ctx}{β:Nat->Nat}{s:SS}{w:World}
theorem rM{src dst:TypeId}{x:SV}{K:SV->SS->T}(hd:(∃k,Γ.P.underlying dst=some (.int k))∨Γ.P.underlying dst=some .string)(h:(jD Γ.P src dst x s K).holds Γ)(hs:St Γ β s w) :
  Same Γ β s w ((convert src dst (x.den β)).run Γ.P w) fun v=>K v s:=by
 unfold jD at h
 split at h
 ·rename_i ds k hsrc hdst
  split at h
  ·refine⟨_,?_,by trivial,h⟩
   cases ds <;> simp[convert,ab hsrc,ab hdst,SV.den,Conv.intToInt]
  ·exact h.elim
 ·rename_i ds hsrc hdst
  split at h
  ·refine⟨_,?_,by trivial,h⟩
   cases ds <;> simp[convert,ab hsrc,ab hdst,SV.den]
  ·rename_i id off len cap ll lc
   split at h
   ·rename_i e
    split at h
    ·rename_i he
     split at h
     ·obtain⟨vs,f1,f2,f3,f4,f5⟩:=fw h hs
      split at f3
      ·rename_i ns lit hns
       refine⟨_,?_,by trivial,f3⟩
       have hl:=f5 1 len (by omega) w ⟨rfl,rfl,rfl,rfl⟩ (β id) off len cap rfl
       rw[jj _ _ _ hns]at hl
       simp only[SV.den]
       rw[run_convert_bytes_string w src dst e _ _ _ hsrc he hdst]
       exact run_bytesToString w _ len cap ns hl
      ·exact f3.elim
     ·split at h
      ·rename_i l e' lo hi ho
       obtain⟨hle,h⟩:=h
       refine⟨_,?_,by trivial,h⟩
       simp only[SV.den]
       rw[run_convert_bytes_string w src dst e _ _ _ hsrc he hdst]
       refine run_bytesToString w _ len cap _ ?_
       have hx:(it len (.slc id off len cap ll lc) s fun _=>T.leaf .normal [] s).holds { Γ with Q:=fun _ _ _=>True }:=by
        simp only[it,ho]
        exact⟨hle,fun _ _ _ _=>True.intro⟩
       obtain⟨i1,i2,i3⟩:=ga (β:=β) .u8 l len off hle
       have:=run_loadCells_list (P:=Γ.P) w ⟨β id,off,none⟩ (((l.drop off).take len).map (Value.int .u8)) (fun j v hv=>by
        rw[add_plain]
        have hjlt:=(List.getElem?_eq_some_iff.1 hv).1
        simp only[List.length_map,List.length_take,List.length_drop]at hjlt
        rw[hs.icell ho (show off+j<l.length by omega)]
        simp only[List.getElem?_map,List.getElem?_take_of_lt (show j<len by omega),List.getElem?_drop]at hv
        rw[List.getElem?_eq_getElem (show off+j<l.length by omega)]at hv
        simp only[Option.map_some,Option.some.injEq]at hv
        rw[<- hv]
        simp[List.getD,show off+j<l.length by omega])
       have e1:(((l.drop off).take len).map (Value.int .u8)).length=len:=by simp;omega
       rwa [e1]at this
      ·rename_i l e' tot lo hi ho
       obtain⟨⟨hle,hbv⟩,h⟩:=h
       refine⟨_,?_,by trivial,h⟩
       simp only[SV.den]
       rw[run_convert_bytes_string w src dst e _ _ _ hsrc he hdst]
       refine run_bytesToString w _ len cap _ ?_
       have:=nf (Γ:=Γ) hs ho hle
       rwa [lL hbv]at this
      ·exact h.elim
    ·exact h.elim
   ·exact h.elim
  ·rename_i A nn cc
   split at h
   ·rename_i hext
    split at h
    ·rename_i e
     split at h
     ·rename_i he
      obtain⟨hcb,h⟩:=h
      refine⟨_,?_,by trivial,h⟩
      simp only[SV.den]
      rw[run_convert_bytes_string w src dst e _ _ _ hsrc he hdst]
      exact pY (hs.old hext) hcb
     ·exact h.elim
    ·exact h.elim
   ·exact h.elim
  ·rename_i nn cc _
   split at h
   ·rename_i e
    split at h
    ·rename_i he
     refine⟨_,?_,by trivial,h⟩
     simp only[SV.den]
     rw[run_convert_bytes_string w src dst e _ _ _ hsrc he hdst]
     simp[Conv.bytesToString]
    ·exact h.elim
   ·exact h.elim
  ·exact h.elim
 ·rename_i ds e hsrc hdst
  rcases hd with⟨k,hk⟩ |hk <;> (rw[hk]at hdst;cases hdst)
 ·exact h.elim
theorem dC:∀ {ps:List Prop}{t:T},(qp ps t).holds Γ->(∀p,p∈ps->p)/\t.holds Γ
 |[],t,h=>⟨by simp,h⟩
 |p :: ps,t,h=>by
  obtain⟨h1,h2⟩:=h
  obtain⟨h3,h4⟩:=dC h2
  refine⟨fun q hq=>?_,h4⟩
  rcases List.mem_cons.1 hq with rfl |hq
  ·exact h1
  ·exact h3 q hq
theorem Es{call:eI}{o:Oper}{a:List SV}{K:SV->SS->T}(hq:yg Γ.P o=true)(h:(Er Γ.P call o a s K).holds Γ)(hs:St Γ β s w)(ha:bf s.n a) :
  ∃v,(execOp (aG β a).eval o).run Γ.P w=.ok (.value (v.den β)) w/\v.ok s.n/\(K v s).holds Γ:=by
 unfold yg at hq
 rw[Bool.or_eq_true]at hq
 rcases hq with hq |hq
 ·exact B1 hq h hs ha
 ·split at hq
  ·rename_i src dst x hop
   unfold Er at h
   simp only[hop]at h
   obtain⟨v,h1,h2,h3⟩:=aC h hs ha
   have hd:(∃k,Γ.P.underlying dst=some (.int k))∨Γ.P.underlying dst=some .string:=by
    split at hq
    ·rename_i k hk;exact .inl ⟨k,hk⟩
    ·rename_i hk;exact .inr hk
    ·cases hq
   exact bV (x:=convert src dst (v.den β)) (by simp only[execOp,hop,h1]) (rM hd h3 hs)
  ·cases hq
theorem wJ{Γ':Ctx}{v:SV}{n:Nat}(h0:Γ'.n0=n)(hv:v.ok n)(hQ:Γ'.Q=fun _ vs _=>vs=[v.den Γ'.β0]) :
  ∀(t:T) (ps:List Prop),cC t=some (v,ps)->(∀p,p∈ps->p)->t.holds Γ':=by
 intro t
 induction t with
 |leaf e vs s2=>
  intro ps h hp
  match vs,h with
  |[],h=>simp[cC]at h
  |[v'],h=>
   simp only[cC,Option.some.injEq,Prod.mk.injEq]at h
   obtain⟨rfl,rfl⟩:=h
   intro β'' w'' hst _
   rw[hQ]
   simp only[ae,List.cons.injEq,and_true]
   exact SV.den_agree (fun i hi=>hst.base i (by omega)) _ hv
  |_ :: _ :: _,h=>simp[cC]at h
 |need p t ih=>
  intro ps h hp
  simp only[cC]at h
  split at h
  ·rename_i v' ps' heq
   simp only[Option.some.injEq,Prod.mk.injEq]at h
   obtain⟨rfl,rfl⟩:=h
   exact⟨hp p (by simp),ih ps' heq (fun q hq=>hp q (by simp[hq]))⟩
  ·cases h
 |bad _=>intro ps h;simp[cC]at h
 |split _ _ _ _ _=>intro ps h;simp[cC]at h
 |choose _ _ _=>intro ps h;simp[cC]at h
 |both _ _ _ _=>intro ps h;simp[cC]at h
 |call _ _ _ _ _ _ _=>intro ps h;simp[cC]at h
 |loop _ _ _ _ _ _ _ _ _ _ _=>intro ps h;simp[cC]at h
def qr(P:Program)(β:Nat->Nat)(n:Nat)(v:Value):Ctx:={ P:=P,β0:=β,n0:=n,Q:=fun _ vs _=>vs=[v] }
theorem zY{a:List SV}{o:Oper}{v:SV}{ps:List Prop}(h:gZ Γ.P s a o=some (v,ps))(hp:∀p,p∈ps->p)(ha:bf s.n a)
  (hs':St (qr Γ.P β s.n (v.den β)) β s w) :
  (execOp (aG β a).eval o).run Γ.P w=.ok (.value (v.den β)) w/\v.ok s.n:=by
 unfold gZ at h
 split at h
 ·rename_i hq
  split at h
  ·rename_i v' ps' heq
   split at h
   ·rename_i hok
    simp only[Option.some.injEq,Prod.mk.injEq]at h
    obtain⟨rfl,rfl⟩:=h
    have okv:=SV.okb_ok _ hok
    have hh:(Er (qr Γ.P β s.n (v'.den β)).P (fun _ _ _ _=>.bad "") o a s (fun v s'=>.leaf .normal [v] s')).holds (qr Γ.P β s.n (v'.den β)):=
     wJ (Γ':=qr Γ.P β s.n (v'.den β)) (n:=s.n) rfl okv rfl _ _ heq hp
    obtain⟨u,r1,r2,r3⟩:=Es (Γ:=qr Γ.P β s.n (v'.den β)) hq hh hs' ha
    have r4:ae β [u]=[v'.den β]:=r3 β w hs' ⟨r2,trivial⟩
    simp only[ae,List.cons.injEq,and_true]at r4
    exact⟨by rw[<- r4];exact r1,okv⟩
   ·cases h
  ·cases h
 ·cases h
theorem fq{a:List SV}{o:Oper}{v:SV}{ps:List Prop}(h:gZ Γ.P s a o=some (v,ps))(hp:∀p,p∈ps->p)(hs:St Γ β s w)(ha:bf s.n a) :
  (execOp (aG β a).eval o).run Γ.P w=.ok (.value (v.den β)) w/\v.ok s.n:=
 zY h hp ha ⟨hs.lt,hs.inj,hs.at_,hs.ok,hs.gl,hs.old,fun _ _=>rfl,Nat.le_refl _⟩
theorem E4:s.blank.n=s.n:=by simp[SS.blank,SS.n]
theorem rD{a:List SV}{o:Oper}{v:SV}{ps:List Prop}(h:gZ Γ.P s.blank a o=some (v,ps))(hp:∀p,p∈ps->p)(hs:St Γ β s w)(ha:bf s.n a) :
  v.ok s.n/\∀w2:World,(∀i,i<s.n->β i<w2.heap.size)->(execOp (aG β a).eval o).run Γ.P w2=.ok (.value (v.den β)) w2:=by
 have key:∀w2:World,(∀i,i<s.n->β i<w2.heap.size)->(execOp (aG β a).eval o).run Γ.P w2=.ok (.value (v.den β)) w2/\v.ok s.n:=by
  intro w2 h2
  have hb:=E4 (s:=s)
  have hu:∀(i:Nat) (ob:SObj),s.blank.objs[i]?=some ob->ob=.unk:=by
   intro i ob hi
   simp only[SS.blank,List.getElem?_map,Option.map_eq_some_iff]at hi
   obtain⟨_,_,rfl⟩:=hi
   rfl
  have:=zY (Γ:=Γ) (β:=β) (w:=w2) h hp (by rw[hb];exact ha)
   ⟨by rw[hb];exact h2,by rw[hb];exact hs.inj,fun i ob hi=>by rw[hu i ob hi];trivial,fun i ob hi=>by rw[hu i ob hi];trivial,
    by rw[hb];exact hs.gl,fun he=>by simp[SS.blank]at he,fun _ _=>rfl,Nat.le_refl _⟩
  rw[hb]at this
  exact this
 exact⟨(key w hs.lt).2,fun w2 h2=>(key w2 h2).1⟩
mutual
theorem kV:∀(v v':SV) (ps:List Prop),eX v v'=some ps->(∀p,p∈ps->p)->v.den β=v'.den β
 | .int k n l,v',ps,h,hp=>by
  cases v' <;> simp only[eX]at h <;> try (cases h;done)
  split at h
  ·rename_i hk
   subst hk
   split at h
   ·split at h
    ·rename_i hn;subst hn;simp[SV.den]
    ·cases h
   ·simp only[Option.some.injEq]at h
    subst h
    have:=hp _ (List.mem_singleton.2 rfl)
    simp[SV.den,this]
  ·cases h
 | .bool b l,v',ps,h,hp=>by
  cases v' <;> simp only[eX]at h <;> try (cases h;done)
  split at h
  ·split at h
   ·rename_i hn;subst hn;simp[SV.den]
   ·cases h
  ·simp only[Option.some.injEq]at h
   subst h
   have:=hp _ (List.mem_singleton.2 rfl)
   simp[SV.den,this]
 | .str u l,v',ps,h,hp=>by
  cases v' <;> simp only[eX]at h <;> try (cases h;done)
  split at h
  ·split at h
   ·rename_i u' l' _ hn
    have:u=u':=by
     cases u with
     |mk d=>
      cases u' with
      |mk d'=>
       simp only at hn
       congr 1
       exact Array.ext' hn
    subst this
    simp[SV.den]
   ·cases h
  ·simp only[Option.some.injEq]at h
   subst h
   have:=hp _ (List.mem_singleton.2 rfl)
   simp[SV.den,this]
 | .ptr i o,v',ps,h,hp=>by
  cases v' <;> simp only[eX]at h <;> try (cases h;done)
  split at h
  ·rename_i hk
   subst hk
   simp only[Option.some.injEq]at h
   subst h
   have:=hp _ (List.mem_singleton.2 rfl)
   simp[SV.den,this]
  ·cases h
 | .slc i o n c _ _,v',ps,h,hp=>by
  cases v' <;> simp only[eX]at h <;> try (cases h;done)
  split at h
  ·rename_i hk
   subst hk
   simp only[Option.some.injEq]at h
   subst h
   have:=hp _ (List.mem_singleton.2 rfl)
   obtain⟨rfl,rfl,rfl⟩:=this
   simp[SV.den]
  ·cases h
 | .ifc t v,v',ps,h,hp=>by
  cases v' <;> simp only[eX]at h <;> try (cases h;done)
  split at h
  ·rename_i hk
   subst hk
   simp only[SV.den]
   rw[kV v _ ps h hp]
  ·cases h
 | .agg l,v',ps,h,hp=>by
  cases v' <;> simp only[eX]at h <;> try (cases h;done)
  simp only[SV.den]
  rw[fJ l _ ps h hp]
 | .tup l,v',ps,h,hp=>by
  cases v' <;> simp only[eX]at h <;> try (cases h;done)
  simp only[SV.den]
  rw[fJ l _ ps h hp]
 | .one v hv,v',ps,h,hp=>by
  cases v' <;> simp only[eX]at h <;> try (cases h;done)
  simp only[Option.some.injEq]at h
  subst h
  have:=hp _ (List.mem_singleton.2 rfl)
  simp[SV.den,this]
 | .raw v,v',ps,h,hp=>by
  cases v' <;> simp only[eX]at h <;> try (cases h;done)
  simp only[Option.some.injEq]at h
  subst h
  have:=hp _ (List.mem_singleton.2 rfl)
  simp[SV.den,this]
 | .xp v,v',ps,h,hp=>by
  cases v' <;> simp only[eX]at h <;> try (cases h;done)
  simp only[Option.some.injEq]at h
  subst h
  have:=hp _ (List.mem_singleton.2 rfl)
  simp[SV.den,this]
 | .xs a n c,v',ps,h,hp=>by
  cases v' <;> simp only[eX]at h <;> try (cases h;done)
  simp only[Option.some.injEq]at h
  subst h
  have:=hp _ (List.mem_singleton.2 rfl)
  obtain⟨rfl,rfl,rfl⟩:=this
  simp[SV.den]
 | .fn f a c,v',ps,h,hp=>by
  cases v' <;> simp only[eX]at h <;> try (cases h;done)
  split at h
  ·rename_i p q h1 h2
   simp only[Option.some.injEq]at h
   subst h
   have hf:=hp _ (List.mem_cons_self ..)
   simp only[SV.den]
   rw[fJ a _ p h1 (fun x hx=>hp x (by simp[hx])),fJ c _ q h2 (fun x hx=>hp x (by simp[hx])),hf]
  ·cases h
theorem fJ:∀(l l':List SV) (ps:List Prop),oz l l'=some ps->(∀p,p∈ps->p)->ae β l=ae β l'
 |[],l',ps,h,hp=>by
  cases l' <;> simp only[oz]at h <;> try (cases h;done)
  rfl
 |v :: l,l',ps,h,hp=>by
  cases l' <;> simp only[oz]at h <;> try (cases h;done)
  split at h
  ·rename_i p q h1 h2
   simp only[Option.some.injEq]at h
   subst h
   simp only[ae]
   rw[kV v _ p h1 (fun x hx=>hp x (by simp[hx])),fJ l _ q h2 (fun x hx=>hp x (by simp[hx]))]
  ·cases h
end
end
section
variable {Γ:Ctx}{β:Nat->Nat}{s:SS}{w:World}{ops:Array Oper}
theorem cf{j:Nat}{L:Array Bool}:j∈Region.ready .any ops L ↔ L[j]?=some false/\∃o,ops[j]?=some o/\∀e:Nat,e∈dK o->L[e]?=some true:=by
 rw[mem_ready]
 have h1:L.getD j true=false ↔ L[j]?=some false:=by
  rw[Array.getD_eq_getD_getElem?];cases L[j]? <;> simp
 have h2:∀e,L.getD e false=true ↔ L[e]?=some true:=by
  intro e;rw[Array.getD_eq_getD_getElem?];cases L[e]? <;> simp
 simp only[h1,h2]
 constructor
 ·rintro⟨h0,o,ho,h⟩
  refine⟨h0,o,ho,fun e he=>?_⟩
  simp only[dK,List.mem_map,List.mem_filter]at he
  obtain⟨e',⟨he1,he2⟩,rfl⟩:=he
  exact h e' (by simpa using he1) he2
 ·rintro⟨h0,o,ho,h⟩
  refine⟨h0,o,ho,fun e he hb=>h e.on ?_⟩
  simp only[dK,List.mem_map,List.mem_filter]
  exact⟨e,⟨by simpa using he,hb⟩,rfl⟩
theorem BI(hn:ma ops=true){i e:Nat}{oi:Oper}(hi:ops[i]?=some oi)(he:e∈dK oi):e<i:=by
 unfold ma at hn
 rw[List.all_eq_true]at hn
 have h1:=hn i (List.mem_range.2 (Array.getElem?_eq_some_iff.1 hi).1)
 simp only[hi,Bool.and_eq_true,List.all_eq_true,decide_eq_true_eq]at h1
 exact h1.1 e he
theorem sh(hn:ma ops=true){i j:Nat}{oi oj:Oper}(hi:ops[i]?=some oi)(hj:ops[j]?=some oj):mb ops i oi j oj=true:=by
 unfold ma at hn
 rw[List.all_eq_true]at hn
 have h1:=hn i (List.mem_range.2 (Array.getElem?_eq_some_iff.1 hi).1)
 simp only[hi,Bool.and_eq_true,List.all_eq_true]at h1
 have h2:=h1.2 j (List.mem_range.2 (Array.getElem?_eq_some_iff.1 hj).1)
 simpa only[hj] using h2
theorem Du(hn:ma ops=true){i j d:Nat}{oi oj:Oper}(hi:ops[i]?=some oi)(hj:ops[j]?=some oj)(hij:i≠j)(hd:oi.dst=some d):oj.dst≠some d:=by
 have h:=sh hn hi hj
 unfold mb at h
 simp only[hd,Bool.and_eq_true,Bool.or_eq_true,beq_iff_eq,hij,false_or,bne_iff_ne]at h
 exact h.1
theorem kT(hn:ma ops=true){i j d:Nat}{oi oj:Oper}(hi:ops[i]?=some oi)(hj:ops[j]?=some oj)(hd:oi.dst=some d)(hl:d∈oj.looksAt ops):i≠j/\i∈dK oj:=by
 have h:=sh hn hi hj
 unfold mb at h
 have hc:(oj.looksAt ops).contains d=true:=by simpa using hl
 simp only[hd,Bool.and_eq_true,Bool.or_eq_true,hc,Bool.not_true,Bool.false_eq_true,false_or,bne_iff_ne]at h
 exact⟨h.2.1,by simpa using h.2.2⟩
theorem fC{o:Oper}(hs:∀cs b,o.op≠.select cs b){α α':Act}(h:∀t,t∈o.looksAt ops->α.tmps[t]?=α'.tmps[t]?):execOp α.eval o=execOp α'.eval o:=
 execOp_congr o hs fun x hx=>by
  cases x with
  |tmp t=>
   have:=h t (List.mem_append_left _ (List.mem_filterMap.2 ⟨.tmp t,by simpa using hx,rfl⟩))
   simp only[Act.eval,Array.getD_eq_getD_getElem?,this]
  |const v=>rfl
  |global g=>rfl
  |func f=>rfl
theorem dT{o:Oper}{α α':Act}(h:∀t,t∈o.looksAt ops->α.tmps[t]?=α'.tmps[t]?) :
  Region.wanted o (yielded ops α.tmps)=Region.wanted o (yielded ops α'.tmps):=by
 unfold Region.wanted
 cases hg:o.guard with
 |none=>rfl
 |some gw=>
  obtain⟨g,want⟩:=gw
  have hy:yielded ops α.tmps g=yielded ops α'.tmps g:=by
   unfold yielded
   cases ht:(ops[g]?).bind (·.dst) with
   |none=>rfl
   |some t=>
    have:=h t (by simp[Oper.looksAt,hg,ht])
    simp only[Option.bind_some,this]
  simp only[hy]
theorem gd{α:Act}{dst:Option Tmp}{u:Value}{t:Nat}:(α.put dst u).tmps[t]?=if dst=some t then(if t<α.tmps.size then some u else none) else α.tmps[t]?:=by
 cases dst with
 |none=>simp[Act.put]
 |some d=>
  simp only[Act.put,Option.some.injEq]
  by_cases h:d=t
  ·subst h
   by_cases hlt:d<α.tmps.size
   ·simp[hlt]
   ·simp[hlt]
  ·simp[h,Array.getElem?_setIfInBounds_ne h]
theorem mg{α:Act}{dst:Option Tmp}{u:Value}:(α.put dst u).tmps.size=α.tmps.size:=by
 cases dst <;> simp[Act.put]
theorem m4{α:Act}{dst:Option Tmp}{u:Value}:(α.put dst u).defers=α.defers:=by
 cases dst <;> rfl
theorem qv{o:Oper}{α:Act}{dst:Option Tmp}{u:Value}(h:∀d,dst=some d->d ∉ o.looksAt ops)(t:Nat)(ht:t∈o.looksAt ops):(α.put dst u).tmps[t]?=α.tmps[t]?:=by
 rw[gd,if_neg]
 intro hd
 exact h t hd ht
theorem El{P:Program}{o:Oper}{α α':Act}{Q:Exit->Act->World->Prop}{N:Value->World->Prop}{K:Act->World->Prop}
  (he:execOp α.eval o=execOp α'.eval o) (hz:α.tmps.size=α'.tmps.size) (hQ:∀c a w,¬Q (.panic c) a w)
  (h:o.wp P α' w (fun a1 w1=>∃u,a1=α'.put o.dst u/\N u w1) Q) (hK:∀u w1,N u w1->K (α.put o.dst u) w1):o.wp P α w K Q:=by
 have inj:∀v u:Value,α'.put o.dst v=α'.put o.dst u->α.put o.dst v=α.put o.dst u:=by
  intro v u hvu
  cases hd:o.dst with
  |none=>rfl
  |some d=>
   rw[hd]at hvu
   have h1:(α'.put (some d) v).tmps[d]?=(α'.put (some d) u).tmps[d]?:=by rw[hvu]
   rw[gd,gd]at h1
   simp only[if_true]at h1
   by_cases hlt:d<α'.tmps.size
   ·simp only[hlt,if_true,Option.some.injEq]at h1
    rw[h1]
   ·simp only[Act.put]
    have hge:α.tmps.size<=d:=by rw[hz];exact Nat.le_of_not_lt hlt
    rw[Array.setIfInBounds_eq_of_size_le hge,Array.setIfInBounds_eq_of_size_le hge]
 have one:∀v w1,(∃u,α'.put o.dst v=α'.put o.dst u/\N u w1)->K (α.put o.dst v) w1:=by
  rintro v w1 ⟨u,hu,hn⟩
  rw[inj v u hu]
  exact hK u w1 hn
 unfold Oper.wp at *
 rw[he]
 generalize (execOp α'.eval o).run P w=r at *
 cases r with
 |ok n w'=>
  cases n <;> simp only[Oper.upon]at h ⊢
  case value v=>exact one v w' h
  case skip=>exact one undef w' h
  case defer d=>
   obtain⟨u,hu,_⟩:=h
   have h1:=congrArg Act.defers hu
   rw[m4,m4]at h1
   exact absurd h1 (List.cons_ne_self _ _)
  case enter f args=>
   refine Calls.mono h fun e w'' he=>?_
   cases e with
   |returned v=>exact one v w'' he
   |panicked c=>exact(hQ _ _ _ he).elim
   |outgrown=>exact he
  case row row args=>exact Rows.mono h fun v w'' he=>one v w'' he
  all_goals exact h.elim
 |halt x w'=>
  cases x <;> simp only[Oper.upon]at h ⊢
  case panic v=>exact(hQ _ _ _ h).elim
  all_goals exact h.elim
def DC(ops:Array Oper)(L:Array Bool):Prop:=∀(k:Nat) (o:Oper),ops[k]?=some o->L[k]?=some true->∀e:Nat,e∈dK o->L[e]?=some true
theorem qB{L:Array Bool}{j k:Nat}(h:L[k]?=some true):(L.setIfInBounds j true)[k]?=some true:=by
 by_cases hjk:j=k
 ·subst hjk
  have hlt:=(Array.getElem?_eq_some_iff.1 h).1
  simp[hlt]
 ·rw[Array.getElem?_setIfInBounds_ne hjk];exact h
theorem ju{L:Array Bool}{j:Nat}{b:Bool}(h:L[j]?=some b):(L.setIfInBounds j true)[j]?=some true:=by
 have hlt:=(Array.getElem?_eq_some_iff.1 h).1
 simp[hlt]
theorem DC.set{L:Array Bool}{j:Nat}(h:DC ops L)(hr:j∈Region.ready .any ops L):DC ops (L.setIfInBounds j true):=by
 obtain⟨h0,o,ho,he⟩:=cf.1 hr
 intro k ok hk hl e hek
 by_cases hjk:j=k
 ·subst hjk
  rw[ho]at hk
  cases hk
  exact qB (he e hek)
 ·rw[Array.getElem?_setIfInBounds_ne hjk]at hl
  exact qB (h k ok hk hl e hek)
theorem jb{L:Array Bool}(h:DC ops L):∀(i:Nat) (m:List Nat),(∀e:Nat,e∈m->L[e]?=some true)->∀e:Nat,e∈lN ops i m->L[e]?=some true
 |0,m,hm,e,he=>hm e he
 |i+1,m,hm,e,he=>by
  unfold lN at he
  split at he
  ·rename_i hi
   refine jb h i _ ?_ e he
   intro x hx
   rcases List.mem_append.1 hx with hx |hx
   ·exact hm x hx
   ·split at hx
    ·rename_i o ho
     exact h i o ho (hm i (by simpa using hi)) x hx
    ·cases hx
  ·exact jb h i m hm e he
def QY(Γ:Ctx)(ops:Array Oper)(o:Oper)(k:Nat)(α':Act)(n:Nat)(β:Nat->Nat)(w:World)(pend:List Nat):Prop:=
 (Region.wanted o (yielded ops α'.tmps)=true/\∃u,α'.put o.dst u=α'/\(execOp α'.eval o).run Γ.P w=.ok (.value u) w /\
  (k∈pend ∨ ∀w2:World,(∀i,i<n->β i<w2.heap.size)->(execOp α'.eval o).run Γ.P w2=.ok (.value u) w2)) ∨
 (Region.wanted o (yielded ops α'.tmps)=false/\α'.put o.dst undef=α')
structure MixR (Γ:Ctx) (β:Nat->Nat) (s:SS) (w:World) (ops:Array Oper) (L L':Array Bool) (D:List Nat) (α:Act) (a:List SV) (pend:List Nat):Prop where
 st:St Γ β s w
 ok:bf s.n a
 sz:L.size=ops.size
 sz':L'.size=ops.size
 mem:∀k:Nat,k∈D ↔ (L'[k]?=some true/\L[k]?=some false)
 nd:D.Nodup
 sub:∀k:Nat,L[k]?=some true->L'[k]?=some true
 dc:DC ops L
 dc':DC ops L'
 act:∀t:Nat,(∀(k:Nat) (o:Oper),k∈D->ops[k]?=some o->o.dst≠some t)->α.tmps[t]?=(aG β a).tmps[t]?
 asz:α.tmps.size=(aG β a).tmps.size
 df:α.defers=(aG β a).defers
 ow:∀(k:Nat) (o:Oper),k∈D->ops[k]?=some o->QY Γ ops o k (aG β a) s.n β w pend
section
variable {L L':Array Bool}{D:List Nat}{α:Act}{a:List SV}{pend:List Nat}
theorem MixR.agree(R:MixR Γ β s w ops L L' D α a pend)(hn:ma ops=true){j:Nat}{oj:Oper}(hr:j∈Region.ready .any ops L)(ho:ops[j]?=some oj) :
  ∀t,t∈oj.looksAt ops->α.tmps[t]?=(aG β a).tmps[t]?:=by
 intro t ht
 refine R.act t fun k ok hk hok hd=>?_
 obtain⟨h1,h2⟩:=kT hn hok ho hd ht
 obtain⟨h0,o,ho',he⟩:=cf.1 hr
 rw[ho]at ho'
 cases ho'
 have h3:=he k h2
 have h4:=((R.mem k).1 hk).2
 rw[h3]at h4
 cases h4
theorem MixR.conv(R:MixR Γ β s w ops L L' D α a pend){a':List SV}(h:aG β a'=aG β a)(hok:bf s.n a'):MixR Γ β s w ops L L' D α a' pend where
 st:=R.st
 ok:=hok
 sz:=R.sz
 sz':=R.sz'
 mem:=R.mem
 nd:=R.nd
 sub:=R.sub
 dc:=R.dc
 dc':=R.dc'
 act:=by rw[h];exact R.act
 asz:=by rw[h];exact R.asz
 df:=by rw[h];exact R.df
 ow:=by rw[h];exact R.ow
theorem MixR.pendStep(R:MixR Γ β s w ops L L' D α a pend)(hn:ma ops=true)(hsel:Region.noSelect ops=true){j:Nat}(hj:j∈D)(hr:j∈Region.ready .any ops L)
  {Q:Exit->Act->World->Prop}{K:Act->World->Prop}(hK:∀α1,MixR Γ β s w ops (L.setIfInBounds j true) L' (D.erase j) α1 a pend->K α1 w):wpOp Γ.P ops Q j K α w:=by
 obtain⟨h0,oj,ho,he⟩:=cf.1 hr
 have ag:=R.agree hn hr ho
 have hex:=fC (Region.noSelect_spec hsel j oj · · ho) ag
 have hwa:=dT ag
 have fin:∀u,(aG β a).put oj.dst u=aG β a->K (α.put oj.dst u) w:=by
  intro u hu
  refine hK _ ⟨R.st,R.ok,by simp[R.sz],R.sz',?_,R.nd.erase j,?_,R.dc.set hr,R.dc',?_,by rw[mg];exact R.asz,by rw[m4];exact R.df,?_⟩
  ·intro k
   rw[R.nd.mem_erase_iff,R.mem k]
   by_cases hjk:j=k
   ·subst hjk
    constructor
    ·rintro⟨h1,_⟩;exact absurd rfl h1
    ·rintro⟨_,h2⟩;rw[ju h0]at h2;cases h2
   ·rw[Array.getElem?_setIfInBounds_ne hjk]
    exact⟨fun h=>h.2,fun h=>⟨fun e=>hjk e.symm,h⟩⟩
  ·intro k hk
   by_cases hjk:j=k
   ·subst hjk;exact((R.mem _).1 hj).1
   ·rw[Array.getElem?_setIfInBounds_ne hjk]at hk;exact R.sub k hk
  ·intro t ht
   rw[gd]
   by_cases hd:oj.dst=some t
   ·rw[if_pos hd]
    have h1:((aG β a).put oj.dst u).tmps[t]?=(aG β a).tmps[t]?:=by rw[hu]
    rw[gd,if_pos hd]at h1
    rw[<- h1,R.asz]
   ·rw[if_neg hd]
    refine R.act t fun k ok hk hok=>?_
    by_cases hjk:k=j
    ·subst hjk;rw[ho]at hok;cases hok;exact hd
    ·exact ht k ok ((R.nd.mem_erase_iff).2 ⟨hjk,hk⟩) hok
  ·intro k ok hk hok
   exact R.ow k ok (List.mem_of_mem_erase hk) hok
 unfold wpOp
 simp only[ho,hwa]
 rcases R.ow j oj hj ho with⟨hw,u,hu,hrun,_⟩ |⟨hw,hu⟩
 ·rw[if_pos hw]
  left
  unfold Oper.wp
  rw[hex,hrun]
  exact fin u hu
 ·rw[if_neg (by rw[hw];simp)]
  exact fin undef hu
theorem MixR.done(R:MixR Γ β s w ops L L' D α a pend)(hn:ma ops=true)(hr:Region.ready .any ops L=[]):D=[]:=by
 rcases Nat.eq_zero_or_pos D.length with h |h
 ·exact List.length_eq_zero_iff.1 h
 ·exfalso
  have hex:∃k,k∈D:=by
   cases D with
   |nil=>simp at h
   |cons x _=>exact⟨x,by simp⟩
  have hmin:∀n k,k<n->k∈D->∃m,m∈D/\∀e,e<m->e ∉ D:=by
   intro n
   induction n with
   |zero=>intro k hk;omega
   |succ n ih=>
    intro k hk hkD
    by_cases hx:∃e,e<k/\e∈D
    ·obtain⟨e,he,heD⟩:=hx
     exact ih e (by omega) heD
    ·exact⟨k,hkD,fun e he heD=>hx ⟨e,he,heD⟩⟩
  obtain⟨k0,hk0⟩:=hex
  obtain⟨k,hk,hmin⟩:=hmin (k0+1) k0 (by omega) hk0
  obtain⟨h1,h2⟩:=(R.mem k).1 hk
  have hlt:k<ops.size:=by rw[<- R.sz];exact(Array.getElem?_eq_some_iff.1 h2).1
  have ho:ops[k]?=some ops[k]:=Array.getElem?_eq_getElem hlt
  have:k∈Region.ready .any ops L:=by
   refine cf.2 ⟨h2,_,ho,fun e he=>?_⟩
   have h3:=R.dc' k _ ho h1 e he
   have h4:e<L.size:=by rw[R.sz,<- R.sz'];exact(Array.getElem?_eq_some_iff.1 h3).1
   cases hL:L[e]? with
   |none=>rw[Array.getElem?_eq_none_iff]at hL;omega
   |some b=>
    cases b with
    |true=>rfl
    |false=>exact absurd ((R.mem e).2 ⟨h3,hL⟩) (hmin e (BI hn ho he))
  rw[hr]at this
  cases this
theorem MixR.same(R:MixR Γ β s w ops L L' [] α a pend):α=aG β a:=by
 have h1:α.tmps=(aG β a).tmps:=Array.ext_getElem? fun t=>R.act t fun k o hk=>by cases hk
 have h2:=R.df
 cases α
 simp only at h1 h2
 rw[h1,h2]
theorem MixR.ready_of(R:MixR Γ β s w ops L L' D α a pend){j:Nat}(hr:j∈Region.ready .any ops L)(hj:j ∉ D):j∈Region.ready .any ops L':=by
 obtain⟨h0,o,ho,he⟩:=cf.1 hr
 refine cf.2 ⟨?_,o,ho,fun e hee=>R.sub e (he e hee)⟩
 have hlt:j<L'.size:=by rw[R.sz',<- R.sz];exact(Array.getElem?_eq_some_iff.1 h0).1
 cases hL:L'[j]? with
 |none=>rw[Array.getElem?_eq_none_iff]at hL;omega
 |some b=>
  cases b with
  |false=>rfl
  |true=>exact absurd ((R.mem j).2 ⟨hL,h0⟩) hj
theorem MixR.apart(R:MixR Γ β s w ops L L' D α a pend)(hn:ma ops=true){i:Nat}{oi:Oper}(hi:i∈Region.ready .any ops L')(ho:ops[i]?=some oi){k:Nat}{ok:Oper}(hk:k∈D)(hok:ops[k]?=some ok) :
  (∀d,oi.dst=some d->d ∉ ok.looksAt ops)/\(∀d,oi.dst=some d->ok.dst≠some d):=by
 have h0:=(cf.1 hi).1
 have hkL:=((R.mem k).1 hk).1
 have hik:i≠k:=fun e=>by subst e;rw[h0]at hkL;cases hkL
 refine⟨fun d hd hl=>?_,fun d hd=>Du hn ho hok hik hd⟩
 have h2:=(kT hn ho hok hd hl).2
 have h3:=R.dc' k ok hok hkL i h2
 rw[h0]at h3
 cases h3
theorem QY.put{o:Oper}{k:Nat}{α':Act}{n:Nat}(h:QY Γ ops o k α' n β w pend)(hs:∀cs b,o.op≠.select cs b){dst:Option Tmp}{u:Value}(h1:∀d,dst=some d->d ∉ o.looksAt ops)(h2:∀d,dst=some d->o.dst≠some d)
  {pend':List Nat}(hp:k∈pend->k∈pend'):QY Γ ops o k (α'.put dst u) n β w pend':=by
 have ag:∀t,t∈o.looksAt ops->(α'.put dst u).tmps[t]?=α'.tmps[t]?:=qv h1
 have e1:=fC hs ag
 have e2:=dT ag
 rcases h with⟨hw,v,hv,hrun,hst⟩ |⟨hw,hv⟩
 ·left
  rw[e1,e2]
  exact⟨hw,v,by rw[Act.put_comm _ _ _ h2,hv],hrun,hst.imp hp id⟩
 ·right
  rw[e2]
  exact⟨hw,by rw[Act.put_comm _ _ _ h2,hv]⟩
theorem AG{α:Act}{dst:Option Tmp}{u:Value}:(α.put dst u).put dst u=α.put dst u:=by
 cases dst <;> simp[Act.put]
theorem MixR.take(R:MixR Γ β s w ops L L' D α a pend)(hn:ma ops=true)(hsel:Region.noSelect ops=true){i:Nat}{oi:Oper}(hi:i∈Region.ready .any ops L')(ho:ops[i]?=some oi){v:SV}(hv:v.ok s.n)
  {pend':List Nat}(hp:∀k,k∈pend->k∈pend')
  (hy:(Region.wanted oi (yielded ops (aG β a).tmps)=true/\(execOp (aG β a).eval oi).run Γ.P w=.ok (.value (v.den β)) w /\
    (i∈pend' ∨ ∀w2:World,(∀i,i<s.n->β i<w2.heap.size)->(execOp (aG β a).eval oi).run Γ.P w2=.ok (.value (v.den β)) w2)) ∨
   (Region.wanted oi (yielded ops (aG β a).tmps)=false/\v.den β=undef)) :
  MixR Γ β s w ops L (L'.setIfInBounds i true) (i :: D) α (dr a oi.dst v) pend':=by
 have h0:=(cf.1 hi).1
 have hiD:i ∉ D:=fun h=>by have:=((R.mem i).1 h).1;rw[h0]at this;cases this
 have hiL:L[i]?=some false:=by
  have hlt:i<L.size:=by rw[R.sz,<- R.sz'];exact(Array.getElem?_eq_some_iff.1 h0).1
  cases hL:L[i]? with
  |none=>rw[Array.getElem?_eq_none_iff]at hL;omega
  |some b=>
   cases b with
   |false=>rfl
   |true=>have:=R.sub i hL;rw[h0]at this;cases this
 have ea:aG β (dr a oi.dst v)=(aG β a).put oi.dst (v.den β):=(fA (Ext.refl R.st) R.ok oi.dst v).symm
 have hs:=Region.noSelect_spec hsel
 refine⟨R.st,gc R.ok hv _,R.sz,by simp[R.sz'],?_,List.nodup_cons.2 ⟨hiD,R.nd⟩,fun k hk=>qB (R.sub k hk),R.dc,R.dc'.set hi,?_,?_,?_,?_⟩
 ·intro k
  rw[List.mem_cons,R.mem k]
  by_cases hik:i=k
  ·subst hik
   simp[ju h0,hiL]
  ·rw[Array.getElem?_setIfInBounds_ne hik]
   exact⟨fun h=>h.resolve_left fun e=>hik e.symm,fun h=>.inr h⟩
 ·intro t ht
  rw[ea,gd,if_neg (ht i oi (by simp) ho)]
  exact R.act t fun k o hk=>ht k o (by simp[hk])
 ·rw[ea,mg];exact R.asz
 ·rw[ea,m4];exact R.df
 ·intro k ok hk hok
  rw[ea]
  rcases List.mem_cons.1 hk with rfl |hk
  ·rw[ho]at hok
   cases hok
   have ag:∀t,t∈oi.looksAt ops->((aG β a).put oi.dst (v.den β)).tmps[t]?=(aG β a).tmps[t]?:=qv fun d hd hl=>(kT hn ho ho hd hl).1 rfl
   have e1:=fC (hs k oi · · ho) ag
   have e2:=dT ag
   rcases hy with⟨hw,hrun,hst⟩ |⟨hw,hv⟩
   ·left
    rw[e1,e2]
    exact⟨hw,_,AG,hrun,hst⟩
   ·right
    rw[e2,hv]
    exact⟨hw,AG⟩
  ·obtain⟨p1,p2⟩:=R.apart hn hi ho hk hok
   exact(R.ow k ok hk hok).put (hs k ok · · hok) p1 p2 (hp k)
theorem MixR.step(R:MixR Γ β s w ops L L' D α a pend)(hn:ma ops=true)(hsel:Region.noSelect ops=true){j:Nat}{oj:Oper}(hr:j∈Region.ready .any ops L)(hj:j ∉ D)(ho:ops[j]?=some oj)
  {v:SV}{s':SS}{β':Nat->Nat}{w':World}(hext:Ext Γ β s β' s' w') (hv:v.ok s'.n) {pend':List Nat}
  (hq:∀k o,k∈D->ops[k]?=some o->k∈pend->QY Γ ops o k (aG β' (dr a oj.dst v)) s'.n β' w' pend') :
  MixR Γ β' s' w' ops (L.setIfInBounds j true) (L'.setIfInBounds j true) D (α.put oj.dst (v.den β')) (dr a oj.dst v) pend':=by
 have hr':=R.ready_of hr hj
 have h0:=(cf.1 hr).1
 have h0':=(cf.1 hr').1
 have ea:aG β' (dr a oj.dst v)=(aG β a).put oj.dst (v.den β'):=(fA hext R.ok oj.dst v).symm
 have hs:=Region.noSelect_spec hsel
 refine⟨hext.st,gc (bu hext.le a R.ok) hv _,by simp[R.sz],by simp[R.sz'],?_,R.nd,?_,R.dc.set hr,R.dc'.set hr',?_,?_,?_,?_⟩
 ·intro k
  rw[R.mem k]
  by_cases hjk:j=k
  ·subst hjk
   simp[ju h0,ju h0',h0']
  ·rw[Array.getElem?_setIfInBounds_ne hjk,Array.getElem?_setIfInBounds_ne hjk]
 ·intro k hk
  by_cases hjk:j=k
  ·subst hjk;exact ju h0'
  ·rw[Array.getElem?_setIfInBounds_ne hjk]at hk ⊢;exact R.sub k hk
 ·intro t ht
  rw[ea,gd,gd,R.asz,R.act t ht]
 ·rw[ea,mg,mg];exact R.asz
 ·rw[ea,m4,m4];exact R.df
 ·intro k ok hk hok
  have hq':=hq k ok hk hok
  rw[ea]at hq' ⊢
  obtain⟨p1,p2⟩:=R.apart hn hr' ho hk hok
  have ag:∀t,t∈ok.looksAt ops->((aG β a).put oj.dst (v.den β')).tmps[t]?=(aG β a).tmps[t]?:=qv p1
  have e1:=fC (hs k ok · · hok) ag
  have e2:=dT ag
  rcases R.ow k ok hk hok with⟨hw,u,hu,hrun,hst⟩ |⟨hw,hu⟩
  ·rcases hst with hst |hst
   ·exact hq' hst
   ·left
    rw[e1,e2]
    refine⟨hw,u,by rw[Act.put_comm _ _ _ p2,hu],hst w' (fun i hi=>?_),.inr fun w2 h2=>hst w2 fun i hi=>?_⟩
    ·rw[<- hext.agree i hi];exact hext.st.lt i (Nat.lt_of_lt_of_le hi hext.le)
    ·rw[<- hext.agree i hi];exact h2 i (Nat.lt_of_lt_of_le hi hext.le)
  ·right
   rw[e2]
   exact⟨hw,by rw[Act.put_comm _ _ _ p2,hu]⟩
end
theorem mh{a:List SV}:∀ {ks:List Nat}{t:T},(gf Γ.P ops a s ks t).holds Γ->St Γ β s w->bf s.n a ->
  t.holds Γ/\∀k,k∈ks->∀o,ops[k]?=some o->Region.wanted o (yielded ops (aG β a).tmps)=true/\∃u,(aG β a).put o.dst u=aG β a/\(execOp (aG β a).eval o).run Γ.P w=.ok (.value u) w
 |[],t,h,hs,ha=>⟨h,by simp⟩
 |k :: ks,t,h,hs,ha=>by
  unfold gf at h
  split at h
  ·exact h.elim
  ·rename_i o ho
   split at h
   ·rename_i v ps hw hc
    have hw':=dS (β:=β) hw
    have fin:∀u,(aG β a).put o.dst u=aG β a->(execOp (aG β a).eval o).run Γ.P w=.ok (.value u) w->(gf Γ.P ops a s ks t).holds Γ ->
      t.holds Γ/\∀k',k'∈k :: ks->∀o,ops[k']?=some o->Region.wanted o (yielded ops (aG β a).tmps)=true/\∃u,(aG β a).put o.dst u=aG β a/\(execOp (aG β a).eval o).run Γ.P w=.ok (.value u) w:=by
     intro u hu hrun hh
     obtain⟨g1,g2⟩:=mh hh hs ha
     refine⟨g1,fun k' hk' o' ho'=>?_⟩
     rcases List.mem_cons.1 hk' with rfl |hk'
     ·rw[ho]at ho'
      cases ho'
      exact⟨hw',u,hu,hrun⟩
     ·exact g2 k' hk' o' ho'
    split at h
    ·rename_i hd
     obtain⟨hp,hh⟩:=dC h
     exact fin _ (by rw[hd];rfl) (fq hc hp hs ha).1 hh
    ·rename_i d hd
     split at h
     ·rename_i hn
      obtain⟨hp,hh⟩:=dC h
      refine fin _ ?_ (fq hc hp hs ha).1 hh
      rw[hd]
      have hlen:a.length<=d:=List.getElem?_eq_none_iff.1 hn
      simp only[Act.put,aG]
      rw[Array.setIfInBounds_eq_of_size_le (by simp[av];omega)]
     ·rename_i u hu
      split at h
      ·rename_i qs hq
       obtain⟨hp,hh⟩:=dC h
       obtain⟨hp2,hh⟩:=dC hh
       have e1:=kV (β:=β) _ _ _ hq hp2
       refine fin (u.den β) ?_ (by rw[<- e1];exact(fq hc hp hs ha).1) hh
       rw[hd]
       have hlt:=(List.getElem?_eq_some_iff.1 hu).1
       have:(ae β a).toArray[d]?=some (u.den β):=by simp[bQ,hu]
       simp only[Act.put,aG]
       congr 1
       apply Array.ext_getElem?
       intro i
       by_cases hdi:d=i
       ·subst hdi
        rw[this]
        simp[av,hlt]
       ·rw[Array.getElem?_setIfInBounds_ne hdi]
      ·exact h.elim
   ·exact h.elim
theorem wH{n:Nat}{K:List SV->SS->T}(c:_)(a:Act)(w:World):¬PostN Γ β s n K (.panic c) a w:=fun h=>by cases h.1
theorem xI{a:List SV}{i:Nat}{dst:Option Nat}{v:SV}{ps:List Prop}{st:Bool}(h:yN Γ.P ops a s i=some (dst,v,ps,st))(hp:∀p,p∈ps->p)(hs:St Γ β s w)(ha:bf s.n a) :
  ∃o,ops[i]?=some o/\o.dst=dst/\v.ok s.n /\
  ((Region.wanted o (yielded ops (aG β a).tmps)=true/\(execOp (aG β a).eval o).run Γ.P w=.ok (.value (v.den β)) w /\
    (st=false ∨ ∀w2:World,(∀i,i<s.n->β i<w2.heap.size)->(execOp (aG β a).eval o).run Γ.P w2=.ok (.value (v.den β)) w2)) ∨
   (Region.wanted o (yielded ops (aG β a).tmps)=false/\v.den β=undef)):=by
 unfold yN at h
 split at h
 ·cases h
 ·rename_i o ho
  refine⟨o,ho,?_⟩
  split at h
  ·rename_i wt hw
   have hw':=dS (β:=β) hw
   split at h
   ·rename_i hwt
    subst hwt
    split at h
    ·rename_i v' ps' st' ht
     simp only[Option.some.injEq,Prod.mk.injEq]at h
     obtain⟨h1,rfl,rfl,rfl⟩:=h
     unfold AJ at ht
     split at ht
     ·rename_i v2 ps2 hc
      simp only[Option.some.injEq,Prod.mk.injEq]at ht
      obtain⟨rfl,rfl,rfl⟩:=ht
      obtain⟨c1,c2⟩:=rD hc hp hs ha
      exact⟨h1,c1,.inl ⟨hw',c2 w hs.lt,.inr c2⟩⟩
     ·split at ht
      ·rename_i v2 ps2 hc
       simp only[Option.some.injEq,Prod.mk.injEq]at ht
       obtain⟨rfl,rfl,rfl⟩:=ht
       obtain⟨c1,c2⟩:=fq hc hp hs ha
       exact⟨h1,c2,.inl ⟨hw',c1,.inl rfl⟩⟩
      ·cases ht
    ·cases h
   ·rename_i hwt
    simp only[Option.some.injEq,Prod.mk.injEq]at h
    obtain⟨h1,rfl,_,_⟩:=h
    have:wt=false:=by simpa using hwt
    subst this
    exact⟨h1,trivial,.inr ⟨hw',rfl⟩⟩
  ·cases h
theorem dp{K:List SV->T}:∀(l:List Nat) (a:List SV) (n:Nat),bf n a->(db ops l a K).holds Γ->∃a',aG β a'=aG β a/\bf n a'/\a'.length=a.length/\(K a').holds Γ
 |[],a,n,ha,h=>⟨a,rfl,ha,rfl,h⟩
 |i :: is,a,n,ha,h=>by
  unfold db at h
  split at h
  ·exact dp is a n ha h
  ·split at h
   ·rename_i d b want hw
    obtain⟨_,h2⟩:=sA hw
    obtain⟨k1,k2⟩:=h
    have hk:(db ops is (iU a d b) K).holds Γ:=by
     cases b
     ·exact k2 rfl
     ·exact k1 rfl
    obtain⟨a',e1,ok1,l1,h1⟩:=dp is (iU a d b) n (tn ha d b) hk
    exact⟨a',e1.trans (qe h2),ok1,l1.trans (jl a d b),h1⟩
   ·exact dp is a n ha h
theorem wR{eager:Bool}{K:List SV->T}{l:List Nat}{a:List SV}{n:Nat}(ha:bf n a)(h:((if eager then db ops l a else fun K=>K a) K).holds Γ):∃a',aG β a'=aG β a/\bf n a'/\a'.length=a.length/\(K a').holds Γ:=by
 cases eager with
 |false=>exact⟨a,rfl,ha,rfl,h⟩
 |true=>exact dp l a n ha h
theorem yV{eager:Bool}{call:eI}(hc:d6 Γ call)(hsel:Region.noSelect ops=true)(hn:ma ops=true):∀(m n:Nat) (L:Array Bool) (Lv:List Bool) (D:List Nat) (α:Act) (a:List SV) (pend:List Nat) (K:List SV->SS->T) (s:SS) (β:Nat->Nat) (w:World),
  (xP eager Γ.P call ops n Lv a pend K s).holds Γ->MixR Γ β s w ops L Lv.toArray D α a pend->m=n+D.length->wpAny Γ.P .any ops (PostN Γ β s a.length K) m L α w:=by
 intro m n
 induction m using Nat.strongRecOn generalizing n with
 |ind m ihm=>
 induction n using Nat.strongRecOn with
 |ind n ihn=>
 intro L Lv D α a pend K s β w h R hm
 have hs:=R.st
 have ha:=R.ok
 have early:∀j,j∈D->j∈Region.ready .any ops L->∀m',m=m'+1->wpOp Γ.P ops (PostN Γ β s a.length K) j (wpAny Γ.P .any ops (PostN Γ β s a.length K) m' (L.setIfInBounds j true)) α w:=by
  intro j hj hr m' hm'
  refine R.pendStep hn hsel hj hr fun α1 R1=>?_
  refine ihm m' (by omega) n _ _ _ _ _ _ _ _ _ _ h R1 ?_
  rw[List.length_erase_of_mem hj]
  have:=List.length_pos_of_mem hj
  omega
 have over:Region.ready .any ops Lv.toArray=[]->(K a s).holds Γ->wpAny Γ.P .any ops (PostN Γ β s a.length K) m L α w:=by
  intro hr hh
  have fin:Region.ready .any ops L=[]->PostN Γ β s a.length K .normal α w:=by
   intro hr0
   have hD:=R.done hn hr0
   subst hD
   exact⟨rfl,a,s,β,R.same,Ext.refl hs,ha,rfl,hh⟩
  have steps:∀j,j∈Region.ready .any ops L->j∈D:=by
   intro j hj
   by_cases hjD:j∈D
   ·exact hjD
   ·have:=R.ready_of hj hjD
    rw[hr]at this
    cases this
  cases m with
  |zero=>
   have hD:D=[]:=List.length_eq_zero_iff.1 (by omega)
   have hr0:Region.ready .any ops L=[]:=List.eq_nil_iff_forall_not_mem.2 fun j hj=>by
    have:=steps j hj
    rw[hD]at this
    cases this
   exact⟨hr0,fin hr0⟩
  |succ m'=>exact⟨fin,fun j hj=>early j (steps j hj) hj m' rfl⟩
 cases n with
 |zero=>
  unfold xP at h
  split at h
  ·rename_i hr
   exact over hr h
  ·exact h.elim
 |succ n=>
  have h':=h
  unfold xP at h
  simp only at h
  split at h
  ·rename_i hr
   exact over hr h
  ·rename_i r more hr
   obtain⟨a1,ea,oka1,la1,h⟩:=wR (β:=β) ha h
   rw[<- la1]at early ⊢
   have R:=R.conv ea oka1
   have ha:=oka1
   clear over h'
   revert R ha
   rename_i a0
   intro R ha
   split at h
   ·rename_i i dst v ps st hfind
    obtain⟨l1,i',l2,hl,hi',_⟩:=List.findSome?_eq_some_iff.1 hfind
    split at hi'
    ·rename_i dst' v' ps' st' ht
     simp only[Option.some.injEq,Prod.mk.injEq]at hi'
     obtain⟨rfl,rfl,rfl,rfl,rfl⟩:=hi'
     obtain⟨hp,hh⟩:=dC h
     obtain⟨o,ho,hd,hv,hy⟩:=xI ht hp hs ha
     subst hd
     have hmem:i'∈Region.ready .any ops Lv.toArray:=by rw[hr,hl];simp
     have R1:=R.take hn hsel hmem ho hv (pend':=if st' then pend else i' :: pend) (fun k hk=>by split <;> simp[hk])
      (hy.imp (fun⟨y1,y2,y3⟩=>⟨y1,y2,y3.imp (fun e=>by simp[e]) id⟩) id)
     have:=ihn n (by omega) L (Lv.set i' true) (i' :: D) α (dr a1 o.dst v') _ K s β w hh (by simpa using R1) (by simp;omega)
     rw[cL]at this
     exact this
    ·cases hi'
   ·obtain⟨h1,h2⟩:=ol h
    have hall:∀i∈r :: more,_:=fun i hi=>(List.mem_cons.1 hi).elim (fun e=>e ▸ h1) (fun hm=>h2 i hm)
    obtain⟨m',rfl⟩:∃m',m=m'+1:=⟨m-1,by omega⟩
    refine⟨fun hr0=>?_,fun j hj=>?_⟩
    ·exfalso
     have hD:=R.done hn hr0
     have hrr:r∈Region.ready .any ops Lv.toArray:=by rw[hr];simp
     obtain⟨q0,o,ho,he⟩:=cf.1 hrr
     have:r∈Region.ready .any ops L:=by
      refine cf.2 ⟨?_,o,ho,fun e hee=>?_⟩
      ·have hlt:r<L.size:=by rw[R.sz,<- R.sz'];exact(Array.getElem?_eq_some_iff.1 q0).1
       cases hL:L[r]? with
       |none=>rw[Array.getElem?_eq_none_iff]at hL;omega
       |some b=>
        cases b with
        |false=>rfl
        |true=>have:=R.sub r hL;rw[q0]at this;cases this
      ·have q1:=he e hee
       have hlt:e<L.size:=by rw[R.sz,<- R.sz'];exact(Array.getElem?_eq_some_iff.1 q1).1
       cases hL:L[e]? with
       |none=>rw[Array.getElem?_eq_none_iff]at hL;omega
       |some b=>
        cases b with
        |true=>rfl
        |false=>
         have:=(R.mem e).2 ⟨q1,hL⟩
         rw[hD]at this
         cases this
     rw[hr0]at this
     cases this
    ·by_cases hjD:j∈D
     ·exact early j hjD hj m' rfl
     ·have hj':=R.ready_of hj hjD
      have hb:=hall j (by rw[<- hr];exact hj')
      split at hb
      ·exact hb.elim
      ·rename_i o ho
       have ag:=R.agree hn hj ho
       have hex:=fC (Region.noSelect_spec hsel j o · · ho) ag
       have hwa:=dT ag
       obtain⟨a',e1,oka,la,hcase⟩:=gY (β:=β) hb s.n ha
       have R:=R.conv e1 oka
       rw[<- e1]at hcase hex hwa
       unfold wpOp
       simp only[ho,hwa]
       rcases hcase with⟨hw',hh⟩ |⟨hw',hh⟩
       ·rw[if_pos hw']
        left
        refine El (α':=aG β a') (N:=fun u w1=>∃v s' β',u=SV.den β' v/\Ext Γ β s β' s' w1/\v.ok s'.n /\
         (gf Γ.P ops (dr a' o.dst v) s' (pend.filter fun k=>!(iX ops j o).contains k) (xP eager Γ.P call ops n (Lv.set j true) (dr a' o.dst v) (pend.filter fun k=>!(iX ops j o).contains k) K s')).holds Γ)
         hex R.asz wH ?_ ?_
        ·exact nj hc hh hs oka fun v s' β' w' he hv hk=>⟨_,rfl,v,s',β',rfl,he,hv,hk⟩
        ·rintro u w1 ⟨v,s',β',rfl,he,hv,hk⟩
         have ha':=gc (bu he.le a' oka) hv o.dst
         obtain⟨g1,g2⟩:=mh hk he.st ha'
         have R1:=R.step hn hsel hj hjD ho he hv (pend':=pend.filter fun k=>!(iX ops j o).contains k) (fun k ok hkD hok hkp=>by
          have hkeep:k∈pend.filter fun k=>!(iX ops j o).contains k:=by
           refine List.mem_filter.2 ⟨hkp,?_⟩
           cases hbk:(iX ops j o).contains k with
           |false=>rfl
           |true=>
            obtain⟨_,o2,ho2,he2⟩:=cf.1 hj
            rw[ho]at ho2
            cases ho2
            have:=jb R.dc j (dK o) he2 k (by simpa [iX] using hbk)
            rw[((R.mem k).1 hkD).2]at this
            cases this
          obtain⟨q1,u,q2,q3⟩:=g2 k hkeep ok hok
          exact .inl ⟨q1,u,q2,q3,.inl hkeep⟩)
         have:=ihm m' (by omega) n _ (Lv.set j true) D _ (dr a' o.dst v) _ K s' β' w1 g1 (by simpa using R1) (by omega)
         rw[cL,la]at this
         exact qP (fun e a w hp=>PostN.ext he hp) _ _ _ _ this
       ·rw[if_neg (by rw[hw'];simp)]
        have R1:=R.step hn hsel hj hjD ho (Ext.refl hs) (v:=aA) trivial (pend':=pend) (fun k ok hkD hok hkp=>by
         obtain⟨p1,p2⟩:=R.apart hn hj' ho hkD hok
         rw[<- fA (Ext.refl hs) oka]
         exact(R.ow k ok hkD hok).put (Region.noSelect_spec hsel k ok · · hok) p1 p2 id)
        have:=ihm m' (by omega) n _ (Lv.set j true) D _ (dr a' o.dst aA) _ K s β w hh (by simpa using R1) (by omega)
        rw[cL,la]at this
        exact this
theorem kC{n k:Nat}{b:Bool}(h:(List.replicate n false).toArray[k]?=some b):b=false:=by
 simp only[List.getElem?_toArray,List.getElem?_replicate]at h
 split at h
 ·simpa using h.symm
 ·cases h
theorem MixR.start{a:List SV}(hs:St Γ β s w)(ha:bf s.n a):MixR Γ β s w ops (List.replicate ops.size false).toArray (List.replicate ops.size false).toArray [] (aG β a) a [] where
 st:=hs
 ok:=ha
 sz:=by simp
 sz':=by simp
 mem k:=⟨fun h=>by simp at h,fun h=>by rw[h.1]at h;cases h.2⟩
 nd:=List.nodup_nil
 sub k h:=h
 dc k o ho hl:=by have:=kC hl;cases this
 dc' k o ho hl:=by have:=kC hl;cases this
 act t _:=rfl
 asz:=rfl
 df:=rfl
 ow k o hk:=by simp at hk
theorem xN{eager:Bool}{call:eI}(hc:d6 Γ call){id:Nat}(hsel:Region.noSelect ops=true)(hm:Γ.P.follows .mixedOrders=true){a:List SV}{K:List SV->SS->T}
  (h:(Eo eager Γ.P call ops a K s).holds Γ) (hs:St Γ β s w) (ha:bf s.n a):(Code.region id ops true).wp Γ.P (PostN Γ β s a.length K) (aG β a) w:=by
 unfold Eo at h
 split at h
 ·rename_i hn
  refine wp_region_any hm ?_
  have:=yV hc hsel hn ops.size ops.size _ _ [] _ a [] K s β _ h (MixR.start (hs.like sd) ha) (by simp)
  simpa using this
 ·refine wp_region_any hm ?_
  have:=iq hc hsel _ _ _ _ _ _ _ h (hs.like sd) ha
  simpa using this
end
section
variable {Γ:Ctx}{β:Nat->Nat}{s:SS}{w:World}
def m5(tmps:Array Value):ResultVar->Sem Value
 | .tmp t=>pure (tmps.getD t undef)
 | .cell a t=>do loadVar t (<- asAddr (tmps.getD a undef))
theorem yJ(fn:Func)(tmps:Array Value):results fn tmps=(do let vs <- fn.results.mapM (m5 tmps);pure (if h:vs.size=1 then vs[0] else .tuple vs)):=by
 unfold results
 congr 1
theorem dU{a:List SV}:∀(rs:List ResultVar) (K:List SV->T),(cJ Γ.P a s rs K).holds Γ->St Γ β s w->bf s.n a ->
  ∃vs,(rs.mapM (m5 (aG β a).tmps)).run Γ.P w=.ok (ae β vs) w/\bf s.n vs/\(K vs).holds Γ
 |[],K,h,hs,ha=>⟨[],rfl,trivial,h⟩
 | .tmp t :: rest,K,h,hs,ha=>by
  unfold cJ at h
  obtain⟨vs,h1,h2,h3⟩:=dU rest _ h hs ha
  have hev:=cE (x:=.tmp t) (v:=a.getD t aA) rfl hs ha
  refine⟨a.getD t aA :: vs,?_,⟨hev.2,h2⟩,h3⟩
  have e1:(aG β a).tmps.getD t undef=(a.getD t aA).den β:=hev.1
  simp only[List.mapM_cons,m5,e1,Sem.run_bind,Sem.run_pure,Result.andThen_ok,h1,ae]
 | .cell x t :: rest,K,h,hs,ha=>by
  unfold cJ at h
  have hev:=cE (x:=.tmp x) (v:=a.getD x aA) rfl hs ha
  have e1:(aG β a).tmps.getD x undef=(a.getD x aA).den β:=hev.1
  split at h
  ·rename_i id off hp
   obtain⟨v,l1,l2,l3⟩:=kh h hs
   obtain⟨vs,h1,h2,h3⟩:=dU rest _ l3 hs ha
   refine⟨v :: vs,?_,⟨l2,h2⟩,h3⟩
   have e2:(m5 (aG β a).tmps (.cell x t)).run Γ.P w=.ok (v.den β) w:=by
    simp only[m5,e1,hp,SV.den,asAddr,Sem.run_bind,Sem.run_pure,Result.andThen_ok,l1]
   simp only[List.mapM_cons,Sem.run_bind,e2,Result.andThen_ok,h1,Sem.run_pure,ae]
  ·exact h.elim
theorem ox{fn:Func}{a vs:List SV}(h:(fn.results.toList.mapM (m5 (aG β a).tmps)).run Γ.P w=.ok (ae β vs) w) :
  (results fn (aG β a).tmps).run Γ.P w=.ok ((fo vs).den β) w:=by
 rw[yJ,Array.mapM_eq_mapM_toList]
 simp only[Sem.run_bind,Sem.run_map,h,Result.andThen_ok,Sem.run_pure]
 congr 1
 cases vs with
 |nil=>simp[ae,fo,SV.den]
 |cons v vs=>
  cases vs with
  |nil=>simp[ae,fo]
  |cons u us=>simp[ae,fo,SV.den]
theorem xv{n:Nat}{vs:List SV}(h:bf n vs):(fo vs).ok n:=by
 unfold fo
 split
 ·exact h.1
 ·exact h
def Post(Γ:Ctx)(β:Nat->Nat)(s:SS)(n:Nat)(K:SE->List SV->SS->T)(e:Exit)(a':Act)(w':World):Prop:=
 ∃e' vs s' β',e=SE.exit' e'/\a'=aG β' vs/\Ext Γ β s β' s' w'/\bf s'.n vs/\vs.length=n/\(K e' vs s').holds Γ
theorem Post.ext{n:Nat}{K:SE->List SV->SS->T}{β':Nat->Nat}{s':SS}{w':World}(he:Ext Γ β s β' s' w'){e:Exit}{a':Act}{w'':World}(h:Post Γ β' s' n K e a' w''):Post Γ β s n K e a' w'':=by
 obtain⟨e',vs,s2,β2,h0,h1,h2,h3,h4,h5⟩:=h
 exact⟨e',vs,s2,β2,h0,h1,he.trans h2,h3,h4,h5⟩
def Cr(P:Program)(hk:Hooks)(n:Nat):eI:=fun f args s' k=>match hk.calls f with
   |some h=>.call f args s' h.X (h.out args s') (fun x w' bs=>k (h.out args s' x).1 (iV s' (h.out args s' x).2 w' bs))
   |none=>(match P.funcs[f]? with
   |some fn=>(match fn.body with
    |some body=>aK P hk n f body (args++List.replicate (fn.ntmps-args.length) aA) (fun e a' s''=>(match e with
     | .normal=>cJ P a' s'' fn.results.toList fun vs=>k (fo vs) s''
     | .ret=>cJ P a' s'' fn.results.toList fun vs=>k (fo vs) s''
     |_=>.bad "a body's end")) s'
    |none=>.bad "a function without a body")
   |none=>.bad "no such function")
def jM(Γ:Ctx)(hk:Hooks)(n:Nat):Prop:=∀(f₀:FuncId) (c:Code) (a:List SV) (K:SE->List SV->SS->T) (s:SS) (β:Nat->Nat) (w:World),
 (aK Γ.P hk n f₀ c a K s).holds Γ->St Γ β s w->bf s.n a->c.wp Γ.P (Post Γ β s a.length K) (aG β a) w
theorem Bf(args:List SV)(n:Nat):aG β (args++List.replicate (n-args.length) aA)={ tmps:=(ae β args).toArray++Array.replicate (n-(ae β args).toArray.size) undef,defers:=[] }:=by
 unfold aG
 congr 1
 apply Array.ext'
 simp[dz,cD,aA,SV.den,undef]
theorem BV(m n:Nat):bf m (List.replicate n aA):=by
 rw[eA]
 intro v hv
 rw[(List.mem_replicate.1 hv).2]
 trivial
theorem pJ{hk:Hooks}{n:Nat}(ih:jM Γ hk n){f:FuncId}{fn:Func}{body:Code}(hf:Γ.P.funcs[f]?=some fn)(hb:fn.body=some body){args:List SV}{k:SV->SS->T}
  (h:(aK Γ.P hk n f body (args++List.replicate (fn.ntmps-args.length) aA) (fun e a' s''=>(match e with
     | .normal=>cJ Γ.P a' s'' fn.results.toList fun vs=>k (fo vs) s''
     | .ret=>cJ Γ.P a' s'' fn.results.toList fun vs=>k (fo vs) s''
     |_=>.bad "a body's end")) s).holds Γ) (hs:St Γ β s w) (hargs:bf s.n args) :
  Calls Γ.P f (ae β args).toArray w fun e w'=>∃v s' β',e=.returned (v.den β')/\Ext Γ β s β' s' w'/\v.ok s'.n/\(k v s').holds Γ:=by
 refine calls_of_wp hf hb ?_
 rw[<- Bf]
 refine Code.wp_mono ?_ (ih f body _ _ s β w h hs (em hargs (BV _ _)))
 rintro e a' w' ⟨e',vs,s',β',rfl,rfl,h2,h3,_,h5⟩
 cases e' with
 |normal=>
  obtain⟨rs,r1,r2,r3⟩:=dU _ _ h5 h2.st h3
  exact⟨rfl,_,ox r1,fo rs,s',β',rfl,h2,xv r2,r3⟩
 |ret=>
  obtain⟨rs,r1,r2,r3⟩:=dU _ _ h5 h2.st h3
  exact⟨rfl,_,ox r1,fo rs,s',β',rfl,h2,xv r2,r3⟩
 |exit i=>exact h5.elim
 |goto l=>exact h5.elim
theorem sV{hk:Hooks}{n:Nat}(ih:jM Γ hk n):d6 Γ (Cr Γ.P hk n):=by
 intro f args s K β w h hs hargs
 unfold Cr at h
 split at h
 ·refine(h β w hs hargs).mono ?_
  rintro e w' ⟨x,β',bs,h1,h2,h3,h4⟩
  exact⟨_,_,β',h1,h2,h3,h4⟩
 ·split at h
  ·rename_i fn hf
   split at h
   ·rename_i body hb
    exact pJ ih hf hb h hs hargs
   ·exact h.elim
  ·exact h.elim
def LW(P:Program)(c:Code)(Q:Exit->Act->World->Prop)(a:Act)(w:World):Prop:=
 ∀(b:Frame) (k:List Item) (cs:List Frame),∃e a' w',Q e a' w'/\Arrives P (lone (b.at a (.code c :: .inLoop c :: k)) cs w) b k cs e a' w'
theorem LW.loop{P:Program}{c:Code}{Q:Exit->Act->World->Prop}{a:Act}{w:World}(h:LW P c Q a w):(Code.loop c).wp P Q a w:=
 fun b k cs=>let ⟨e,a',w',q,r⟩:=h b k cs;⟨e,a',w',q,.of_steps (.one step_loop) r⟩
theorem LW.round{P:Program}{c:Code}{Q:Exit->Act->World->Prop}{a:Act}{w:World}(h:c.wp P (Exit.then (LW P c Q) Q) a w):LW P c Q a w:=by
 intro b k cs
 obtain⟨e,a₁,w₁,hq,harr⟩:=h b (.inLoop c :: k) cs
 cases e with
 |normal=>
  obtain⟨e₂,a₂,w₂,hq₂,harr₂⟩:=hq b k cs
  exact⟨e₂,a₂,w₂,hq₂,.of_steps (Steps.trans harr (.one step_inLoop)) harr₂⟩
 |exit id=>exact⟨_,a₁,w₁,hq,.pass (x:=.inLoop c) rfl (fun _ _=>.inl (by simp)) harr⟩
 |goto l=>exact⟨_,a₁,w₁,hq,.pass (x:=.inLoop c) rfl (fun _ _=>.inl (by simp)) harr⟩
 |ret=>exact⟨_,a₁,w₁,hq,.pass (x:=.inLoop c) rfl (fun _ _=>.inl (by simp)) harr⟩
 |panic ch=>exact⟨_,a₁,w₁,hq,.pass (x:=.inLoop c) rfl (fun _ _=>.inl (by simp)) harr⟩
 |outgrown=>exact⟨_,a₁,w₁,hq,.pass (x:=.inLoop c) rfl (fun _ _=>.inl (by simp)) harr⟩
theorem LW.mono{P:Program}{c:Code}{Q Q':Exit->Act->World->Prop}{a:Act}{w:World}(hq:∀e a w,Q e a w->Q' e a w)(h:LW P c Q a w):LW P c Q' a w:=
 fun b k cs=>let ⟨e,a',w',q,r⟩:=h b k cs;⟨e,a',w',hq _ _ _ q,r⟩
def rO(Γ:Ctx)(hk:Hooks)(n:Nat):Prop:=∀(f₀:FuncId) (c:Code) (a:List SV) (K:SE->List SV->SS->T) (s:SS) (β:Nat->Nat) (w:World),hk.loops f₀ (da c)=none ->
 (aK Γ.P hk n f₀ (.loop c) a K s).holds Γ->St Γ β s w->bf s.n a->LW Γ.P c (Post Γ β s a.length K) (aG β a) w
theorem mq{hk:Hooks}:∀n,jM Γ hk n/\rO Γ hk n
 |0=>⟨fun f₀ c a K s β w h _ _=>h.elim,fun f₀ c a K s β w _ h _ _=>h.elim⟩
 |n+1=>by
  obtain⟨ih,ihl⟩:=mq (hk:=hk) n
  have hcall:=sV (hk:=hk) ih
  have hloop:rO Γ hk (n+1):=by
   intro f₀ body a K s β w hl h hs ha
   simp only[aK,hl]at h
   have hround:=ih f₀ body a _ s β w h hs ha
   refine LW.round (Code.wp_mono ?_ hround)
   rintro e a' w' ⟨e',vs,s',β',rfl,rfl,h2,h3,h4,h5⟩
   cases e' with
   |normal=>
    have:=ihl f₀ body vs K s' β' w' hl h5 h2.st h3
    rw[h4]at this
    exact LW.mono (fun e a w hp=>Post.ext h2 hp) this
   |exit i=>exact⟨.exit i,vs,s',β',rfl,rfl,h2,h3,h4,h5⟩
   |goto l=>exact⟨.goto l,vs,s',β',rfl,rfl,h2,h3,h4,h5⟩
   |ret=>exact⟨.ret,vs,s',β',rfl,rfl,h2,h3,h4,h5⟩
  refine⟨?_,hloop⟩
  intro f₀ c a K s β w h hs ha
  cases c with
  |skip=>exact wp_skip ⟨.normal,a,s,β,rfl,rfl,Ext.refl hs,ha,rfl,h⟩
  |label l=>exact wp_label ⟨.normal,a,s,β,rfl,rfl,Ext.refl hs,ha,rfl,h⟩
  |ret=>exact wp_ret ⟨.ret,a,s,β,rfl,rfl,Ext.refl hs,ha,rfl,h⟩
  |exit id=>exact wp_exit ⟨.exit id,a,s,β,rfl,rfl,Ext.refl hs,ha,rfl,h⟩
  |seq x y=>
   simp only[aK]at h
   refine wp_seq (Code.wp_mono ?_ (ih f₀ x a _ s β w h hs ha))
   rintro e a' w' ⟨e',vs,s',β',rfl,rfl,h2,h3,h4,h5⟩
   cases e' with
   |normal=>
    have:=ih f₀ y vs K s' β' w' h5 h2.st h3
    rw[h4]at this
    exact Code.wp_mono (fun e a w hp=>Post.ext h2 hp) this
   |exit i=>exact⟨.exit i,vs,s',β',rfl,rfl,h2,h3,h4,h5⟩
   |goto l=>exact⟨.goto l,vs,s',β',rfl,rfl,h2,h3,h4,h5⟩
   |ret=>exact⟨.ret,vs,s',β',rfl,rfl,h2,h3,h4,h5⟩
  |cond x t f=>
   simp only[aK]at h
   split at h
   ·rename_i b lit hev
    obtain⟨e1,_⟩:=cE hev hs ha
    refine wp_cond (t:=b) (by rw[e1];rfl) ?_
    have key:∃a',aG β a'=aG β a/\bf s.n a'/\a'.length=a.length/\(if b=true then aK Γ.P hk n f₀ t a' K s else aK Γ.P hk n f₀ f a' K s).holds Γ:=by
     split at h
     ·exact⟨a,rfl,ha,rfl,h⟩
     ·split at h
      ·rename_i d
       obtain⟨k1,k2⟩:=h
       simp only[ev,Option.some.injEq]at hev
       have hd:a[d]?=some (.bool b lit):=by
        rw[List.getD_eq_getElem?_getD]at hev
        cases hx:a[d]? with
        |none=>rw[hx]at hev;simp[aA]at hev
        |some v=>rw[hx]at hev;simp at hev;rw[hev]
       refine⟨iU a d b,qe hd,tn ha d b,jl a d b,?_⟩
       cases b
       ·simpa using k2 rfl
       ·simpa using k1 rfl
      ·obtain⟨k1,k2⟩:=h
       refine⟨a,rfl,ha,rfl,?_⟩
       cases b
       ·simpa using k2 rfl
       ·simpa using k1 rfl
    obtain⟨a',e2,oka,la,key⟩:=key
    rw[<- e2,<- la]
    cases b
    ·exact ih f₀ f a' K s β w (by simpa using key) hs oka
    ·exact ih f₀ t a' K s β w (by simpa using key) hs oka
   ·exact h.elim
  |block id c=>
   simp only[aK]at h
   refine wp_block (Code.wp_mono ?_ (ih f₀ c a _ s β w h hs ha))
   rintro e a' w' ⟨e',vs,s',β',rfl,rfl,h2,h3,h4,h5⟩
   cases e' with
   |normal=>exact⟨.normal,vs,s',β',rfl,rfl,h2,h3,h4,h5⟩
   |exit i=>
    simp only[SE.exit',Exit.inBlock]
    simp only at h5
    split at h5
    ·rename_i hi
     rw[if_pos hi]
     exact⟨.normal,vs,s',β',rfl,rfl,h2,h3,h4,h5⟩
    ·rename_i hi
     rw[if_neg hi]
     exact⟨.exit i,vs,s',β',rfl,rfl,h2,h3,h4,h5⟩
   |goto l=>exact⟨.goto l,vs,s',β',rfl,rfl,h2,h3,h4,h5⟩
   |ret=>exact⟨.ret,vs,s',β',rfl,rfl,h2,h3,h4,h5⟩
  |loop body=>
   cases hl:hk.loops f₀ (da body) with
   |some lh=>
    simp only[aK,hl]at h
    refine Code.wp_mono ?_ (h β w hs ha)
    rintro e a' w' (⟨x,β',bs,h1,h2,h3,h4,h5,h6⟩ |⟨x,β',bs,h1,h2,h3,h4,h5,h6⟩)
    ·exact⟨_,_,_,β',h1,h2,h3,h4,h5,h6⟩
    ·exact⟨_,_,_,β',h1,h2,h3,h4,h5,h6⟩
   |none=>exact(hloop f₀ body a K s β w hl h hs ha).loop
  |region id ops draw=>
   have fin:∀e a' w',PostN Γ β s a.length (fun a' s'=>K .normal a' s') e a' w'->Post Γ β s a.length K e a' w':=by
    rintro e a' w' ⟨rfl,vs,s',β',h1,h2,h3,h4,h5⟩
    exact⟨.normal,vs,s',β',rfl,h1,h2,h3,h4,h5⟩
   cases draw with
   |false=>
    simp only[aK,Bool.false_eq_true,if_false]at h
    refine Code.wp_mono fin (wp_region_list ?_)
    exact jE hcall _ _ _ _ _ _ h hs ha
   |true=>
    simp only[aK,if_true]at h
    split at h
    ·rename_i hc
     rw[Bool.and_eq_true]at hc
     exact Code.wp_mono fin (xN hcall hc.1 hc.2 h hs ha)
    ·exact h.elim
  |rangeFunc f p x y=>exact(show False from h).elim
  |scope c=>exact(show False from h).elim
  |goto l=>exact(show False from h).elim
  |refuse r=>exact(show False from h).elim
theorem oE{hk:Hooks}(n:Nat):jM Γ hk n:=(mq n).1
theorem oG{hk:Hooks}{n:Nat}{f:FuncId}{args:List SV}(h:(am Γ.P hk n f args s).holds Γ)(hs:St Γ β s w)(hargs:bf s.n args) :
  Calls Γ.P f (ae β args).toArray w fun e w'=>∃v,e=.returned v/\Γ.Q .ret [v] w':=by
 unfold am at h
 split at h
 ·rename_i fn hf
  split at h
  ·rename_i body hb
   refine(pJ (k:=fun v s'=>.leaf .ret [v] s') (oE (hk:=hk) n) hf hb h hs hargs).mono ?_
   rintro e w' ⟨v,s',β',rfl,h2,h3,h4⟩
   exact⟨_,rfl,by simpa [ae] using h4 β' w' h2.st ⟨h3,trivial⟩⟩
  ·exact h.elim
 ·exact h.elim
end
section
open Go.RowKit
abbrev cS(P:Program)(Q:SE->List Value->World->Prop):Ctx:={ P:=P,β0:=id,n0:=0,Q:=Q }
def bC(Q:Value->World->Prop):SE->List Value->World->Prop:=fun _ vs w=>∃v,vs=[v]/\Q v w
theorem St.start(Γ:Ctx)(h0:Γ.n0=0)(w:World)(β:Nat->Nat):St Γ β (SS.at w) w where
 lt i hi:=by simp[SS.at,SS.n]at hi
 inj i j hi:=by simp[SS.at,SS.n]at hi
 at_ i o h:=by simp[SS.at]at h
 ok i o h:=by simp[SS.at]at h
 gl p hp:=by simp[SS.at]at hp
 old _:=
      {fr:=fun _ _ _=>rfl,sz:=Nat.le_refl _,tape:=rfl,os:=rfl,out:=rfl,pre:=fun i b h=>by simp[SS.at]at h,pren:=by simp[SS.at],
       new:=fun i _ hi=>by simp[SS.at,SS.n]at hi }
 base i hi:=by omega
 n0:=by omega
theorem yf{P:Program}{hk:Hooks}{n:Nat}{f:FuncId}{args:List SV}{w:World}{Q:Value->World->Prop}(hargs:bf 0 args)
  (h:(am P hk n f args (SS.at w)).holds (cS P (bC Q))):Calls P f (ae id args).toArray w fun e w'=>∃v,e=.returned v/\Q v w':=by
 refine(oG (Γ:=cS P (bC Q)) (β:=id) h (St.start _ rfl w id) hargs).mono ?_
 rintro e w' ⟨v,rfl,u,hu,hq⟩
 simp only[List.cons.injEq,and_true]at hu
 subst hu
 exact⟨_,rfl,hq⟩
section
variable {Γ:Ctx}{β:Nat->Nat}{s:SS}{w:World}
theorem Old.belowB{B:Nat}{w1:World}(h:Old β s w)(h0:Below B w1 s.w0)(hB:B<=w1.heap.size)(hp:∀b∈s.pre,B<=b):Below B w1 w where
 os:=h.os.trans h0.os
 tape:=h.tape.trans h0.tape
 output:=h.out.trans h0.output
 size:=Nat.le_trans h0.size h.sz
 block b hb:=by
  have h1:=h.heap (b:=b) (Nat.lt_of_lt_of_le (Nat.lt_of_lt_of_le hb hB) h0.size) (fun hm=>by have:=hp b hm;omega)
  exact h1.trans (h0.block b hb)
def ac(β:Nat->Nat)(n:Nat):List Nat:=(List.range n).map β
theorem dx{B:Nat}{w1:World}(h:Old β s w)(h0:Below B w1 s.w0)(hB:B<=w1.heap.size)(hp:∀b∈s.pre,B<=b):∀b∈ac β s.n,B<=b:=by
 intro b hb
 simp only[ac,List.mem_map,List.mem_range]at hb
 obtain⟨i,hi,rfl⟩:=hb
 by_cases hl:i<s.pre.length
 ·have h1:=h.pre i _ (List.getElem?_eq_getElem hl)
  rw[h1]
  exact hp _ (List.getElem_mem hl)
 ·have:=h.new i (by omega) hi
  have:=h0.size
  omega
theorem St.rebase(h:St Γ β s w){w':World}(hb:Below w.heap.size w w'):St Γ β (iV s s.objs w' (ac β s.n)) w' where
 lt i hi:=Nat.lt_of_lt_of_le (h.lt i hi) hb.size
 inj:=h.inj
 at_ i o ho:=by
  rw[hb.block _ (h.lt i (dB ho))]
  exact h.at_ i o ho
 ok:=h.ok
 gl:=h.gl
 old _:=
      {fr:=fun _ _ _=>rfl,sz:=Nat.le_refl _,tape:=rfl,os:=rfl,out:=rfl,
       pre:=fun i b hi=>by
        simp only[iV,ac,List.getElem?_map]at hi
        cases hr:(List.range s.n)[i]? with
        |none=>rw[hr]at hi;simp at hi
        |some j=>
         rw[hr]at hi
         have:=(List.getElem?_eq_some_iff.1 hr)
         obtain⟨hlt,he⟩:=this
         simp at he
         subst he
         simpa using hi
       pren:=by simp[iV,ac,SS.n]
       new:=fun i hi hin=>by simp[iV,ac,SS.n]at hi hin;omega }
 base:=h.base
 n0:=h.n0
theorem ys{B:Nat}{w1:World}{f:FuncId}{args:List SV}{X:Type}{out:X->SV×List SObj}{k:X->World->List Nat->T}{R:X->World->World->Prop}
  (hext:s.ext=true) (h0:Below B w1 s.w0) (hB:B<=w1.heap.size) (hp:∀b∈s.pre,B<=b)
  (hout:∀x,(out x).2=s.objs/\(out x).1.ok s.n)
  (hc:∀β w,St Γ β s w->Old β s w->Below B w1 w->Calls Γ.P f (ae β args).toArray w fun e w'=>∃x,e=.returned ((out x).1.den β)/\Below w.heap.size w w'/\R x w w')
  (hk:∀x w w' bs,Below B w1 w->R x w w'->Below w.heap.size w w'->Below B w1 w'->(∀b∈bs,B<=b)->(k x w' bs).holds Γ):(T.call f args s X out k).holds Γ:=by
 intro β w hs hargs
 have o:=hs.old hext
 have hbw:=o.belowB h0 hB hp
 refine(hc β w hs o hbw).mono ?_
 rintro e w' ⟨x,rfl,hb,hr⟩
 obtain⟨ho1,ho2⟩:=hout x
 have hz:=hbw.size
 refine⟨x,β,ac β s.n,rfl,⟨?_,?_,fun _ _=>rfl⟩,?_,hk x w w' _ hbw hr hb (hbw.trans (hb.mono (Nat.le_trans hB hz))) (dx o h0 hB hp)⟩
 ·rw[ho1];exact hs.rebase hb
 ·simp[iV,SS.n,ho1]
 ·rw[ho1];exact ho2
end
def Cm(vs:List Value):Act:={ tmps:=vs.toArray,defers:=[] }
theorem dq(β:Nat->Nat)(a:List SV):aG β a=Cm (ae β a):=rfl
def fH(I:Nat->List Value->World->Prop)(QX:SE->List Value->World->Prop)(n:Nat):SE->List Value->World->Prop:=fun e vs w=>
 match e with
 | .normal=>∃n',n'<n/\I n' vs w
 |e=>QX e vs w
def az(live:List (Nat×SV))(g:Nat->Value):Nat->Nat->List SV
 |0,_=>[]
 |n+1,i=>(match live.lookup i with
  |some v=>v
  |none=>.raw (g i)) :: az live g n (i+1)
theorem bS(live:List (Nat×SV))(g:Nat->Value):∀n i,(az live g n i).length=n
 |0,_=>rfl
 |n+1,i=>by simp[az,bS live g n (i+1)]
theorem ot{live:List (Nat×SV)}{β:Nat->Nat}{vs:List Value}(h:∀p∈live,vs[p.1]?=some (p.2.den β)):∀(n i:Nat),n+i=vs.length ->
  ae β (az live (fun i=>vs.getD i undef) n i)=vs.drop i
 |0,i,hn=>by rw[List.drop_of_length_le (by omega)];rfl
 |n+1,i,hn=>by
  have hlt:i<vs.length:=by omega
  rw[List.drop_eq_getElem_cons hlt]
  simp only[az,ae]
  rw[ot h n (i+1) (by omega)]
  congr 1
  cases hl:live.lookup i with
  |none=>simp[SV.den,hlt]
  |some v=>
   obtain⟨l1,l2,hl',_⟩:=List.lookup_eq_some_iff.1 hl
   have:=h (i,v) (by rw[hl'];simp)
   rw[List.getElem?_eq_getElem hlt]at this
   simpa using this.symm
theorem qo{live:List (Nat×SV)}{β:Nat->Nat}{vs:List Value}{N:Nat}(hn:vs.length=N)(h:∀p∈live,vs[p.1]?=some (p.2.den β)) :
  vs=ae β (az live (fun i=>vs.getD i undef) N 0):=by
 rw[ot h N 0 (by omega)];simp
theorem ii{live:List (Nat×SV)}{m:Nat}(h:bf m (live.map (·.2)))(g:Nat->Value):∀n i,bf m (az live g n i)
 |0,_=>trivial
 |n+1,i=>by
  refine⟨?_,ii h g n (i+1)⟩
  cases hl:live.lookup i with
  |none=>trivial
  |some v=>
   obtain⟨l1,l2,hl',_⟩:=List.lookup_eq_some_iff.1 hl
   rw[eA]at h
   exact h v (by rw[hl'];simp)
def ep(L:SE->List Nat)(e:SE)(a:List SV):List SV:=(L e).map fun i=>a.getD i aA
def f6(L:SE->List Nat)(e:SE)(vs:List Value):List Value:=(L e).map fun i=>vs.getD i undef
theorem FF(β:Nat->Nat)(L:SE->List Nat)(e:SE)(a:List SV):ae β (ep L e a)=f6 L e (ae β a):=by
 unfold ep f6
 rw[cD,List.map_map]
 apply List.map_congr_left
 intro i _
 simp only[Function.comp,List.getD_eq_getElem?_getD,bQ]
 cases a[i]? with
 |none=>rfl
 |some v=>rfl
theorem I8{n:Nat}{a:List SV}(h:bf n a)(L:SE->List Nat)(e:SE):bf n (ep L e a):=by
 rw[eA]
 intro v hv
 simp only[ep,List.mem_map]at hv
 obtain⟨i,_,rfl⟩:=hv
 rw[List.getD_eq_getElem?_getD]
 cases hx:a[i]? with
 |none=>trivial
 |some v=>exact ik h hx
theorem tC{n:Nat}{l:List Nat}{svs:List SV}(h:bf n svs):bf n ((l.zip svs).map (·.2)):=by
 rw[eA]at *
 intro v hv
 simp only[List.mem_map]at hv
 obtain⟨p,hp,rfl⟩:=hv
 exact h p.2 (List.of_mem_zip hp).2
theorem pb{P:Program}{body:Code}{L:SE->List Nat}{N:Nat}{J:Nat->List Value->World->Prop}{QX:SE->List Value->World->Prop}
  (hround:∀n lv w,J n lv w->lv.length=(L .normal).length->∃(hk:Hooks) (fuel:Nat) (f₀:FuncId) (β0:Nat->Nat) (n0:Nat) (svs:List SV) (s:SS) (β:Nat->Nat),lv=ae β svs /\
   St { P:=P,β0:=β0,n0:=n0,Q:=fH J QX n } β s w/\bf s.n svs /\
   ∀g,(aK P hk fuel f₀ body (az ((L .normal).zip svs) g N 0) (fun e a s=>.leaf e (ep L e a) s) s).holds { P:=P,β0:=β0,n0:=n0,Q:=fH J QX n })
  (hL:∀i∈L .normal,i<N) (hd:(L .normal).Nodup) :
  ∀n vs w,vs.length=N->J n (f6 L .normal vs) w->LW P body (fun e a' w'=>∃e' vs',e=SE.exit' e'/\a'=Cm vs'/\vs'.length=N/\QX e' (f6 L e' vs') w') (Cm vs) w:=by
 intro n
 induction n using Nat.strongRecOn with
 |ind n ih=>
  intro vs w hN hJ
  obtain⟨hk,fuel,f₀,β0,n0,svs,s,β,hlv,hst,hok,hh⟩:=hround n _ w hJ (by simp[f6])
  have hlen:svs.length=(L .normal).length:=by
   have:=congrArg List.length hlv
   simpa [f6,av] using this.symm
  have hfr:vs=ae β (az ((L .normal).zip svs) (fun i=>vs.getD i undef) N 0):=by
   refine qo hN fun p hp=>?_
   obtain⟨k,hk1,hk2⟩:=List.mem_iff_getElem.1 hp
   simp only[List.length_zip]at hk1
   rw[List.getElem_zip]at hk2
   have h1:(f6 L .normal vs)[k]?=some (vs.getD p.1 undef):=by
    simp only[f6,List.getElem?_map]
    rw[List.getElem?_eq_getElem (show k<(L .normal).length by omega)]
    simp[<- hk2]
   have h2:(ae β svs)[k]?=some (p.2.den β):=by
    rw[bQ,List.getElem?_eq_getElem (show k<svs.length by omega)]
    simp[<- hk2]
   rw[hlv,h2]at h1
   have hlt:p.1<vs.length:=by
    rw[hN]
    refine hL _ ?_
    rw[<- hk2]
    exact List.getElem_mem _
   rw[List.getElem?_eq_getElem hlt]
   simp only[Option.some.injEq]at h1
   rw[h1]
   simp[List.getD_eq_getElem?_getD,hlt]
  have hfok:bf s.n (az ((L .normal).zip svs) (fun i=>vs.getD i undef) N 0):=ii (tC hok) _ _ _
  have key:=oE (Γ:={ P:=P,β0:=β0,n0:=n0,Q:=fH J QX n }) fuel f₀ body _ _ s β w (hh (fun i=>vs.getD i undef)) hst hfok
  rw[dq,<- hfr]at key
  refine LW.round (Code.wp_mono ?_ key)
  rintro e a' w' ⟨e',vs',s',β',rfl,rfl,h2,h3,h4,h5⟩
  have hq:=h5 β' w' h2.st (I8 h3 _ _)
  rw[FF]at hq
  have hl':(ae β' vs').length=N:=by rw[av,h4,bS]
  cases e' with
  |normal=>
   obtain⟨n',hn,hI'⟩:=hq
   exact ih n' hn _ _ hl' hI'
  |exit i=>exact⟨.exit i,_,rfl,rfl,hl',hq⟩
  |goto i=>exact⟨.goto i,_,rfl,rfl,hl',hq⟩
  |ret=>exact⟨.ret,_,rfl,rfl,hl',hq⟩
theorem eR{N:Nat}{vs:List Value}(hn:vs.length=N){slots:List Nat}{svs:List SV}{β:Nat->Nat}(h:slots.map (fun i=>vs.getD i undef)=ae β svs)(hlt:∀i∈slots,i<N) :
  vs=ae β (az (slots.zip svs) (fun i=>vs.getD i undef) N 0):=by
 have hlen:svs.length=slots.length:=by
  have:=congrArg List.length h
  simpa [av] using this.symm
 refine qo hn fun p hp=>?_
 obtain⟨k,hk1,hk2⟩:=List.mem_iff_getElem.1 hp
 simp only[List.length_zip]at hk1
 rw[List.getElem_zip]at hk2
 have h1:(slots.map (fun i=>vs.getD i undef))[k]?=some (vs.getD p.1 undef):=by
  simp only[List.getElem?_map]
  rw[List.getElem?_eq_getElem (show k<slots.length by omega)]
  simp[<- hk2]
 have h2:(ae β svs)[k]?=some (p.2.den β):=by
  rw[bQ,List.getElem?_eq_getElem (show k<svs.length by omega)]
  simp[<- hk2]
 rw[h,h2]at h1
 have hlt':p.1<vs.length:=by
  rw[hn]
  refine hlt _ ?_
  rw[<- hk2]
  exact List.getElem_mem _
 rw[List.getElem?_eq_getElem hlt']
 simp only[Option.some.injEq]at h1
 rw[h1]
 simp[List.getD_eq_getElem?_getD,hlt']
def eO(key:Nat):Code->Option Code
 | .seq a b=>(match eO key a with
  |some c=>some c
  |none=>eO key b)
 | .cond _ a b=>(match eO key a with
  |some c=>some c
  |none=>eO key b)
 | .block _ c=>eO key c
 | .loop c=>if da c=key then some c else eO key c
 | .scope c=>eO key c
 |_=>none
def ar(P:Program)(f:FuncId)(key:Nat):Code:=
 match P.funcs[f]? with
 |some fn=>(match fn.body with
  |some b=>(eO key b).getD .skip
  |none=>.skip)
 |none=>.skip
end
section
open Go.RowKit
theorem ax{n:Int}(h0:0<=n)(h1:n<2^63):i64.wrap n=n:=ng h0 h1
section
variable {Γ:Ctx}{s:SS}{w:World}
theorem ah{t t':T}(h:t=t')(h':t'.holds Γ):t.holds Γ:=h ▸ h'
theorem af{b:Bool}{t f:T}(h1:b=true->t.holds Γ)(h2:b=false->f.holds Γ):(T.split b t f).holds Γ:=⟨h1,h2⟩
theorem aa{p:Prop}{t:T}(h1:p)(h2:t.holds Γ):(T.need p t).holds Γ:=⟨h1,h2⟩
theorem aE{q:Question}{k:Nat->T}(h:∀c,(∃t,c=q.cut t)->(k c).holds Γ):(T.choose q k).holds Γ:=fun t=>h _ ⟨t,rfl⟩
structure Fine (w:World) (s:SS):Prop where
 ext:s.ext=true
 below:Below w.heap.size w s.w0
 pre:∀b∈s.pre,w.heap.size<=b
theorem Fine.start(w:World)(objs:List SObj):Fine w (SS.mk objs [] true w []):=⟨rfl,Below.refl _ _,by simp⟩
theorem Fine.at(w:World):Fine w (SS.at w):=⟨rfl,Below.refl _ _,by simp[SS.at]⟩
theorem Fine.mk'{w w0:World}{objs:List SObj}{bs:List Nat}(hb:Below w.heap.size w w0)(hp:∀b∈bs,w.heap.size<=b):Fine w (SS.mk objs [] true w0 bs):=⟨rfl,hb,hp⟩
theorem Fine.nil{w w0:World}{objs:List SObj}(hb:Below w.heap.size w w0):Fine w (SS.mk objs [] true w0 []):=⟨rfl,hb,by simp⟩
theorem C3{e:SE}{vs:List SV}(hf:Fine w s)(h:∀β w',St Γ β s w'->Below w.heap.size w w'->Γ.Q e (ae β vs) w'):(T.leaf e vs s).holds Γ:=
 fun β w' hs _=>h β w' hs ((hs.old hf.ext).belowB hf.below (Nat.le_refl _) hf.pre)
theorem eK{f:FuncId}{args:List SV}{X:Type}{out:X->SV×List SObj}{k:X->World->List Nat->T}{R:X->World->World->Prop}(hf:Fine w s)
  (hout:∀x,(out x).2=s.objs/\(out x).1.ok s.n)
  (hc:∀β w0,St Γ β s w0->Old β s w0->Below w.heap.size w w0->Calls Γ.P f (ae β args).toArray w0 fun e w'=>∃x,e=.returned ((out x).1.den β)/\Below w0.heap.size w0 w'/\R x w0 w')
  (hk:∀x w0 w' bs,Below w.heap.size w w0->R x w0 w'->Below w0.heap.size w0 w'->Below w.heap.size w w'->(∀b∈bs,w.heap.size<=b)->(k x w' bs).holds Γ):(T.call f args s X out k).holds Γ:=
 ys hf.ext hf.below (Nat.le_refl _) hf.pre hout hc hk
end
def bF(Q:Value->World->Prop)(w:World)(e:Ending)(w':World):Prop:=∃v,e=.returned v/\Q v w'/\Below w.heap.size w w'
theorem aH{P:Program}{hk:Hooks}{n:Nat}{f:FuncId}{args:List SV}{w:World}{Q:Value->World->Prop}(hargs:bf 0 args)
  (h:(am P hk n f args (SS.at w)).holds (cS P (bC fun v w'=>Q v w'/\Below w.heap.size w w'))):Calls P f (ae id args).toArray w (bF Q w):=
 (yf hargs h).mono fun _ _ ⟨v,he,h1,h2⟩=>⟨v,he,h1,h2⟩
theorem aN{P:Program}{Q:Value->World->Prop}{w:World}{v:SV}{s:SS}(hf:Fine w s)(h:∀β w',St (cS P (bC fun v w'=>Q v w'/\Below w.heap.size w w')) β s w'->Below w.heap.size w w'->Q (v.den β) w') :
  (T.leaf .ret [v] s).holds (cS P (bC fun v w'=>Q v w'/\Below w.heap.size w w')):=
 C3 hf fun β w' hs hb=>⟨_,rfl,h β w' hs hb,hb⟩
def rQ{α:Type}(svs:α->List SV)(μ:α->Nat)(I:α->World->Prop)(E:SE->List Value->World->Prop)(w:World)(x:α):SE->List Value->World->Prop:=fun e lv w'=>
 match e with
 | .normal=>∃y,μ y<μ x/\lv=ae id (svs y)/\I y w'/\Below w.heap.size w w'
 |e=>E e lv w'/\Below w.heap.size w w'
theorem KC{Γ:Ctx}{s:SS}{w:World}{f₁:FuncId}{body:Code}{a:List SV}{X:Type}{out:X->SE×List SV×List SObj}{k:X->World->List Nat->T}
  {Y:Type}{out':Y->SE×List SV×List SObj}{k':Y->World->List Nat->T}(hf:Fine w s)
  (L:SE->List Nat) {α:Type}(svs:α->List SV) (μ:α->Nat) (I:World->α->World->Prop) (E:World->SE->List Value->World->Prop) (hk:α->Hooks) (fuel N:Nat) (hN:a.length=N)
  (hL:∀i∈L .normal,i<N) (hd:(L .normal).Nodup) (hok:∀x,bf 0 (svs x))
  (hround:∀w0 x w1 g,Below w.heap.size w w0->I w0 x w1->Below w0.heap.size w0 w1->Below w.heap.size w w1 ->
   (aK Γ.P (hk x) fuel f₁ body (az ((L .normal).zip (svs x)) g N 0) (fun e a s=>.leaf e (ep L e a) s) (SS.at w1)).holds (cS Γ.P (rQ svs μ (I w0) (E w0) w0 x)))
  (hstart:∀β w0,St Γ β s w0->Below w.heap.size w w0->∃x,f6 L .normal (ae β a)=ae id (svs x)/\I w0 x w0)
  (hend:∀β w0,St Γ β s w0->Below w.heap.size w w0->∀e vs w',E w0 e (f6 L e vs) w'->Below w0.heap.size w0 w'->Below w.heap.size w w'->vs.length=N ->
   (∃x,e=(out x).1/\vs=ae β (out x).2.1/\(out x).2.2=s.objs/\bf s.n (out x).2.1 /\
    ∀bs,(∀b∈bs,w.heap.size<=b)->(k x w' bs).holds Γ) ∨
   (∃x,e=(out' x).1/\vs=ae β (out' x).2.1/\(out' x).2.2=s.objs/\bf s.n (out' x).2.1 /\
    ∀bs,(∀b∈bs,w.heap.size<=b)->(k' x w' bs).holds Γ)):(T.loop f₁ body a s X out k Y out' k').holds Γ:=by
 subst hN
 intro β w0 hs ha
 have o:=hs.old hf.ext
 have hbw:=o.belowB hf.below (Nat.le_refl _) hf.pre
 have hz:=hbw.size
 obtain⟨x0,hx0,hI0⟩:=hstart β w0 hs hbw
 have hlw:=pb (P:=Γ.P) (body:=body) (L:=L) (N:=a.length)
  (J:=fun n lv w'=>∃x,n=μ x/\lv=ae id (svs x)/\I w0 x w'/\Below w0.heap.size w0 w')
  (QX:=fun e lv w'=>E w0 e lv w'/\Below w0.heap.size w0 w')
  (by
   rintro n lv w1 ⟨x,rfl,rfl,hI,hb⟩ _
   refine⟨hk x,fuel,f₁,id,0,svs x,SS.at w1,id,rfl,St.start _ rfl _ _,bu (Nat.zero_le _) _ (hok x),fun g=>?_⟩
   have h:=hround w0 x w1 g hbw hI hb (hbw.trans (hb.mono hz))
   have e1:fH (fun n lv w'=>∃x,n=μ x/\lv=ae id (svs x)/\I w0 x w'/\Below w0.heap.size w0 w') (fun e lv w'=>E w0 e lv w'/\Below w0.heap.size w0 w') (μ x)=rQ svs μ (I w0) (E w0) w0 x:=by
    funext e lv w'
    cases e with
    |normal=>
     simp only[fH,rQ,eq_iff_iff]
     constructor
     ·rintro⟨n',hn,y,rfl,h1,h2,h3⟩;exact⟨y,hn,h1,h2,h3⟩
     ·rintro⟨y,hn,h1,h2,h3⟩;exact⟨_,hn,y,rfl,h1,h2,h3⟩
    |exit i=>rfl
    |goto i=>rfl
    |ret=>rfl
   rw[e1]
   exact h)
  hL hd (μ x0) _ w0 (av β a) ⟨x0,rfl,hx0,hI0,Below.refl _ _⟩
 refine Code.wp_mono ?_ (LW.loop hlw)
 rintro e a' w' ⟨e',vs',rfl,rfl,hlen,hq,hb0⟩
 rcases hend β w0 hs hbw e' vs' w' hq hb0 (hbw.trans (hb0.mono hz)) hlen with⟨x,rfl,rfl,ho,hok,hh⟩ |⟨x,rfl,rfl,ho,hok,hh⟩
 ·refine .inl ⟨x,β,ac β s.n,rfl,rfl,⟨?_,?_,fun _ _=>rfl⟩,?_,by rw[av]at hlen;exact hlen,hh _ (dx o hf.below (Nat.le_refl _) hf.pre)⟩
  ·rw[ho];exact hs.rebase hb0
  ·simp[iV,SS.n,ho]
  ·rw[ho];exact hok
 ·refine .inr ⟨x,β,ac β s.n,rfl,rfl,⟨?_,?_,fun _ _=>rfl⟩,?_,by rw[av]at hlen;exact hlen,hh _ (dx o hf.below (Nat.le_refl _) hf.pre)⟩
  ·rw[ho];exact hs.rebase hb0
  ·simp[iV,SS.n,ho]
  ·rw[ho];exact hok
def bK(N:Nat)(X:Type)(e:SE)(sl:List Nat)(f:X->List SV)(Y:Type)(e':SE)(sl':List Nat)(f':Y->List SV):LoopHook where
 X:=X×(Nat->Value)
 out:=fun _ t x=>(e,az (sl.zip (f x.1)) x.2 N 0,t.objs)
 Y:=Y×(Nat->Value)
 out':=fun _ t x=>(e',az (sl'.zip (f' x.1)) x.2 N 0,t.objs)
theorem tt{m:Nat}{slots:List Nat}{svs:List SV}(h:bf 0 svs)(g:Nat->Value)(n i:Nat):bf m (az (slots.zip svs) g n i):=
 ii (tC (bu (Nat.zero_le _) _ h)) g n i
theorem fm{P:Program}{β0:Nat->Nat}{n0:Nat}{Q:SE->List Value->World->Prop}{s:SS}{w:World}{f₁:FuncId}{body:Code}{a:List SV}{a0:List SV}{s0:SS}
  {N:Nat}{X:Type}{e₁:SE}{sl:List Nat}{f:X->List SV}{Y:Type}{e₂:SE}{sl':List Nat}{f':Y->List SV}
  {k:X×(Nat->Value)->World->List Nat->T}{k':Y×(Nat->Value)->World->List Nat->T}(hf:Fine w s)
  (L:SE->List Nat) {α:Type}(svs:α->List SV) (μ:α->Nat) (I:World->α->World->Prop) (E:World->SE->List Value->World->Prop) (hk:α->Hooks) (fuel:Nat) (hN:a.length=N)
  (hL:∀i∈L .normal,i<N) (hd:(L .normal).Nodup) (hok:∀x,bf 0 (svs x)) (hobj:s0.objs=s.objs)
  (h1:L e₁=sl) (h2:L e₂=sl') (hl1:∀i∈sl,i<N) (hl2:∀i∈sl',i<N) (hf1:∀x,bf 0 (f x)) (hf2:∀x,bf 0 (f' x))
  (hround:∀w0 x w1 g,Below w.heap.size w w0->I w0 x w1->Below w0.heap.size w0 w1->Below w.heap.size w w1 ->
   (aK P (hk x) fuel f₁ body (az ((L .normal).zip (svs x)) g N 0) (fun e a s=>.leaf e (ep L e a) s) (SS.at w1)).holds (cS P (rQ svs μ (I w0) (E w0) w0 x)))
  (hstart:∀β w0,St { P:=P,β0:=β0,n0:=n0,Q:=Q } β s w0->Below w.heap.size w w0->∃x,f6 L .normal (ae β a)=ae id (svs x)/\I w0 x w0)
  (hend:∀β w0,St { P:=P,β0:=β0,n0:=n0,Q:=Q } β s w0->Below w.heap.size w w0->∀e lv w',E w0 e lv w'->Below w0.heap.size w0 w'->Below w.heap.size w w' ->
   (∃x,e=e₁/\lv=ae id (f x)/\∀g bs,(∀b∈bs,w.heap.size<=b)->(k (x,g) w' bs).holds { P:=P,β0:=β0,n0:=n0,Q:=Q }) ∨
   (∃x,e=e₂/\lv=ae id (f' x)/\∀g bs,(∀b∈bs,w.heap.size<=b)->(k' (x,g) w' bs).holds { P:=P,β0:=β0,n0:=n0,Q:=Q })) :
  (T.loop f₁ body a s (LoopHook.X (bK N X e₁ sl f Y e₂ sl' f')) (LoopHook.out (bK N X e₁ sl f Y e₂ sl' f') a0 s0) k (LoopHook.Y (bK N X e₁ sl f Y e₂ sl' f')) (LoopHook.out' (bK N X e₁ sl f Y e₂ sl' f') a0 s0) k').holds
   {P:=P,β0:=β0,n0:=n0,Q:=Q }:=by
 subst h1 h2
 refine KC (Γ:={ P:=P,β0:=β0,n0:=n0,Q:=Q }) hf L svs μ I E hk fuel N hN hL hd hok hround hstart ?_
 intro β w0 hst hb e vs w' hE hb0 hb1 hlen
 rcases hend β w0 hst hb e _ w' hE hb0 hb1 with⟨x,rfl,hlv,hh⟩ |⟨x,rfl,hlv,hh⟩
 ·refine .inl ⟨(x,fun i=>vs.getD i undef),rfl,?_,hobj,tt (hf1 x) _ _ _,fun bs hbs=>hh _ bs hbs⟩
  exact eR hlen (by rw[<- cY (hf1 x) β]at hlv;exact hlv) hl1
 ·refine .inr ⟨(x,fun i=>vs.getD i undef),rfl,?_,hobj,tt (hf2 x) _ _ _,fun bs hbs=>hh _ bs hbs⟩
  exact eR hlen (by rw[<- cY (hf2 x) β]at hlv;exact hlv) hl2
theorem dM{P:Program}{α:Type}{svs:α->List SV}{μ:α->Nat}{I:α->World->Prop}{E:SE->List Value->World->Prop}{w:World}{x:α}{vs:List SV}{s:SS}(hf:Fine w s)
  (h:∀β w',St (cS P (rQ svs μ I E w x)) β s w'->Below w.heap.size w w'->∃y,μ y<μ x/\ae β vs=ae id (svs y)/\I y w'):(T.leaf .normal vs s).holds (cS P (rQ svs μ I E w x)):=
 C3 hf fun β w' hs hb=>let ⟨y,h1,h2,h3⟩:=h β w' hs hb;⟨y,h1,h2,h3,hb⟩
theorem cy{P:Program}{α:Type}{svs:α->List SV}{μ:α->Nat}{I:α->World->Prop}{E:SE->List Value->World->Prop}{w:World}{x:α}{e:SE}{vs:List SV}{s:SS}(hf:Fine w s)(he:e≠.normal)
  (h:∀β w',St (cS P (rQ svs μ I E w x)) β s w'->Below w.heap.size w w'->E e (ae β vs) w'):(T.leaf e vs s).holds (cS P (rQ svs μ I E w x)):=
 C3 hf fun β w' hs hb=>by
  have:=h β w' hs hb
  cases e with
  |normal=>exact absurd rfl he
  |exit i=>exact⟨this,hb⟩
  |goto i=>exact⟨this,hb⟩
  |ret=>exact⟨this,hb⟩
def SeqAt{α:Type}(R:Addr->α->Prop)(size B:Nat)(A:Option Addr)(n:Nat)(l:List α):Prop:=
 n=l.length/\(0<n->∃a,A=some a/\a.block<B/\∀i x,l[i]?=some x->R (a.add (i*size)) x)
theorem add_add(a:Addr)(i j:Nat):(a.add i).add j=a.add (i+j):=by
 unfold Addr.add
 by_cases hi:i=0 <;> by_cases hj:j=0 <;> simp[hi,hj,Nat.add_assoc]
theorem add_zero(a:Addr):a.add 0=a:=rfl
theorem cM{B:Nat}{w w':World}(h:Below B w w'){a:Addr}(ha:a.block<B):w'.cell? a=w.cell? a:=by
 simp only[World.cell?,h.block _ ha]
theorem SeqAt.imp{α:Type}{R R':Addr->α->Prop}{size B B':Nat}{A:Option Addr}{n:Nat}{l:List α}(h:SeqAt R size B A n l)(hB:B<=B')(hR:∀a x,a.block<B->R a x->R' a x):SeqAt R' size B' A n l:=
 ⟨h.1,fun hn=>by
  obtain⟨a,ha,hb,hx⟩:=h.2 hn
  exact⟨a,ha,Nat.lt_of_lt_of_le hb hB,fun i x hi=>hR _ _ (by rw[aD];exact hb) (hx i x hi)⟩⟩
theorem SeqAt.get{α:Type}{R:Addr->α->Prop}{size B:Nat}{A:Option Addr}{n:Nat}{l:List α}(h:SeqAt R size B A n l){i:Nat}(hi:i<n) :
  ∃a x,A=some a/\a.block<B/\l[i]?=some x/\R (a.add (i*size)) x:=by
 obtain⟨a,ha,hb,hx⟩:=h.2 (by omega)
 have hl:i<l.length:=by have:=h.1;omega
 exact⟨a,l[i],ha,hb,List.getElem?_eq_getElem hl,hx i _ (List.getElem?_eq_getElem hl)⟩
def Bts(w:World)(B:Nat)(A:Option Addr)(n:Nat)(l:List UInt8):Prop:=SeqAt (fun a b=>w.cell? a=some (.int .u8 (b.toNat:Int))) 1 B A n l
theorem Bts.below{w w':World}{B B':Nat}{A:Option Addr}{n:Nat}{l:List UInt8}(h:Bts w B A n l)(hb:Below B w w')(hB:B<=B'):Bts w' B' A n l:=
 h.imp hB fun a x ha hx=>by rw[cM hb ha];exact hx
theorem Bts.canBytes{w:World}{B:Nat}{A:Option Addr}{n:Nat}{l:List UInt8}(h:Bts w B A n l)(hB:B<=w.heap.size){pre:List Nat}(hp:∀b∈pre,B<=b):canBytes w pre A n:=by
 rcases Nat.eq_zero_or_pos n with h0 |h0
 ·exact .inl h0
 ·obtain⟨a,ha,hb,hx⟩:=h.2 h0
  refine .inr ⟨a,ha,by omega,fun hm=>by have:=hp _ hm;omega,fun i hi=>?_⟩
  have hl:i<l.length:=by have:=h.1;omega
  have:=hx i _ (List.getElem?_eq_getElem hl)
  rw[Nat.mul_one]at this
  exact⟨_,this⟩
theorem Bts.bytesAt{w:World}{B:Nat}{A:Option Addr}{n:Nat}{l:List UInt8}(h:Bts w B A n l):bytesAt w A n=⟨l.toArray⟩:=by
 unfold Rx.bytesAt
 congr 1
 apply congrArg
 apply List.ext_getElem?
 intro i
 have hn:=h.1
 by_cases hi:i<n
 ·obtain⟨a,ha,hb,hx⟩:=h.2 (by omega)
  have hl:i<l.length:=by omega
  have h1:=hx i _ (List.getElem?_eq_getElem hl)
  rw[Nat.mul_one]at h1
  simp[hi,ha,ai,h1,hl]
 ·rw[List.getElem?_eq_none (by simp;omega),List.getElem?_eq_none (by omega)]
theorem Bts.valsAt{w:World}{B:Nat}{A:Option Addr}{n:Nat}{l:List UInt8}(h:Bts w B A n l):valsAt w A n=l.map fun b=>Value.int .u8 (b.toNat:Int):=by
 unfold Rx.valsAt
 apply List.ext_getElem?
 intro i
 have hn:=h.1
 by_cases hi:i<n
 ·obtain⟨a,ha,hb,hx⟩:=h.2 (by omega)
  have hl:i<l.length:=by omega
  have h1:=hx i _ (List.getElem?_eq_getElem hl)
  rw[Nat.mul_one]at h1
  simp[hi,ha,ai,h1,hl]
 ·rw[List.getElem?_eq_none (by simp;omega),List.getElem?_eq_none (by simp;omega)]
end
end Go.Rx
