/- Joined texts: S12b M6t Sh3 S10 S4 K42 K46 K49 K52 K54 K53 S1k S16 K55 K50 M18s M5 K56. -/
import Derived.Test.YtnklanajebphpaaGreatDoorW10
import Derived.Test.YtnklanajebphpaaGreatDoorW3
import Derived.Shelf.LaysM
import Derived.Shelf.Strings.OnBuilder
import Derived.Shelf.Strings.Builder1
import Derived.Shelf.Strings.Builder2
import Derived.Test.YtnklanajebphpaaGreatDoorProg
import Derived.Test.YtnklanajebphpaaGreatDoorW4
import Derived.Test.YtnklanajebphpaaGreatDoorChecked
import Derived.Test.YtnklanajebphpaaGreatDoorW2
import Derived.WalkKit
import Derived.Defers
import Derived.Recover
import Derived.Test.YtnklanajebphpaaGreatDoorW9
import Derived.Test.YtnklanajebphpaaGreatDoorW6
set_option maxRecDepth 100000
set_option maxHeartbeats 4000000
set_option linter.unusedVariables false
set_option linter.unusedSimpArgs false
namespace Go.Proofs.YtnklanajebphpaaGreatDoor
open IntKind
section
open Go Go.RowKit Go.Rx
def sL(b g l n:Nat)(bs:List Value)(w:World):Prop:=∃cap cur lr,w.heap[b]?=some (.cells #[.slice (some ⟨g,0,none⟩) (l+n) cap,.int .i64 0,.int .i8 lr] 112 (0,0))/\w.heap[g]?=some (.cells cur 5 (0,0))/\l+n<=cap/\cap<=maxLen/\cur.size=cap/\cur.toList.take l=bs/\g≠b
theorem L2(B b n:Nat)(r:Option Nat)(bs:List Value)(w:World)(h:Lib.IsBuffer 112 5 B b bs w)(hr:RowOf b r w)(hn:1<=n) :
  Calls Tryz.prog 93 #[.pointer (some ⟨b,0,none⟩),.int .i64 n] w fun e w'=>
   (e=.returned (.tuple #[.int .i64 bs.length,.bool true])/\∃g,sL b g bs.length n bs w'/\some g=r/\B<=g/\w.grownBy w' (some b)/\Below B w w') ∨
   (e=.returned (.tuple #[.int .i64 0,.bool false])/\w'=w/\Lib.NoRoom b n w):=by
 obtain⟨hB,lr,hc⟩:=h.cases
 obtain⟨v,hv,hvr⟩:=hr
 rcases hc with⟨rfl,hbk⟩ |⟨g,cap,cur,hbk,hBg,hg,hnc,hcm,hcs,htk,hgb⟩
 ·have c0:w.cell? ⟨b,0,none⟩=some (.slice none 0 0):=by rw[Lib.cell_of_heap hbk];rfl
  refine(zV b none 0 0 n w c0 (Nat.le_refl _) (Nat.zero_le _) (by omega)).mono ?_
  rintro e w' ⟨rfl,rfl⟩
  exact Or.inr ⟨rfl,rfl,none,0,0,c0,by omega⟩
 ·have c0:w.cell? ⟨b,0,none⟩=some (.slice (some ⟨g,0,none⟩) bs.length cap):=by rw[Lib.cell_of_heap hbk];rfl
  have f0:=Lib.frozen_of_heap hbk 0
  rw[c0]at hv
  cases hv
  by_cases hroom:n<=cap-bs.length
  ·refine(JQ b _ bs.length cap n w c0 f0 hnc hcm hroom).mono ?_
   rintro e w' ⟨rfl,rfl⟩
   exact Or.inl ⟨rfl,g,⟨cap,cur,lr,Lib.heap_setCell_same (i:=0) hbk _,by rw[Below.heap_setCell _ _ _ _ hgb];exact hg,by omega,hcm,hcs,htk,hgb⟩,hvr,hBg,Lib.grownBy_setCell w b 0 _,(Below.refl B w).setCell (p:=⟨b,0,none⟩) hB _⟩
  ·refine(zV b _ bs.length cap n w c0 hnc hcm (by omega)).mono ?_
   rintro e w' ⟨rfl,rfl⟩
   exact Or.inr ⟨rfl,rfl,_,_,_,c0,by omega⟩
theorem Ix(B b n:Nat)(r:Option Nat)(bs:List Value)(w:World)(h:Lib.IsBuffer 112 5 B b bs w)(hr:RowOf b r w)(hnr:Lib.NoRoom b n w)(hBw:B<=w.heap.size)(h1:∀v∈bs,v.oneCell'=true)(hn:1<=n)(h0:bs=[]->n<=64/\r=none)(hlim:bs.length+n<=140737488355328) :
  Calls Tryz.prog 94 #[.pointer (some ⟨b,0,none⟩),.int .i64 n] w fun e w'=>e=.returned (.int .i64 bs.length)/\∃g,sL b g bs.length n bs w'/\w.heap.size<=g/\w.grownBy w' (some b)/\Below B w w':=by
 obtain⟨ao,l,cap0,hc,hlt⟩:=hnr
 obtain⟨hB,lr,hcs⟩:=h.cases
 obtain⟨v,hv,hvr⟩:=hr
 rcases hcs with⟨rfl,hbk⟩ |⟨g,cap,cur,hbk,hBg,hg,hnc,hcm,hcs,htk,hgb⟩
 ·have hlt:=Lib.lt_of_heap hbk
  refine(Bo B b n lr w hB hBw hbk hn (h0 rfl).1).mono ?_
  rintro e w' ⟨rfl,q1,q2,N,c,cur,q3,q4,q5,q6,q7,q8⟩
  exact⟨rfl,N,⟨c,cur,lr,by simpa using q3,q5,by simpa using q6,q7,q8,by simp,by omega⟩,q4,q2,q1⟩
 ·have c0:w.cell? ⟨b,0,none⟩=some (.slice (some ⟨g,0,none⟩) bs.length cap):=by rw[Lib.cell_of_heap hbk];rfl
  have hlt':=Lib.lt_of_heap hbk
  rw[c0]at hc hv
  cases hc
  cases hv
  have hne:bs.length≠0:=fun e=>by
   have:=(h0 (List.eq_nil_of_length_eq_zero e)).2
   rw[this]at hvr
   cases hvr
  refine(Bp B b g bs.length _ n lr cur w hB hBw hbk hBg hg hne hnc hcm hcs hgb (by rw[htk];exact h1) hn hlt hlim).mono ?_
  rintro e w' ⟨rfl,q1,q2,N,c,cur',q3,q4,q5,q6,q7,q8,q9⟩
  exact⟨rfl,N,⟨c,cur',lr,q3,q5,q6,q7,q8,by rw[q9,htk],by omega⟩,q4,q2,q1⟩
theorem FS{B b g n:Nat}{r:Option Nat}{bs cs:List Value}{w W1:World}(hB:B<=b)(hr:sL b g bs.length n bs W1)(hn:cs.length=n)(hBg:B<=g)(hgr:w.grownBy W1 (some b))(hb:Below B w W1)(hwho:some g=r∨w.heap.size<=g) :
  ∃cap cur,W1.heap[g]?=some (.cells cur 5 (0,0))/\W1.cell? ⟨b,0,none⟩=some (.slice (some ⟨g,0,none⟩) (bs.length+n) cap)/\bs.length+n<=cap/\cap<=maxLen/\cur.size=cap /\
   (Lib.IsBuffer 112 5 B b (bs++cs) (W1.setRow g (cur.toList.take bs.length++cs++cur.toList.drop (bs.length+cs.length)).toArray)/\Below B w (W1.setRow g (cur.toList.take bs.length++cs++cur.toList.drop (bs.length+cs.length)).toArray) /\
   RowOf b (some g) (W1.setRow g (cur.toList.take bs.length++cs++cur.toList.drop (bs.length+cs.length)).toArray) /\
   ∀k,k<w.heap.size->k≠b->some k≠r->(W1.setRow g (cur.toList.take bs.length++cs++cur.toList.drop (bs.length+cs.length)).toArray).heap[k]?=w.heap[k]?):=by
 obtain⟨cap,cur,lr,h1,h2,h3,h4,h5,h6,h7⟩:=hr
 subst hn
 obtain⟨r1,r2⟩:=Lib.written_end (news:=cs) (l:=bs.length) hB h1 hBg h2 h4 h5 h7 h3
 have c0:W1.cell? ⟨b,0,none⟩=some (.slice (some ⟨g,0,none⟩) (bs.length+cs.length) cap):=by rw[Lib.cell_of_heap h1];rfl
 refine⟨cap,cur,h2,c0,h3,h4,h5,by rw[h6]at r1 ⊢;exact r1,hb.trans r2,⟨.slice (some ⟨g,0,none⟩) (bs.length+cs.length) cap,?_,rfl⟩,fun k hk hkb hkr=>?_⟩
 ·rw[World.cell?_of_block (w:=W1) (a:=⟨b,0,none⟩) (setRow_other _ _ _ _ (Ne.symm h7))]
  exact c0
 ·rw[setRow_other _ _ _ _ (fun e=>by
   subst e
   rcases hwho with h |h
   ·exact hkr h
   ·omega)]
  exact hgr.block k hk (fun e=>hkb (by simpa using e))
theorem pK(B b:Nat)(r:Option Nat)(bs cs:List Value)(a:Addr)(n c:Nat)(w:World)(h:Lib.IsBuffer 112 5 B b bs w)(hr:RowOf b r w)(hBw:B<=w.heap.size)(h1:∀v∈bs,v.oneCell'=true)(hn:cs.length=n)(hn1:1<=n)(h0:bs=[]->n<=64/\r=none)
  (hab:a.block≠b) (hsrc:∀j v,cs[j]?=some v->w.cell? (a.add j)=some v) (h1c:∀v∈cs,v.oneCell'=true) (hlim:bs.length+n<=140737488355328) :
  Calls Tryz.prog 79 #[.pointer (some ⟨b,0,none⟩),.slice (some a) n c] w fun e w'=>e=.returned (.tuple #[.int .i64 n,.nilIface])/\Lib.IsBuffer 112 5 B b (bs++cs) w'/\Below B w w' /\
   (∃g,RowOf b (some g) w'/\(some g=r∨w.heap.size<=g))/\∀k,k<w.heap.size->k≠b->some k≠r->w'.heap[k]?=w.heap[k]?:=by
 obtain⟨hB,v0,lr,hbk,-,-⟩:=id h
 have c2:w.cell? ⟨b,2,none⟩=some (.int .i8 lr):=by rw[Lib.cell_of_heap hbk];rfl
 have f2:w.frozen? ⟨b,2,none⟩=false:=Lib.frozen_of_heap hbk 2
 have h':=h.setLast 0
 have hr':RowOf b r (w.setCell ⟨b,2,none⟩ (.int .i8 0)):=by
  obtain⟨v,hv,hvr⟩:=hr
  refine⟨v,?_,hvr⟩
  have hb2:=Lib.heap_setCell_same (i:=2) hbk (.int .i8 0)
  rw[Lib.cell_of_heap hbk]at hv
  rw[Lib.cell_of_heap hb2]
  exact hv
 have hbel0:Below B w (w.setCell ⟨b,2,none⟩ (.int .i8 0)):=(Below.refl B w).setCell (p:=⟨b,2,none⟩) hB _
 have hg0:w.grownBy (w.setCell ⟨b,2,none⟩ (.int .i8 0)) (some b):=Lib.grownBy_setCell w b 2 _
 have hsz0:(w.setCell ⟨b,2,none⟩ (.int .i8 0)).heap.size=w.heap.size:=by simp[World.setCell]
 have hinfo:(Tryz.prog.info? 5).map (·.size)=some 1:=by
  obtain⟨i0,hi,-,hz1,-⟩:=info_parts CH
  rw[hi];simp[hz1]
 clear hbk v0
 have key:∀W1 g,sL b g bs.length n bs W1->B<=g->(w.setCell ⟨b,2,none⟩ (.int .i8 0)).grownBy W1 (some b)->Below B (w.setCell ⟨b,2,none⟩ (.int .i8 0)) W1->(some g=r∨w.heap.size<=g) ->
   ∃cap,W1.cell? ⟨b,0,none⟩=some (.slice (some ⟨g,0,none⟩) (bs.length+n) cap)/\bs.length+n<=cap/\cap<=maxLen/\∃W2,(∀dLen dCap,dLen=n->(Builtin.copy_ #[22,22] 3 #[.slice (some ⟨g,bs.length,none⟩) dLen dCap,.slice (some a) n c]).run Tryz.prog W1=.ok (goInt n) W2) /\
    Lib.IsBuffer 112 5 B b (bs++cs) W2/\Below B w W2/\(∃g,RowOf b (some g) W2/\(some g=r∨w.heap.size<=g))/\∀k,k<w.heap.size->k≠b->some k≠r->W2.heap[k]?=w.heap[k]?:=by
  intro W1 g hrow hBg hgr hbe hwho
  have hgW:=Lib.grownBy_trans hg0 hgr
  obtain⟨cap,cur,q1,q2,q3,q4,q5,q6,q7,q8,q9⟩:=FS (cs:=cs) hB hrow hn hBg hgW (hbel0.trans hbe) hwho
  refine⟨cap,q2,q3,q4,_,fun dLen dCap hd=>?_,q6,q7,⟨g,q8,hwho⟩,q9⟩
  subst hd
  have hsrc1:∀j v,cs[j]?=some v->W1.cell? (a.add j)=some v:=fun j v hj=>hgW.cell (hsrc j v hj) (by rw[Lib.block_add];exact fun e=>hab (Option.some.inj e))
  have hcp:=run_copy_row (P:=Tryz.prog) W1 22 22 3 5 g bs.length dLen dCap a dLen c cur 5 cs Tryz.underlying22 hinfo q1 (by rw[hn];exact(Nat.min_self _).symm) hsrc1 (by omega) h1c
  rw[hn]at hcp
  rw[hn]
  exact hcp
 go_enter Tryz.func79,Tryz.ntmps79
 go_wp2_with fail
 refine(L2 B b n r bs _ h' hr' hn1).mono ?_
 rintro e W1 (⟨rfl,g,hrow,hgr,hBg,hgrow,hbe⟩ |⟨rfl,rfl,hnr⟩)
 ·obtain⟨cap,d0,hcap,hcm,W2,hcp,hfin⟩:=key W1 g hrow hBg hgrow hbe (.inl hgr)
  have hfin':=Lib.hid hfin
  clear h' hr' hbel0 hg0 hsz0 key hrow hgr hBg hgrow hbe hfin c2 f2
  unfold maxLen at hcm
  have hcp1:=hcp n (cap-bs.length) rfl
  have hne:¬cap=bs.length:=by omega
  go_wp2
  go_ret2
  exact⟨rfl,hfin'.out⟩
 ·go_wp2_with fail
  refine(Ix B b n r bs _ h' hr' hnr (by rw[hsz0];exact hBw) h1 hn1 h0 hlim).mono ?_
  rintro e W1 ⟨rfl,g,hrow,hge,hgrow,hbe⟩
  rw[hsz0]at hge
  obtain⟨cap,d0,hcap,hcm,W2,hcp,hfin⟩:=key W1 g hrow (by omega) hgrow hbe (.inr hge)
  have hfin':=Lib.hid hfin
  clear h' hr' hbel0 hg0 hsz0 key hrow hge hgrow hbe hfin c2 f2 hnr
  unfold maxLen at hcm
  have hcp1:=hcp n (cap-bs.length) rfl
  have hne:¬cap=bs.length:=by omega
  go_wp2
  go_ret2
  exact⟨rfl,hfin'.out⟩
end
section
open Go Go.Rx Go.RowKit
noncomputable abbrev vw(x0:(Hook.X (dn)))(n:Nat):List SV:=([(.slc 0 0 ((↑x0:Int).toNat) ((↑x0:Int).toNat) false false),(.int .u64 ((↑n:Int)) false),(.tup []),(.tup []),(.int .i64 0 true),(.int .i64 0 true)]++List.replicate 19 aA)
noncomputable abbrev vx(x0:(Hook.X (dn))):SObj:=(.ints .u8 (List.replicate (↑x0:Int).toNat (0:Int)) 5 0 0)
theorem HK(n:Nat)(w:World):am Tryz.prog Fk 200 81 [.int .u64 n false] (SS.at w) =
(.hc 89 [(.int .u64 ((↑n:Int)) false)] (SS.mk [] [] true w []) (dn) fun x0 w0 b0=>(.need ((0:Int)<=(↑x0:Int)/\(↑x0:Int)<=(↑x0:Int)/\(↑(1:Nat):Int)*(↑x0:Int)<=(2:Int)^48/\(↑x0:Int)<(2:Int)^63) (.loop 90 (ar Tryz.prog 90 3) (vw x0 n) (SS.mk [(vx x0)] [] true w0 b0) (LoopHook.X (l7)) (LoopHook.out (l7) (vw x0 n) (SS.mk [(vx x0)] [] true w0 b0)) (fun x1 w1 b1=>(.need ((0:Int)<=(↑x1.fst.i:Int)/\(↑x1.fst.i:Int)<(↑x1.fst.r:Int)) (.need (0+(↑x1.fst.i:Int).toNat*1<x1.fst.l.length) (.need (ap 0 0 (0+(↑x1.fst.i:Int).toNat*1) 1=true) (.need ((0:Int)<=i64.wrap ((↑x1.fst.i:Int)+(1:Int))/\i64.wrap ((↑x1.fst.i:Int)+(1:Int))<=(↑(↑x0:Int).toNat:Int)) (.leaf .ret [(.slc 0 (if(↑x0:Int).toNat=0 then 0 else 0) ((i64.wrap ((↑x1.fst.i:Int)+(1:Int))).toNat-0) ((↑x0:Int).toNat-0) false false)] (SS.mk [(.ints .u8 (x1.fst.l.set (0+(↑x1.fst.i:Int).toNat*1) (u8.wrap (↑x1.fst.x:Int))) 5 0 0)] [] true w1 b1))))))) (LoopHook.Y (l7)) (LoopHook.out' (l7) (vw x0 n) (SS.mk [(vx x0)] [] true w0 b0)) (fun x1 w1 b1=>(.bad "slice: no integer"))))):=by kernel_rfl
theorem NN(n:Nat)(w:World):(by have h:=HK n w;unfold vx vw at h;exact type_of% h):=HK n w
theorem Ea(n:Nat)(w:World)(hn:n<2^64):Calls Tryz.prog 81 #[.int .u64 n] w (bF (fun v w'=>∃A k c,v=.slice A k c/\k<=c/\Bts w' w'.heap.size A k (uv n)/\Fresh w A) w):=by
 refine aH (hk:=Fk) (n:=200) (args:=[.int .u64 n false]) ⟨trivial,trivial⟩ ?_
 rw[NN]
 refine o9 (fun r=>n<128^r/\1<=r/\r<=10) (Fine.start _ _) rfl (fun β w0 _=>xK n w0 hn) ?_
 rintro r w1 bs ⟨hr1,hr2,hr3⟩ hb hbs
 refine aa ⟨by omega,by omega,by omega,by omega⟩ ?_
 refine iJ (w:=w) (Fine.mk' hb hbs) rfl 1 rfl wE xJ dQ (fun z=>z.r-z.i) (fun _ z _=>z.r=r/\z.l.length=r/\z.i<r/\z.x<128^(r-z.i)/\(∀v∈z.l,0<=v/\v<256)/\((z.l.take z.i).map fun v=>UInt8.ofNat v.toNat)++uv z.x=uv n)
  (fun _ z _=>z.r=r/\z.l.length=r/\z.i<r/\z.x<128/\(∀v∈z.l,0<=v/\v<256)/\((z.l.take z.i).map fun v=>UInt8.ofNat v.toNat)++uv z.x=uv n) (fun _ _ _=>False) (fun _=>au) 200 (by simp) (by simp[wE]) (by simp[wE]) (fun _=>⟨by simp[SV.ok],trivial,trivial,trivial⟩) (fun _=>⟨rfl,by simp[dQ,SObj.ok]⟩)
  rfl rfl (by simp) (by simp) (fun _=>⟨⟨by simp[SV.ok],trivial,trivial,trivial⟩,rfl,by simp[dQ,SObj.ok]⟩) (fun _=>⟨trivial,rfl,by simp[dQ,SObj.ok]⟩) ?_ ?_ ?_ ?_
 ·rintro β w0 z w2 g hb0 ⟨rfl,hl,hi,hx,hv,hu⟩ hk hge
  refine ah (K6 z (ac β 1) w2 g) ?_
  have hkf:KFine (ac β 1) w0 (SS.mk (dQ z) [] true w2 (ac β 1)):=⟨rfl,hk,fun b hb=>.inl hb⟩
  refine af (fun h128=>?_) (fun h128=>?_)
  ·simp only[decide_eq_true_eq]at h128
   have h1:z.i+1<z.r:=by
    rcases Nat.lt_or_ge (z.i+1) z.r with h |h
    ·exact h
    ·have:z.r-z.i=1:=by omega
     rw[this]at hx
     omega
   refine aa ⟨by omega,by omega⟩ (aa (by simp;omega) (aa (by simp[ap]) ?_))
   refine aM ⟨rfl,hk,fun b hb=>.inl hb⟩ fun β' w' hst hk'=>?_
   refine⟨⟨z.x/128,z.i+1,z.r,_⟩,?_,?_,hst.objsAt rfl (by simp[dQ,SObj.ok]),⟨rfl,by simp[hl],h1,?_,?_,?_⟩,hk'⟩
   ·show z.r-(z.i+1)<z.r-z.i
    omega
   ·rw[d7,ax (by omega) (by omega)]
    have:=hst.base 0 (by show 0<1;omega)
    simp only[xJ,ae,SV.den]
    rw[this]
    rfl
   ·have h2:z.r-z.i=(z.r-(z.i+1))+1:=by omega
    rw[h2,Nat.pow_succ]at hx
    exact Nat.div_lt_of_lt_mul (by rw[Nat.mul_comm];exact hx)
   ·intro v hv'
    rcases List.mem_or_eq_of_mem_set hv' with h |h
    ·exact hv v h
    ·rw[h];exact mm _
   ·have e1:(0:Nat)+(z.i:Int).toNat*1=z.i:=by simp
    have e2:=Gm ⟨z.x%256,Nat.mod_lt _ (by omega)⟩
    dsimp only at e2 ⊢
    rw[e1,qJ z.x,e2,eE _ _ _ (by omega),List.map_append,List.append_assoc,<- hu]
    congr 1
    rw[cI (n:=z.x) (by omega)]
    simp only[List.map_cons,List.map_nil,List.cons_append,List.nil_append,Int.toNat_natCast]
    rw[show z.x%256%128=z.x%128 by omega]
  ·simp only[decide_eq_false_iff_not]at h128
   refine aM ⟨rfl,hk,fun b hb=>.inl hb⟩ fun β' w' hst hk'=>⟨.inl ⟨z,rfl,?_,hst.objsAt rfl (by simp[dQ,SObj.ok]),rfl,hl,hi,by omega,hv,hu⟩,hk'⟩
   have:=hst.base 0 (by show 0<1;omega)
   simp only[xJ,ae,SV.den]
   rw[this]
 ·intro β w0 hst hb0
  refine⟨⟨n,0,r,List.replicate r 0⟩,rfl,?_,rfl,by simp,by show 0<r;omega,by simpa using hr1,by simp,by simp⟩
  intro i o hi
  exact hst.at_ i o (by simpa [dQ] using hi)
 ·rintro w0 z w' ⟨rfl,hl,hi,hx,hv,hu⟩ hb0 hb1 g bs' hbs'
  dsimp only
  refine aa ⟨by omega,by omega⟩ (aa (by simp;omega) (aa (by simp[ap]) (aa (by show(0:Int)<=i64.wrap ((z.i:Int)+1)/\_;rw[ax (by omega) (by omega)];omega) ?_)))
  refine aN (Fine.mk' hb1 hbs') fun β w2 hst hb2=>?_
  have h0:=hst.at_ 0 _ rfl
  have hlt:=hst.lt 0 (by simp[SS.n])
  have e1:(i64.wrap ((z.i:Int)+1)).toNat-0=z.i+1:=by rw[ax (by omega) (by omega)];omega
  have hbt:=cp (k:=z.i+1) h0 ?_ (by simp;omega) hlt
  ·have e2:(0:Nat)+(z.i:Int).toNat*1=z.i:=by simp
   rw[e2,eE _ _ _ (by omega),List.map_append,qJ]at hbt
   have e3:((z.l.take z.i).map fun v=>UInt8.ofNat v.toNat)++[((z.x%256:Nat):Int)].map (fun v=>UInt8.ofNat v.toNat)=uv n:=by
    rw[<- hu,cb hx]
    simp only[List.map_cons,List.map_nil,Int.toNat_natCast]
    rw[Nat.mod_eq_of_lt (show z.x<256 by omega)]
   rw[e3]at hbt
   refine⟨some ⟨β 0,0,none⟩,z.i+1,z.r,?_,by omega,hbt,fun a ha=>?_⟩
   ·rw[e1]
    simp[SV.den]
   ·cases ha
    exact(Fine.mk' hb1 hbs').new (hst.old rfl) 0 (by simp[SS.n])
  ·intro v hv'
   rcases List.mem_or_eq_of_mem_set hv' with h |h
   ·exact hv v h
   ·rw[h];exact mm _
 ·rintro w0 z w' h
  exact h.elim
end
section
open Go.Shelf Go.Proofs
def Tryz.lays156_ren:Go.Shelf.Ren:=⟨fun |156=>80 |165=>95 |166=>87 |169=>71 |240=>135 |241=>141 |276=>159 |277=>161 |n=>n,fun |31=>113 |9=>9 |3=>3 |4=>4 |0=>0 |20=>20 |72=>93 |76=>115 |70=>91 |37=>22 |75=>53 |127=>123 |164=>143 |5=>5 |80=>66 |n=>n,fun |n=>n⟩
theorem Tryz.lays156:Go.Proofs.Lays.n156 Tryz.prog Tryz.lays156_ren:={
 mixed:=by kernel_rfl
 f156:=Tryz.func80.trans (congrArg some (by kernel_rfl))
 f165:=Tryz.func95.trans (congrArg some (by kernel_rfl))
 f166:=Tryz.func87.trans (congrArg some (by kernel_rfl))
 f169:=Tryz.func71.trans (congrArg some (by kernel_rfl))
 f240:=Tryz.func135.trans (congrArg some (by kernel_rfl))
 f241:=Tryz.func141.trans (congrArg some (by kernel_rfl))
 f276:=Tryz.func159.trans (congrArg some (by kernel_rfl))
 f277:=Tryz.func161.trans (congrArg some (by kernel_rfl))
 t0:=Tryz.underlying0
 a0:=Tryz.isAgg0
 z0:=Tryz.sizeOf0
 v0:=Tryz.zeroValue0
 t3:=Tryz.underlying3
 a3:=Tryz.isAgg3
 z3:=Tryz.sizeOf3
 v3:=Tryz.zeroValue3
 t4:=Tryz.underlying4
 a4:=Tryz.isAgg4
 z4:=Tryz.sizeOf4
 v4:=Tryz.zeroValue4
 t9:=Tryz.underlying9
 a9:=Tryz.isAgg9
 z9:=Tryz.sizeOf9
 v9:=Tryz.zeroValue9
 t20:=Tryz.underlying20
 a20:=Tryz.isAgg20
 z20:=Tryz.sizeOf20
 v20:=Tryz.zeroValue20
 t31:=Tryz.underlying113
 a31:=Tryz.isAgg113
 z31:=Tryz.sizeOf113
 v31:=Tryz.zeroValue113
 t37:=Tryz.underlying22
 a37:=Tryz.isAgg22
 z37:=Tryz.sizeOf22
 v37:=Tryz.zeroValue22
 t70:=Tryz.underlying91
 a70:=Tryz.isAgg91
 z70:=Tryz.sizeOf91
 v70:=Tryz.zeroValue91
 t72:=Tryz.underlying93
 a72:=Tryz.isAgg93
 z72:=Tryz.sizeOf93
 v72:=Tryz.zeroValue93
 t75:=Tryz.underlying53
 a75:=Tryz.isAgg53
 z75:=Tryz.sizeOf53
 v75:=Tryz.zeroValue53
 t76:=Tryz.underlying115
 a76:=Tryz.isAgg115
 z76:=Tryz.sizeOf115
 v76:=Tryz.zeroValue115
 t127:=Tryz.underlying123
 a127:=Tryz.isAgg123
 z127:=Tryz.sizeOf123
 v127:=Tryz.zeroValue123
 t164:=Tryz.underlying143
 a164:=Tryz.isAgg143
 z164:=Tryz.sizeOf143
 v164:=Tryz.zeroValue143 }
theorem Tryz.Builder_Extra_156:Builder.Extra Tryz.prog Tryz.lays156_ren:={
 sizeBuilder:=by kernel_rfl
 liesBuilder:=by kernel_rfl
 t5:=Tryz.underlying5
 a5:=Tryz.isAgg5
 z5:=Tryz.sizeOf5
 v5:=Tryz.zeroValue5
 infoByte:=by kernel_rfl
 cellsByte:=by kernel_rfl
 sizeByte:=by kernel_rfl
 neB5:=by decide }
open Go.RowKit in
theorem Tryz.strings_Join(bk o c:Nat)(xs:List ByteArray)(sep:ByteArray)(w:World)(hcells:∀(j:Nat) x,xs[j]?=some x->w.cell? ⟨bk,o+j,none⟩=some (.string x))(hbk:bk<w.heap.size)(hN:xs.length<=140737488355328)(hcap:xs.length<=c)(hlen:(Lib.join (xs.map (·.data.toList)) sep.data.toList).length<=140737488355328) :
  Calls Tryz.prog 80 #[.slice (some ⟨bk,o,none⟩) xs.length c,.string sep] w fun e w'=>e=.returned (.string ⟨(Lib.join (xs.map (·.data.toList)) sep.data.toList).toArray⟩)/\Below w.heap.size w w':=Any.strings_Join Tryz.lays156 Tryz.Builder_Extra_156 bk o c xs sep w hcells hbk hN hcap hlen
end
section
open Go Go.RowKit Go.Rx
def Mi(l:List CT)(w:World)(v:Value)(w':World):Prop:=∃A n c,v=.tuple #[.slice A n c,.nilIface]/\n<=c/\Bts (Rx.since w w') w'.heap.size A n (aj l)
theorem pH(w:World)(o:Obj):(w.alloc o).heap[w.heap.size]?=some o:=Array.getElem?_push_size
theorem fE{T e:TypeId}{B b:Nat}{bs:List Value}{w w':World}{X:Nat}(h:Lib.IsBuffer T e B b bs w)(hb:Below X w w')(hX:w.heap.size<=X):Lib.IsBuffer T e B b bs w':=by
 have hlt:=h.lt
 obtain⟨h1,v,lr,h2,h3,h4⟩:=h
 exact⟨h1,v,lr,by rw[hb.block b (by omega)];exact h2,me h3 hb hX,h4⟩
theorem RowOf.keep{b:Nat}{r:Option Nat}{w w':World}{X:Nat}(h:RowOf b r w)(hb:Below X w w')(hX:b<X):RowOf b r w':=by
 obtain⟨v,h1,h2⟩:=h
 exact⟨v,by rw[World.cell?_of_block (a:=⟨b,0,none⟩) (hb.block b hX)];exact h1,h2⟩
theorem yu{B b:Nat}{r:Option Nat}{bs:List Value}{w:World}(h:Lib.IsBuffer 112 5 B b bs w)(hr:RowOf b r w){k:Nat}{cs:Array Value}{T:TypeId}(hk:w.heap[k]?=some (.cells cs T (0,0)))(h1:T≠112)(h2:T≠5):k≠b/\some k≠r:=by
 obtain⟨_,v,lr,hb,hown,_⟩:=h
 obtain⟨v',hv,hvr⟩:=hr
 rw[Lib.cell_of_heap hb]at hv
 simp at hv
 subst hv
 refine⟨fun e=>?_,fun e=>DD hown hk h2 (by rw[hvr];exact e)⟩
 subst e
 rw[hb]at hk
 simp only[Option.some.injEq,Obj.cells.injEq]at hk
 exact h1 hk.2.1.symm
def Todo(b j:Nat)(L:List (List UInt8))(w:World):Prop:=∃cur,w.heap[b]?=some (.cells cur 9 (0,0))/\∀i x,L[i]?=some x->cur[j+i]?=some (Value.string ⟨x.toArray⟩)
theorem Todo.keep{b j:Nat}{L:List (List UInt8)}{w w':World}(h:Todo b j L w)(hb:w'.heap[b]?=w.heap[b]?):Todo b j L w':=by
 obtain⟨cur,h1,h2⟩:=h
 exact⟨cur,by rw[hb];exact h1,h2⟩
theorem Todo.lt{b j:Nat}{L:List (List UInt8)}{w:World}(h:Todo b j L w):b<w.heap.size:=by
 obtain⟨cur,h1,_⟩:=h
 exact cO h1
theorem Todo.drop{b j:Nat}{x:List UInt8}{L:List (List UInt8)}{w:World}(h:Todo b j (x :: L) w):Todo b (j+1) L w:=by
 obtain⟨cur,h1,h2⟩:=h
 exact⟨cur,h1,fun i y hy=>by
  have:=h2 (i+1) y hy
  rw[Nat.add_assoc,Nat.add_comm 1]
  exact this⟩
theorem Todo.cell{b j:Nat}{x:List UInt8}{L:List (List UInt8)}{w:World}(h:Todo b j (x :: L) w):w.cell? ⟨b,j,none⟩=some (.string ⟨x.toArray⟩):=by
 obtain⟨cur,h1,h2⟩:=h
 exact cellOf h1 (by simpa using h2 0 x rfl)
theorem Todo.ne{b j:Nat}{L:List (List UInt8)}{w:World}(h:Todo b j L w){B bb:Nat}{r:Option Nat}{bs:List Value}(hi:Lib.IsBuffer 112 5 B bb bs w)(hr:RowOf bb r w):b≠bb/\some b≠r:=by
 obtain⟨cur,h1,_⟩:=h
 exact yu hi hr h1 (by decide) (by decide)
def Rel10(l:List CT)(w:World)(bb:Nat)(sp:Value)(wr:World):Prop:=∃(done rest:List CT) (A:Option Addr) (c':Nat),l=done++rest/\sp=.slice A (aP rest).length c'/\(aP rest).length<=c'/\(rest≠[]->∃b j,A=some ⟨b,j,none⟩/\Todo b j (aP rest) wr) /\
 Lib.IsBuffer 112 5 bb bb (ey (aj done)) wr/\(∃r,RowOf bb r wr/\(done=[]->r=none))/\Below w.heap.size w wr/\w.heap.size<=bb
def Kx:Value->Nat
 | .slice _ n _=>n
 |_=>0
theorem Cu:∀k∈aY,0<k:=by decide
theorem dH(done:List CT)(x:CT):aj (done++[x])=aj done++(cg x.c.code x.c.val++x.c.val):=by simp[aj,aZ]
theorem pD{done:List CT}(h:aj done=[]):done=[]:=by
 cases done with
 |nil=>rfl
 |cons x r=>
  have h1:=(iL _ x.hs.tab).1
  have h2:(cg x.c.code x.c.val++x.c.val)++aj r=[]:=h
  unfold cg at h2
  simp only[List.append_eq_nil_iff]at h2
  rw[h2.1.1.1]at h1
  simp at h1
theorem zX{l:List UInt8}(h:ey l=[]):l=[]:=by simpa [ey] using h
theorem Rel10.next{l done rs:List CT}{x:CT}{w w':World}{bb bs js kk c'' g:Nat}{A:Option Addr}{vals:List UInt8}(hl:l=done++x :: rs)(hkk:kk=(aP rs).length)(hc:kk<=c'')(hA:rs≠[]->A=some ⟨bs,js,none⟩/\Todo bs js (aP rs) w')(hb:Lib.IsBuffer 112 5 bb bb (ey vals) w')(hv:vals=aj (done++[x]))
  (hr:RowOf bb (some g) w') (hB:Below w.heap.size w w') (hbb:w.heap.size<=bb):Rel10 l w bb (.slice A kk c'') w':=by
 subst hkk hv
 exact⟨done++[x],rs,A,c'',by rw[hl];simp,rfl,hc,fun h=>⟨bs,js,(hA h).1,(hA h).2⟩,hb,⟨some g,hr,fun h=>by simp at h⟩,hB,hbb⟩
structure Mid (w:World) (bb bs js g b5 o5 p:Nat) (L:List (List UInt8)) (val V:List UInt8) (po:Array Value) (W:World):Prop where
 todo:Todo bs js L W
 below:Below w.heap.size w W
 isb:Lib.IsBuffer 112 5 bb bb (ey V) W
 row:RowOf bb (some g) W
 bts:Bts W W.heap.size (some ⟨b5,o5,none⟩) val.length val
 ne1:b5≠bb
 ne2:b5≠g
 prot:W.heap[p]?=some (.cells po 88 (0,0))
 bbge:w.heap.size<=bb
 lt5:b5<W.heap.size
theorem Mid.next{w:World}{bb bs js g b5 o5 p:Nat}{L:List (List UInt8)}{val V:List UInt8}{po:Array Value}{W W':World}(h:Mid w bb bs js g b5 o5 p L val V po W)(hb:Below W.heap.size W W'):Mid w bb bs js g b5 o5 p L val V po W':=
 ⟨h.todo.keep (hb.block _ h.todo.lt),h.below.trans (hb.mono h.below.size),fE h.isb hb (Nat.le_refl _),h.row.keep hb h.isb.lt,h.bts.below hb hb.size,h.ne1,h.ne2,(hb.block _ (cO h.prot)).trans h.prot,h.bbge,Nat.lt_of_lt_of_le h.lt5 hb.size⟩
theorem Mid.wrote{w:World}{bb bs js g b5 o5 p:Nat}{L:List (List UInt8)}{val V V':List UInt8}{po:Array Value}{W W':World}(h:Mid w bb bs js g b5 o5 p L val V po W)(hi:Lib.IsBuffer 112 5 bb bb (ey V++ey V') W')(hb:Below bb W W'){g':Nat}(hr:RowOf bb (some g') W')(hg:some g'=some g∨W.heap.size<=g')(hk:∀k,k<W.heap.size->k≠bb->some k≠some g->W'.heap[k]?=W.heap[k]?) :
  Mid w bb bs js g' b5 o5 p L val (V++V') po W':=by
 obtain⟨n1,n2⟩:=yu h.isb h.row h.prot (by decide) (by decide)
 obtain⟨m1,m2⟩:=h.todo.ne h.isb h.row
 have hlt:=h.lt5
 have k5:=hk b5 hlt h.ne1 (fun e=>h.ne2 (by simpa using e))
 refine⟨h.todo.keep (hk _ h.todo.lt m1 m2),h.below.trans (hb.mono h.bbge),by simpa [ey] using hi,hr,⟨h.bts.1,fun h0=>?_⟩,h.ne1,fun e=>?_,(hk _ (cO h.prot) n1 n2).trans h.prot,h.bbge,Nat.lt_of_lt_of_le hlt hb.size⟩
 ·obtain⟨a,ha,hl,hx⟩:=h.bts.2 h0
  cases ha
  exact⟨_,rfl,Nat.lt_of_lt_of_le hlt hb.size,fun i y hi=>by
   show W'.cell? _=_
   rw[World.cell?_of_block (w:=W) (by rw[aD];exact k5)]
   exact hx i y hi⟩
 ·rcases hg with hg |hg
  ·have hg:g'=g:=by simpa using hg
   exact h.ne2 (by rw[e,hg])
  ·omega
theorem D1{bb g:Nat}{V:List Value}{W:World}(hi:Lib.IsBuffer 112 5 bb bb V W)(hr:RowOf bb (some g) W):g<W.heap.size:=by
 obtain⟨_,v,lr,hb,hown,_⟩:=hi
 obtain⟨v',hv,hvr⟩:=hr
 rw[Lib.cell_of_heap hb]at hv
 simp at hv
 subst hv
 rcases hown.2 with⟨rfl,_⟩ |⟨g',cap,cur,rfl,_,hg,_⟩
 ·cases hvr
 ·have:g'=g:=by simpa [Value.ownBlock] using hvr
  subst this
  exact cO hg
theorem Mid.write{w:World}{bb bs js g b5 o5 p:Nat}{L:List (List UInt8)}{val V:List UInt8}{po:Array Value}{W:World}(h:Mid w bb bs js g b5 o5 p L val V po W)(a:Addr)(n c:Nat)(V':List UInt8)(hn:Bts W W.heap.size (some a) n V')(hn1:1<=n)(hV:V≠[])(hab:a.block≠bb)(hlim:V.length+V'.length<=140737488355328) :
  Calls Tryz.prog 79 #[.pointer (some ⟨bb,0,none⟩),.slice (some a) n c] W fun e W'=>e=.returned (.tuple #[.int .i64 n,.nilIface])/\∃g',Mid w bb bs js g' b5 o5 p L val (V++V') po W':=by
 have hl:=hn.1
 refine(pK bb bb (some g) (ey V) (ey V') a n c W h.isb h.row (Nat.le_of_lt h.isb.lt) (gX _) (by rw[List.length_map,hl]) hn1 (fun e=>absurd (zX e) hV) hab (i6 hn) (gX _) (by rw[List.length_map,hl];exact hlim)).mono ?_
 rintro e W' ⟨rfl,hi,hb,⟨g',hr,hg⟩,hk⟩
 exact⟨rfl,g',h.wrote hi hb hr hg hk⟩
theorem qu{rs:List CT}(h:rs≠[]):0<(aP rs).length:=List.length_pos_iff.2 (sk h)
theorem Mid.rel{l done rs:List CT}{x:CT}{w:World}{bb bs js g b5 o5 p c'':Nat}{y:List UInt8}{val:List UInt8}{po:Array Value}{W:World}{A:Option Addr}(h:Mid w bb bs js g b5 o5 p (y :: aP rs) val (aj (done++[x])) po W)(hl:l=done++x :: rs)(hc:(aP rs).length<=c'')(hA:rs≠[]->A=some ⟨bs,js+1,none⟩):Rel10 l w bb (.slice A (aP rs).length c'') W:=
 Rel10.next (bs:=bs) (js:=js+1) hl rfl hc (fun hn=>⟨hA hn,h.todo.drop⟩) h.isb rfl h.row h.below h.bbge
theorem Mid.rel0{l:List CT}{rs:List CT}{w:World}{bb:Nat}{W:World}{A:Option Addr}{c'':Nat}{Q:Prop}(h0:(aP rs).length=0)(h:(aP rs).length<=c''->(rs≠[]->Q)->Rel10 l w bb (.slice A (aP rs).length c'') W):Rel10 l w bb (.slice A 0 c'') W:=by
 have:=h (by omega) (fun e=>by have:=qu e;omega)
 rw[h0]at this
 exact this
theorem pC{l done rs:List CT}{x:CT}(hl:l=done++x :: rs)(h:(aj l).length<2^40):(aj (done++[x])).length<2^40:=by
 have e:aj l=aj (done++[x])++aj rs:=by rw[hl];simp[aj]
 rw[e,List.length_append]at h
 omega
theorem qb:∀L:List (List UInt8),Lib.join L [47]=r8 L
 |[]=>rfl
 |[x]=>Lib.join_one x [47]
 |x :: y :: r=>by
  rw[Lib.join_cons,kP x (by simp),<- qb (y :: r),Lib.join_cons]
  simp[Lib.joinTail]
theorem IG(rr:List UInt8)(bs js c k0:Nat)(w:World)(htd:Todo bs js (b7 rr) w)(hk:(b7 rr).length=k0+1)(hc:k0+1<=c)(hl:rr.length<=2147483647) :
  Calls Tryz.prog 80 #[.slice (some ⟨bs,js,none⟩) (k0+1) c,.string ⟨#[47]⟩] w fun e w'=>e=.returned (.string ⟨rr.toArray⟩)/\Below w.heap.size w w':=by
 have e1:((b7 rr).map fun y=>(⟨y.toArray⟩:ByteArray)).length=k0+1:=by rw[List.length_map,hk]
 have e2:Lib.join ((((b7 rr).map fun y=>(⟨y.toArray⟩:ByteArray))).map (·.data.toList)) (⟨#[47]⟩:ByteArray).data.toList=rr:=by
  rw[List.map_map]
  have:((fun b:ByteArray=>b.data.toList) ∘ fun y:List UInt8=>(⟨y.toArray⟩:ByteArray))=id:=by funext y;rfl
  rw[this,List.map_id]
  exact(qb _).trans (r9 rr)
 have hlc:=pU rr
 obtain⟨cur,hg,hx⟩:=htd
 have h:=Tryz.strings_Join bs js c ((b7 rr).map fun y=>(⟨y.toArray⟩:ByteArray)) ⟨#[47]⟩ w (fun j x hj=>by
  rw[List.getElem?_map]at hj
  cases hy:(b7 rr)[j]? with
  |none=>rw[hy]at hj;cases hj
  |some y=>
   rw[hy]at hj
   simp only[Option.map_some,Option.some.injEq]at hj
   subst hj
   exact cellOf hg (hx j y hy)) (cO hg) (by rw[e1];omega) (by rw[e1];exact hc) (by rw[e2];omega)
 rw[e1,e2]at h
 exact h
theorem KD(v:Value)(w:World):(method 431 147 v "StringToBytes").run Tryz.prog w=.ok (390,v) w:=by kernel_rfl
theorem KE(v:Value)(w:World):(method 431 147 v "ValidateBytes").run Tryz.prog w=.ok (391,v) w:=by kernel_rfl
theorem oU(l:List CT)(hok:OkL l)(h0:l≠[])(hlen:(aR l).length<2^40)(hby:(aj l).length<2^40)(hvl:∀x∈l,x.c.val.length<=2147483647)(w:World)(ht:Tens w) :
  Calls Tryz.prog 63 #[.string ⟨(aR l).toArray⟩] w (bF (Mi l w) w):=by
 have hidv:=Hid.mk hvl
 have hidy:=Hid.mk hby
 clear hvl hby
 have hid:=Hid.mk (And.intro hok (And.intro h0 (And.intro hlen ht)))
 obtain⟨u,x,hux,hx⟩:=pE l hok h0
 have htrim:=EW u x hx (by have:=congrArg List.length hux;simp at this;omega)
 rw[<- hux]at htrim
 have hid1:=Hid.mk htrim
 clear hok h0 hlen ht hux hx htrim
 go_enter Tryz.func63,Tryz.ntmps63
 go_wp2_with fail
 refine(hid1.out _).mono ?_
 rintro e w1 ⟨v,rfl,rfl,hb1⟩
 have hidb1:=Hid.mk hb1
 clear hb1
 go_wp2_with fail
 refine(B8 (aR l) hid.out.2.2.1 _).mono ?_
 rintro e w2 ⟨v,rfl,⟨b,c,rfl,hc,hst,cur,hgb,htk⟩,hb2⟩
 have hcut:=E9 l hid.out.1 hid.out.2.1
 obtain⟨m,hm⟩:∃m,(aP l).length=m+1:=⟨(aP l).length-1,by
  have:=sk hid.out.2.1
  have:=List.length_pos_iff.2 this
  omega⟩
 have hlen2:(b7 (aR l)).length=m+2:=by rw[hcut,List.length_cons,hm]
 rw[hcut]at htk
 rw[hlen2]at hc hst ⊢
 rw[hcut]at hst
 obtain⟨a0,ha0,hab,hcells⟩:=hst.2 (by omega)
 cases ha0
 have d0:w2.cell? ⟨b,0,none⟩=some (.string ⟨#[]⟩):=hcells 0 [] rfl
 have hbw:=hidb1.out
 have s1:=hbw.size
 have hnew:=pH w1 (.cells #[.slice none 0 0,.int .i64 0,.int .i8 0] 112)
 have isb:Lib.IsBuffer 112 5 w1.heap.size w1.heap.size [] w2:=fE (Lib.fresh_isBuffer _ _ _) hb2 (Nat.le_refl _)
 have htodo:Todo b 1 (aP l) w2:=by
  refine⟨cur,hgb,fun i x hi=>?_⟩
  have hi':i<(aP l).length:=(List.getElem?_eq_some_iff.1 hi).1
  have e1:(cur.toList.take ([] :: aP l).length)[1+i]?=cur.toList[1+i]?:=by rw[List.getElem?_take,if_pos (by simp only[List.length_cons];omega)]
  rw[<- Array.getElem?_toList,<- e1,htk,Nat.add_comm 1 i]
  simp[xF,hi]
 have hrow:RowOf w1.heap.size none w2:=⟨.slice none 0 0,by
  rw[World.cell?_of_block (w:=w1.alloc (.cells #[.slice none 0 0,.int .i64 0,.int .i8 0] 112)) (a:=⟨w1.heap.size,0,none⟩) (hb2.block _ (by rw[bt];exact Nat.lt_succ_self _)),Lib.cell_of_heap hnew]
  rfl,rfl⟩
 have hrel0:Rel10 l w w1.heap.size (.slice (some ⟨b,1,none⟩) (m+1) (c-1)) w2:=
  ⟨[],l,some ⟨b,1,none⟩,c-1,rfl,by rw[hm],by rw[hm];omega,fun _=>⟨b,1,rfl,htodo⟩,isb,⟨none,hrow,fun _=>rfl⟩,(hbw.alloc s1 _).trans (hb2.mono (by rw[bt];omega)),s1⟩
 have hid2:=Hid.mk hrel0
 clear hb2 hst hm hcells hcut hlen2 hab hbw s1 isb hrel0 hgb htk hnew htodo hrow
 go_wp2
 go_loopw [5] (fun sp wr=>Rel10 l w w1.heap.size sp wr) (fun sp _=>Kx sp)
 case atStart=>exact hid2.out
 case round=>
  obtain⟨done,rest,A,c',hl,rfl,hc',hA,hbuf,⟨r,hr,hr0⟩,hnx,hbb⟩:=hrel
  rcases rest with _ |⟨x,rs⟩
  ·have hpl:(aP []).length=0:=rfl
   rw[hpl]at hc' ⊢
   have hid3:=Hid.mk (And.intro hl (And.intro hbuf (And.intro hnx hbb)))
   clear hl hbuf hnx hbb hr hr0 hA hpl
   go_wp2_with fail
   refine(Tryz.Buffer_Bytes _ _ _ _ hid3.out.2.1).mono ?_
   rintro e w3 ⟨v,rfl,hown,k,rfl⟩
   have hid4:=Hid.mk hown
   clear hown
   go_wp2
   have e1:done=l:=by rw[hid3.out.1,List.append_nil]
   simp[bodyPost,results,Tryz.results63,go_sem]
   have hown:=hid4.out
   rw[e1,List.length_map]at hown
   have hne:aj l≠[]:=fun e=>hid.out.2.1 (pD e)
   obtain⟨b',c'',rfl,hc'',hb',hge'⟩:=tD hown hne
   refine⟨_,rfl,⟨_,_,_,rfl,hc'',⟨hb'.1,fun h=>?_⟩⟩,hid3.out.2.2.1.trans ⟨rfl,rfl,rfl,Nat.le_refl _,fun _ _=>rfl⟩⟩
   obtain⟨a,ha,hlt,hx⟩:=hb'.2 h
   cases ha
   exact⟨_,rfl,hlt,fun i x hi=>(cu _ _ _ _).2 ⟨by rw[aD];exact Nat.le_trans hid3.out.2.2.2 hge',hx i x hi⟩⟩
  ·have hxt:=x.hs.tab
   obtain⟨bs,js,rfl,htd⟩:=hA (by simp)
   have htdc:Todo bs js ((an x.c.code).name :: (aP (x :: rs)).drop 1) wr:=htd
   have e0:=htdc.cell
   have hpl:(aP (x :: rs)).length=((aP (x :: rs)).length-1)+1:=by
    have:0<(aP (x :: rs)).length:=by rw[dD];simp[Bh,sU]
    omega
   rw[hpl]at hc' ⊢
   generalize hkk:(aP (x :: rs)).length-1=kk at hc' hpl ⊢
   have hid3:=Hid.mk (And.intro hl (And.intro hbuf (And.intro hr (And.intro hr0 (And.intro hnx (And.intro hbb (And.intro htdc hpl)))))))
   clear hl hbuf hnx hbb hr hr0 hA htd htdc hpl hkk
   go_wp2_with fail
   refine(yO x.c.code hxt _).mono ?_
   rintro e w3 ⟨v,rfl,⟨⟨nm,vA,vn,vc,sz,pa,tr⟩,rfl,⟨i1,i2,i3,i4,i5⟩,hfr,hvb⟩,hb3⟩
   dsimp only at i1 i2 i3 i4 i5 hfr hvb
   simp only[PV.val]
   subst i1 i2 i3
   rw[i4]
   obtain⟨q,hq⟩:∃q:Nat,x.c.code=((q+1:Nat):Int):=⟨x.c.code.toNat-1,by have:=Cu _ hxt;omega⟩
   have hvn:0<vn:=by have:=(iL _ hxt).1;rw[hvb.1];omega
   obtain⟨va,hva,hvl,_⟩:=hvb.2 hvn
   subst hva
   have hid4:=Hid.mk (And.intro hfr (And.intro hvb (And.intro hb3 hvl)))
   have hvx:=hidv.out x (by rw[hid3.out.1];simp)
   have hcls:(∃o:Value,(an x.c.code).tr=o/\o.oneCell'=true/\((o=.nilIface/\(an x.c.code).size=0/\x.c.val=[]/\x.txt=[])∨(∃tv,o=.iface 147 tv/\(an x.c.code).size≠0/\E1 tv x.c.val x.txt w.heap.size w))):=by
    rcases x.hs.cls with⟨h1,h2,h3,h4⟩ |h1
    ·exact⟨_,h2,rfl,.inl ⟨rfl,h1,h3,h4⟩⟩
    ·obtain⟨tv,h2,h3⟩:=Jc x.hs h1 hvx w hid.out.2.2.2
     exact⟨_,h2,rfl,.inr ⟨tv,rfl,h1,h3⟩⟩
   clear hfr hvb hb3 hvl i4 i5 hvn
   obtain⟨o,htr,ho1,hcls⟩:=hcls
   rw[htr]
   have hidc:=Hid.mk hcls
   rcases hcls with⟨rfl,hz,_,_⟩ |⟨tv,rfl,hz,_⟩
   all_goals (
    go_wp2_with fail
    obtain⟨hl,hbuf,hr,hr0,hnx,hbb,htd,hpl⟩:=hid3.out
    obtain⟨hfr,hvb,hb3,hvl⟩:=hid4.out
    have hlt:=hbuf.lt
    have n3:=hb3.size
    have isb3:=fE hbuf hb3 (Nat.le_refl _)
    have hr3:=hr.keep hb3 hlt
    have htd3:=htd.keep (hb3.block bs htd.lt)
    generalize hobj:Obj.cells _ 88=po
    have hal:=(Below.refl w3.heap.size w3).alloc (Nat.le_refl _) po
    have isb4:=fE isb3 hal (Nat.le_refl _)
    have hr4:=hr3.keep hal isb3.lt
    have htd4:=htd3.keep (hal.block bs htd3.lt)
    have hpo:=pH w3 po
    have B4:Below w.heap.size w (w3.alloc po):=(hnx.trans (hb3.mono hnx.size)).alloc (Nat.le_trans hnx.size n3) _
    have hva:=hfr va rfl
    have hvne:va.block≠w1.heap.size:=by
     have:w1.heap.size<wr.heap.size:=hlt
     have:wr.heap.size<=va.block:=hva
     omega
    have hdl:(ey (aj done)).length+vn<=140737488355328:=by
     have h1:=hidy.out
     have h2:=(iL _ hxt).2
     have h3:=hvb.1
     rw[hl]at h1
     simp only[aj,ey,List.flatMap_append,List.length_append,List.length_map]at h1 ⊢
     omega
    have hvn:1<=vn:=by have:=(iL _ hxt).1;rw[hvb.1];omega
    have h64:ey (aj done)=[]->vn<=64/\r=none:=fun h=>⟨by have:=(iL _ hxt).2;rw[hvb.1];omega,hr0 (pD (zX h))⟩
    have hvb4:=hvb.below hal (Nat.le_refl _)
    refine(pK w1.heap.size w1.heap.size r (ey (aj done)) (ey (an x.c.code).vc) va vn vc _ isb4 hr4 (by rw[bt];have:w1.heap.size<wr.heap.size:=hlt;omega) (gX _) (by rw[hvb.1,List.length_map]) hvn h64 hvne (i6 hvb4) (gX _) hdl).mono ?_
    rintro e w4 ⟨rfl,isb5,hb4,⟨g,hr5,hgr⟩,hkept⟩
    have gp4:w4.heap[w3.heap.size]?=some po:=by
     obtain⟨pcs,hpcs⟩:∃cs,po=.cells cs 88 (0,0):=⟨_,hobj.symm⟩
     have hpo':=hpo
     rw[hpcs]at hpo'
     rw[hpcs]at isb4 hr4
     obtain⟨n1,n2⟩:=yu isb4 hr4 hpo' (by decide) (by decide)
     rw[hkept _ (by rw[bt];omega) n1 n2]
     exact hpo
    have htd5:Todo bs js ((an x.c.code).name :: (aP (x :: rs)).drop 1) w4:=by
     obtain⟨n1,n2⟩:=htd4.ne isb4 hr4
     exact htd4.keep (hkept _ htd4.lt n1 n2)
    have B5:Below w.heap.size w w4:=B4.trans (hb4.mono hbb)
    subst hobj
    have d3:=cellOf (i:=3) gp4 rfl
    have d4:=cellOf (i:=4) gp4 rfl
    have d5:=cellOf (i:=5) gp4 rfl
    have hvc:ey (aj done)++ey (an x.c.code).vc=ey (aj done++(an x.c.code).vc):=by simp[ey]
    rw[hvc]at isb5
    have hid5:=Hid.mk (And.intro hl (And.intro gp4 (And.intro htd5 (And.intro B5 (And.intro isb5 (And.intro hr5 (And.intro hpl hbb)))))))
    clear gp4 htd5 B5 isb5 hr5 hkept hb4 isb4 hl hbuf hnx hbb hr hr0 htd hpl hfr hvb hb3 hvl hlt n3 hva hdl e0 isb3 hr3 htd3 hal hr4 htd4 hpo B4 hvne hvn h64 hvb4 hgr hvc)
   ·have hz':(an ((q:Int)+1)).size=0:=by have:=hz;rw[hq]at this;simpa using this
    have hpc:aP (x :: rs)=(an x.c.code).name :: aP rs:=by
     rw[dD]
     unfold Bh sU
     rw[if_pos hz]
     rfl
    have hcls1:x.c.val=[]:=by
     rcases hidc.out with⟨_,_,h,_⟩ |⟨_,_,h,_⟩
     ·exact h
     ·exact absurd hz h
    have hkr:kk=(aP rs).length:=by
     have:=hid5.out.2.2.2.2.2.2.1
     rw[hpc]at this
     simp at this
     omega
    have hval:aj done++(an x.c.code).vc=aj (done++[x]):=by
     rw[dH,hcls1]
     unfold cg
     rw[if_neg (by omega)]
     simp
    have hidk:=Hid.mk (And.intro hkr (And.intro hval hpc))
    clear hkr hval hpc hcls1
    have hrel:∀A c'',kk<=c''->(rs≠[]->A=some ⟨bs,js+1,none⟩)->Rel10 l w w1.heap.size (.slice A kk c'') w4:=fun A c'' hc hA=>by
     obtain⟨hl,gp4,htd5,B5,isb5,hr5,hpl,hbb⟩:=hid5.out
     obtain⟨hkr,hval,hpc⟩:=hidk.out
     refine Rel10.next (bs:=bs) (js:=js+1) hl hkr hc (fun h=>⟨hA h,?_⟩) isb5 hval hr5 B5 hbb
     have htd:=htd5.drop
     rw[hpc]at htd
     exact htd
    have hrel':=Hid.mk hrel
    clear hrel
    have hkr:=hidk.out.1
    subst hkr
    rcases(show c'=1∨2<=c' by omega) with hc1 |hc2
    ·subst hc1
     have h0:(aP rs).length=0:=by omega
     have hrel0:∀A c'',Rel10 l w w1.heap.size (.slice A 0 c'') w4:=fun A c''=>by
      have:=hrel'.out A c'' (by omega) (fun h=>by have:=qu h;omega)
      rw[h0]at this
      exact this
     have hrel0':=Hid.mk hrel0
     clear hrel0
     go_wp2
     refine⟨?_,?measure⟩
     case measure=>show 0<(aP rs).length+1;omega
     exact⟨_,_,_,_,_,_,_,_,_,_,_,_,_,_,_,_,_,_,_,_,_,_,_,_,_,_,_,_,_,_,_,_,_,_,_,_,_,_,_,_,_,_,_,_,_,_,_,_,_,_,_,_,_,_,_,_,_,_,_,_,_,_,_,_,_,_,_,_,_,_,_,_,_,_,_,_,hrel0'.out _ _,rfl⟩
    ·go_wp2
     refine⟨?_,?measure⟩
     case measure=>show(aP rs).length<(aP rs).length+1;omega
     exact⟨_,_,_,_,_,_,_,_,_,_,_,_,_,_,_,_,_,_,_,_,_,_,_,_,_,_,_,_,_,_,_,_,_,_,_,_,_,_,_,_,_,_,_,_,_,_,_,_,_,_,_,_,_,_,_,_,_,_,_,_,_,_,_,_,_,_,_,_,_,_,_,_,_,_,_,_,hrel'.out _ _ (by omega) (fun h=>rfl),rfl⟩
   ·have hz':¬(an ((q:Int)+1)).size=0:=by have:=hz;rw[hq]at this;simpa using this
    rcases hpth:(an x.c.code).path with _ |_
    ·have hpth':(an ((q:Int)+1)).path=false:=by have:=hpth;rw[hq]at this;simpa using this
     have hpc:aP (x :: rs)=(an x.c.code).name :: x.txt :: aP rs:=by
      rw[dD]
      unfold Bh sU
      rw[if_neg hz,hpth]
      rfl
     have hkr:kk=(aP rs).length+1:=by
      have:=hid5.out.2.2.2.2.2.2.1
      rw[hpc]at this
      simp at this
      omega
     subst hkr
     have htd5:=hid5.out.2.2.1.drop
     rw[hpc]at htd5
     have e5:=htd5.cell
     have hidk:=Hid.mk (And.intro htd5 hpc)
     clear htd5 hpc
     rw[hpth']at d4
     go_wp2_with fail
     have htw:E1 tv x.c.val x.txt w.heap.size w:=by
      rcases hidc.out with⟨h,_⟩ |⟨tv',h,_,h2⟩
      ·cases h
      ·cases h
       exact h2
     have B5:=hid5.out.2.2.2.1
     have hst:=htw.1 w4.drew ⟨B5.os,B5.tape,B5.output,B5.size,B5.block⟩ B5.size
     have hidw:=Hid.mk htw
     clear htw B5
     have hmS:=KD
     go_region_with (
      go_at_call 390
      refine hst.mono ?_
      rintro e w5 ⟨v,rfl,⟨b5,o5,c5,rfl,q1,q2,q3⟩,hb5⟩)
     all_goals
      have hb45:Below w4.heap.size w4 w5:=⟨hb5.os,hb5.tape,hb5.output,hb5.size,hb5.block⟩
      obtain⟨hl,gp4,_,B4,isb4,hr4,hpl,hbb⟩:=hid5.out
      have hb5':w4.heap.size<=b5:=q3
      have hg4:=D1 isb4 hr4
      have hlt4:=isb4.lt
      have hv0:0<x.c.val.length:=x.hs.val_pos hz
      have hlt5:b5<w5.heap.size:=by
       obtain⟨a,ha,hl5,_⟩:=q2.2 hv0
       cases ha
       exact hl5
      have hmid:Mid w w1.heap.size bs (js+1) g b5 o5 w3.heap.size (x.txt :: aP rs) x.c.val (aj done++(an x.c.code).vc) _ w5:=⟨hidk.out.1.keep (hb45.block bs hidk.out.1.lt),B4.trans (hb45.mono B4.size),fE isb4 hb45 (Nat.le_refl _),hr4.keep hb45 isb4.lt,q2,by omega,by omega,(hb45.block _ (cO gp4)).trans gp4,hbb,hlt5⟩
      have d3:=cellOf (i:=3) hmid.prot rfl
      have d5:=cellOf (i:=5) hmid.prot rfl
      have hval:=hidw.out.2 w5 b5 o5 c5 w5.heap.size hmid.below hmid.below.size q2 (Nat.le_refl _) q1
      have hmV:=KE
      have hid6:=Hid.mk hmid
      have hidl:=Hid.mk (And.intro hl hv0)
      clear hb45 hl gp4 B4 isb4 hr4 hpl hbb hb5 hb5' hg4 hlt4 hv0 hlt5 hmid q2 q3 hst
      go_wp2_with fail
      refine hval.mono ?_
      rintro e w6 ⟨rfl,hb6⟩
      have hmid:=hid6.out.next hb6
      have d3:=cellOf (i:=3) hmid.prot rfl
      have hid7:=Hid.mk hmid
      clear hmid hval
      have hvc0:aj done++(an x.c.code).vc≠[]:=fun e=>by
       have h1:=(iL _ hxt).1
       rw[List.append_eq_nil_iff]at e
       rw[e.2]at h1
       simp at h1
      have hlim:=pC hidl.out.1 hidy.out
      by_cases hneg:(an ((q:Int)+1)).size<0
      ·have hall:(aj done++(an x.c.code).vc++uv x.c.val.length)++x.c.val=aj (done++[x]):=by
        rw[dH]
        unfold cg
        rw[if_pos (by rw[hq];simpa using hneg)]
        simp
       have hida:=Hid.mk (And.intro hvc0 (And.intro hlim hall))
       clear hvc0 hlim hall
       go_wp2_with fail
       refine(Ea x.c.val.length _ (by omega)).mono ?_
       rintro e w7 ⟨v,rfl,⟨uA,uk,uc,rfl,hu1,hu2,hu3⟩,hb7⟩
       have hmid:=hid7.out.next hb7
       have huk:1<=uk:=by rw[hu2.1];exact fL _
       obtain⟨ua,rfl,hul,_⟩:=hu2.2 huk
       have hua:ua.block≠w1.heap.size:=by
        have h1:=hu3 ua rfl
        have h2:=hid7.out.isb.lt
        omega
       have hlm:=hida.out.2.1
       rw[<- hida.out.2.2]at hlm
       simp only[List.length_append]at hlm
       have hwr:=hmid.write ua uk uc (uv x.c.val.length) hu2 huk hida.out.1 hua (by simp only[List.length_append];omega)
       clear hmid hu2 hu3 hul hua hlm hb7
       go_wp2_with fail
       refine hwr.mono ?_
       rintro e w8 ⟨rfl,g8,hm8⟩
       have hlm:=hida.out.2.1
       rw[<- hida.out.2.2]at hlm
       simp only[List.length_append]at hlm
       have hwr2:=hm8.write ⟨b5,o5,none⟩ x.c.val.length c5 x.c.val hm8.bts hidl.out.2 (fun e=>by have:=hida.out.1;rw[List.append_eq_nil_iff]at e;exact this e.1) hm8.ne1 (by simp only[List.length_append];omega)
       clear hwr hm8 hlm
       go_wp2_with fail
       refine hwr2.mono ?_
       rintro e w9 ⟨rfl,g9,hm9⟩
       rw[hida.out.2.2]at hm9
       have hid9:=Hid.mk hm9
       clear hm9 hwr2
       have hrel':=Hid.mk fun A c'' hc hA=>Mid.rel (A:=A) (c'':=c'') hid9.out hidl.out.1 hc hA
       clear hid9
       rcases(show c'=2∨3<=c' by omega) with hc1 |hc2
       ·subst hc1
        have h0:(aP rs).length=0:=by omega
        have hrel0:=Hid.mk fun A c''=>Mid.rel0 h0 (hrel'.out A c'')
        clear hrel'
        go_wp2
        refine⟨?_,?measure⟩
        case measure=>show 0<(aP rs).length+1+1;omega
        exact⟨_,_,_,_,_,_,_,_,_,_,_,_,_,_,_,_,_,_,_,_,_,_,_,_,_,_,_,_,_,_,_,_,_,_,_,_,_,_,_,_,_,_,_,_,_,_,_,_,_,_,_,_,_,_,_,_,_,_,_,_,_,_,_,_,_,_,_,_,_,_,_,_,_,_,_,_,hrel0.out _ _,rfl⟩
       ·go_wp2
        refine⟨?_,?measure⟩
        case measure=>show(aP rs).length<(aP rs).length+1+1;omega
        exact⟨_,_,_,_,_,_,_,_,_,_,_,_,_,_,_,_,_,_,_,_,_,_,_,_,_,_,_,_,_,_,_,_,_,_,_,_,_,_,_,_,_,_,_,_,_,_,_,_,_,_,_,_,_,_,_,_,_,_,_,_,_,_,_,_,_,_,_,_,_,_,_,_,_,_,_,_,hrel'.out _ _ (by omega) (fun h=>rfl),rfl⟩
      ·have hall:(aj done++(an x.c.code).vc)++x.c.val=aj (done++[x]):=by
        rw[dH]
        unfold cg
        rw[if_neg (by rw[hq];simpa using hneg)]
        simp
       have hlm:=hlim
       rw[<- hall]at hlm
       simp only[List.length_append]at hlm
       have hwr2:=hid7.out.write ⟨b5,o5,none⟩ x.c.val.length c5 x.c.val hid7.out.bts hidl.out.2 hvc0 hid7.out.ne1 (by simp only[List.length_append];omega)
       clear hlm hvc0 hlim
       have hida:=Hid.mk hall
       clear hall
       go_wp2_with fail
       refine hwr2.mono ?_
       rintro e w9 ⟨rfl,g9,hm9⟩
       rw[hida.out]at hm9
       have hid9:=Hid.mk hm9
       clear hm9 hwr2
       have hrel':=Hid.mk fun A c'' hc hA=>Mid.rel (A:=A) (c'':=c'') hid9.out hidl.out.1 hc hA
       clear hid9
       rcases(show c'=2∨3<=c' by omega) with hc1 |hc2
       ·subst hc1
        have h0:(aP rs).length=0:=by omega
        have hrel0:=Hid.mk fun A c''=>Mid.rel0 h0 (hrel'.out A c'')
        clear hrel'
        go_wp2
        refine⟨?_,?measure⟩
        case measure=>show 0<(aP rs).length+1+1;omega
        exact⟨_,_,_,_,_,_,_,_,_,_,_,_,_,_,_,_,_,_,_,_,_,_,_,_,_,_,_,_,_,_,_,_,_,_,_,_,_,_,_,_,_,_,_,_,_,_,_,_,_,_,_,_,_,_,_,_,_,_,_,_,_,_,_,_,_,_,_,_,_,_,_,_,_,_,_,_,hrel0.out _ _,rfl⟩
       ·go_wp2
        refine⟨?_,?measure⟩
        case measure=>show(aP rs).length<(aP rs).length+1+1;omega
        exact⟨_,_,_,_,_,_,_,_,_,_,_,_,_,_,_,_,_,_,_,_,_,_,_,_,_,_,_,_,_,_,_,_,_,_,_,_,_,_,_,_,_,_,_,_,_,_,_,_,_,_,_,_,_,_,_,_,_,_,_,_,_,_,_,_,_,_,_,_,_,_,_,_,_,_,_,_,hrel'.out _ _ (by omega) (fun h=>rfl),rfl⟩
    ·have hpth':(an ((q:Int)+1)).path=true:=by have:=hpth;rw[hq]at this;simpa using this
     obtain⟨hvt,rr,hrr⟩:=x.hs.pathU hpth
     have hrs:rs=[]:=OkL.last (hid5.out.1 ▸ hid.out.1) hpth
     subst hrs
     have hpc:aP [x]=(an x.c.code).name :: b7 rr:=by
      rw[dD]
      unfold Bh sU
      rw[if_neg hz,hpth,hrr]
      simp[aP]
     have hkr:kk=(b7 rr).length:=by
      have:=hid5.out.2.2.2.2.2.2.1
      rw[hpc]at this
      simp at this
      omega
     obtain⟨k0,hk0⟩:∃k0,(b7 rr).length=k0+1:=⟨(b7 rr).length-1,by have:=List.length_pos_iff.2 (s9 rr);omega⟩
     rw[hk0]at hkr
     subst hkr
     have htd5:=hid5.out.2.2.1.drop
     rw[hpc]at htd5
     have hidk:=Hid.mk (And.intro htd5 (And.intro hpc (And.intro hk0 (And.intro hrr hvt))))
     clear htd5 hpc hk0 hrr hvt
     rw[hpth']at d4
     have hjoin:=IG rr bs (js+1) (c'-1) k0 w4 hidk.out.1 hidk.out.2.2.1 (by omega) (by have h1:=hidk.out.2.2.2.1;have h2:=hidk.out.2.2.2.2;rw[h1]at h2;have:=congrArg List.length h2;simp at this;omega)
     have hrl:rr.length<=2147483647:=by have h1:=hidk.out.2.2.2.1;have h2:=hidk.out.2.2.2.2;rw[h1]at h2;have:=congrArg List.length h2;simp at this;omega
     go_wp2_with fail
     refine hjoin.mono ?_
     rintro e w4' ⟨rfl,hb4'⟩
     have hslash:(⟨#[47]⟩:ByteArray)++⟨rr.toArray⟩=⟨x.txt.toArray⟩:=by
      rw[hidk.out.2.2.2.1]
      apply ByteArray.ext
      simp
     have d5:∀o,(w4'.alloc o).cell? ⟨w3.heap.size,5,none⟩=some (.iface 147 tv):=fun o=>by
      have h1:=cO hid5.out.2.1
      have h2:=(hb4'.block _ h1).trans hid5.out.2.1
      have h3:=((Below.refl w4'.heap.size w4').alloc (Nat.le_refl _) o).block _ (cO h2)
      exact cellOf (i:=5) (h3.trans h2) rfl
     have hidj:=Hid.mk hb4'
     clear hb4' hjoin
     go_wp2_with fail
     have hb4':=hidj.out
     have hal:=(Below.refl w4'.heap.size w4').alloc (Nat.le_refl _) (.cells #[.string ⟨x.txt.toArray⟩] 9)
     have h4W:=hb4'.trans (hal.mono hb4'.size)
     have hnb:=pH w4' (.cells #[.string ⟨x.txt.toArray⟩] 9)
     have e5:=cellOf (i:=0) hnb rfl
     have d5:=d5 (.cells #[.string ⟨x.txt.toArray⟩] 9)
     have htn:Todo w4'.heap.size 0 (x.txt :: aP []) (w4'.alloc (.cells #[.string ⟨x.txt.toArray⟩] 9)):=⟨_,hnb,fun i y hi=>by
      match i,hi with
      |0,hi=>
       simp only[List.getElem?_cons_zero,Option.some.injEq]at hi
       subst hi
       rfl
      |i+1,hi=>simp[aP]at hi⟩
     have hid5W:Hid (l=done++[x]/\(w4'.alloc (.cells #[.string ⟨x.txt.toArray⟩] 9)).heap[w3.heap.size]?=_/\True/\Below w.heap.size w (w4'.alloc (.cells #[.string ⟨x.txt.toArray⟩] 9))/\Lib.IsBuffer 112 5 w1.heap.size w1.heap.size (ey (aj done++(an x.c.code).vc)) (w4'.alloc (.cells #[.string ⟨x.txt.toArray⟩] 9))/\RowOf w1.heap.size (some g) (w4'.alloc (.cells #[.string ⟨x.txt.toArray⟩] 9))/\True/\w.heap.size<=w1.heap.size):=Hid.mk (by
      obtain⟨hl,gp4,_,B4,isb4,hr4,hpl,hbb⟩:=hid5.out
      exact⟨hl,(h4W.block _ (cO gp4)).trans gp4,trivial,B4.trans (h4W.mono B4.size),fE isb4 h4W (Nat.le_refl _),hr4.keep h4W isb4.lt,trivial,hbb⟩)
     have hidk:=Hid.mk htn
     clear hal h4W hnb htn hb4' hidj
     generalize hW5:w4'.alloc (.cells #[.string ⟨x.txt.toArray⟩] 9)=W5 at *
     generalize hnbk:w4'.heap.size=nb at *
     clear hW5 hnbk
     have htw:E1 tv x.c.val x.txt w.heap.size w:=by
      rcases hidc.out with⟨h,_⟩ |⟨tv',h,_,h2⟩
      ·cases h
      ·cases h
       exact h2
     have B5:=hid5W.out.2.2.2.1
     have hst:=htw.1 W5.drew ⟨B5.os,B5.tape,B5.output,B5.size,B5.block⟩ B5.size
     have hidw:=Hid.mk htw
     clear htw B5
     have hmS:=KD
     go_region_with (
      go_at_call 390
      refine hst.mono ?_
      rintro e w5 ⟨v,rfl,⟨b5,o5,c5,rfl,q1,q2,q3⟩,hb5⟩)
     all_goals
      have hb45:Below W5.heap.size W5 w5:=⟨hb5.os,hb5.tape,hb5.output,hb5.size,hb5.block⟩
      obtain⟨hl,gp4,_,B4,isb4,hr4,hpl,hbb⟩:=hid5W.out
      have hb5':W5.heap.size<=b5:=q3
      have hg4:=D1 isb4 hr4
      have hlt4:=isb4.lt
      have hv0:0<x.c.val.length:=x.hs.val_pos hz
      have hlt5:b5<w5.heap.size:=by
       obtain⟨a,ha,hl5,_⟩:=q2.2 hv0
       cases ha
       exact hl5
      have hmid:Mid w w1.heap.size nb 0 g b5 o5 w3.heap.size (x.txt :: aP []) x.c.val (aj done++(an x.c.code).vc) _ w5:=⟨hidk.out.keep (hb45.block nb hidk.out.lt),B4.trans (hb45.mono B4.size),fE isb4 hb45 (Nat.le_refl _),hr4.keep hb45 isb4.lt,q2,by omega,by omega,(hb45.block _ (cO gp4)).trans gp4,hbb,hlt5⟩
      have d3:=cellOf (i:=3) hmid.prot rfl
      have d5:=cellOf (i:=5) hmid.prot rfl
      have hval:=hidw.out.2 w5 b5 o5 c5 w5.heap.size hmid.below hmid.below.size q2 (Nat.le_refl _) q1
      have hmV:=KE
      have hid6:=Hid.mk hmid
      have hidl:=Hid.mk (And.intro hl hv0)
      clear hb45 hl gp4 B4 isb4 hr4 hpl hbb hb5 hb5' hg4 hlt4 hv0 hlt5 hmid q2 q3 hst
      go_wp2_with fail
      refine hval.mono ?_
      rintro e w6 ⟨rfl,hb6⟩
      have hmid:=hid6.out.next hb6
      have d3:=cellOf (i:=3) hmid.prot rfl
      have hid7:=Hid.mk hmid
      clear hmid hval
      have hvc0:aj done++(an x.c.code).vc≠[]:=fun e=>by
       have h1:=(iL _ hxt).1
       rw[List.append_eq_nil_iff]at e
       rw[e.2]at h1
       simp at h1
      have hlim:=pC hidl.out.1 hidy.out
      by_cases hneg:(an ((q:Int)+1)).size<0
      ·have hall:(aj done++(an x.c.code).vc++uv x.c.val.length)++x.c.val=aj (done++[x]):=by
        rw[dH]
        unfold cg
        rw[if_pos (by rw[hq];simpa using hneg)]
        simp
       have hida:=Hid.mk (And.intro hvc0 (And.intro hlim hall))
       clear hvc0 hlim hall
       go_wp2_with fail
       refine(Ea x.c.val.length _ (by omega)).mono ?_
       rintro e w7 ⟨v,rfl,⟨uA,uk,uc,rfl,hu1,hu2,hu3⟩,hb7⟩
       have hmid:=hid7.out.next hb7
       have huk:1<=uk:=by rw[hu2.1];exact fL _
       obtain⟨ua,rfl,hul,_⟩:=hu2.2 huk
       have hua:ua.block≠w1.heap.size:=by
        have h1:=hu3 ua rfl
        have h2:=hid7.out.isb.lt
        omega
       have hlm:=hida.out.2.1
       rw[<- hida.out.2.2]at hlm
       simp only[List.length_append]at hlm
       have hwr:=hmid.write ua uk uc (uv x.c.val.length) hu2 huk hida.out.1 hua (by simp only[List.length_append];omega)
       clear hmid hu2 hu3 hul hua hlm hb7
       go_wp2_with fail
       refine hwr.mono ?_
       rintro e w8 ⟨rfl,g8,hm8⟩
       have hlm:=hida.out.2.1
       rw[<- hida.out.2.2]at hlm
       simp only[List.length_append]at hlm
       have hwr2:=hm8.write ⟨b5,o5,none⟩ x.c.val.length c5 x.c.val hm8.bts hidl.out.2 (fun e=>by have:=hida.out.1;rw[List.append_eq_nil_iff]at e;exact this e.1) hm8.ne1 (by simp only[List.length_append];omega)
       clear hwr hm8 hlm
       go_wp2_with fail
       refine hwr2.mono ?_
       rintro e w9 ⟨rfl,g9,hm9⟩
       rw[hida.out.2.2]at hm9
       have hid9:=Hid.mk hm9
       clear hm9 hwr2
       have hm:=hid9.out
       have hrelE:Rel10 l w w1.heap.size (.slice (some ⟨nb,0,none⟩) 0 0) _:=Rel10.next (rs:=[]) (bs:=0) (js:=0) hidl.out.1 rfl (Nat.le_refl _) (fun h=>absurd rfl h) hm.isb rfl hm.row hm.below hm.bbge
       have hrel0:=Hid.mk hrelE
       clear hm hid9 hrelE
       go_wp2
       refine⟨?_,?measure⟩
       case measure=>show 0<k0+1+1;omega
       exact⟨_,_,_,_,_,_,_,_,_,_,_,_,_,_,_,_,_,_,_,_,_,_,_,_,_,_,_,_,_,_,_,_,_,_,_,_,_,_,_,_,_,_,_,_,_,_,_,_,_,_,_,_,_,_,_,_,_,_,_,_,_,_,_,_,_,_,_,_,_,_,_,_,_,_,_,_,hrel0.out,rfl⟩
      ·have hall:(aj done++(an x.c.code).vc)++x.c.val=aj (done++[x]):=by
        rw[dH]
        unfold cg
        rw[if_neg (by rw[hq];simpa using hneg)]
        simp
       have hlm:=hlim
       rw[<- hall]at hlm
       simp only[List.length_append]at hlm
       have hwr2:=hid7.out.write ⟨b5,o5,none⟩ x.c.val.length c5 x.c.val hid7.out.bts hidl.out.2 hvc0 hid7.out.ne1 (by simp only[List.length_append];omega)
       clear hlm hvc0 hlim
       have hida:=Hid.mk hall
       clear hall
       go_wp2_with fail
       refine hwr2.mono ?_
       rintro e w9 ⟨rfl,g9,hm9⟩
       rw[hida.out]at hm9
       have hid9:=Hid.mk hm9
       clear hm9 hwr2
       have hm:=hid9.out
       have hrelE:Rel10 l w w1.heap.size (.slice (some ⟨nb,0,none⟩) 0 0) _:=Rel10.next (rs:=[]) (bs:=0) (js:=0) hidl.out.1 rfl (Nat.le_refl _) (fun h=>absurd rfl h) hm.isb rfl hm.row hm.below hm.bbge
       have hrel0:=Hid.mk hrelE
       clear hm hid9 hrelE
       go_wp2
       refine⟨?_,?measure⟩
       case measure=>show 0<k0+1+1;omega
       exact⟨_,_,_,_,_,_,_,_,_,_,_,_,_,_,_,_,_,_,_,_,_,_,_,_,_,_,_,_,_,_,_,_,_,_,_,_,_,_,_,_,_,_,_,_,_,_,_,_,_,_,_,_,_,_,_,_,_,_,_,_,_,_,_,_,_,_,_,_,_,_,_,_,_,_,_,_,hrel0.out,rfl⟩
end
section
open Go Go.RowKit
theorem Ib(p:Addr)(w:World):CallsD Tryz.prog 64 #[.pointer (some p)] .returning w fun e u' w'=>e=.returned (.tuple #[])/\u'=.returning/\w'=w:=by
 refine callsD_of_wpS Tryz.func64 rfl fun c₀ cs hu=>?_
 apply wpS_seq
 apply wpS_region
 simp[wpOpsS,go_sem,recoverD,hu,Tryz.ntmps64,Exit.thenS]
 apply wpS_seq
 apply wpS_region
 simp[wpOpsS,go_sem,recoverD,hu,Exit.thenS]
 refine wpS_cond (t:=false) (by simp[Act.eval,Array.replicate]) ?_
 refine wpS_of_wp ?_
 simp only[Bool.false_eq_true,if_false]
 go_wp2
 cases c₀
 simp_all [bodyPostS,results,Tryz.results64,Exit.thenS]
theorem tz(A:Option Addr)(n c:Nat)(w:World)(R:Option Addr->Nat->Nat->World->Prop)
  (hR:∀A' k c' (w2 w3:World),w3.heap.size=w2.heap.size->(∀b,b≠w.heap.size->w3.heap[b]?=w2.heap[b]?)->R A' k c' w2->R A' k c' w3)
  (h:∀w1,Below w.heap.size w w1->w1.heap.size=w.heap.size+1->Calls Tryz.prog 65 #[.slice A n c] w1 fun e w'=>∃A' k c',e=.returned (.tuple #[.int .i64 n,.slice A' k c',.nilIface])/\0<k/\Below w1.heap.size w1 w'/\R A' k c' w') :
  Calls Tryz.prog 31 #[.slice A n c] w fun e w'=>∃A' k c',e=.returned (.tuple #[.slice A' k c',.nilIface])/\0<k/\Below w.heap.size w w'/\R A' k c' w':=by
 have hmf:∀(fn:Fn) (first cap:Array Value) (w:World),(Instr.makeFunc fn first cap).run Tryz.prog w=.ok (.func fn first cap) w:=fun _ _ _ _=>rfl
 have h1:=h (w.alloc (Obj.cells #[Value.nilIface] 53)) (Below.alloc (Below.refl _ _) (Nat.le_refl _) _) (by show(w.heap.push _).size=_;simp)
 clear h
 go_enter_defers Tryz.func31,Tryz.ntmps31
 go_wp2_with fail
 refine h1.mono ?_
 rintro e w' ⟨A',k,c',rfl,hk0,hk,hr⟩
 have hb:w'.heap[w.heap.size]?=some (.cells #[.nilIface] 53 (0,0)):=by
  rw[hk.block w.heap.size (by show w.heap.size<(w.heap.push _).size;simp)]
  show(w.heap.push _)[w.heap.size]?=_
  simp
 have hc:w'.cell? ⟨w.heap.size,0,none⟩=some .nilIface:=by simp[World.cell?,hb]
 have hz:w'.frozen? ⟨w.heap.size,0,none⟩=false:=by simp[World.frozen?,hb]
 go_wp2
 refine leaves_cons (f:=64) (args:=#[.pointer (some ⟨w.heap.size,0,none⟩)]) (by simp) (by simp[go_sem]) ?_
 refine(Ib ⟨w.heap.size,0,none⟩ _).mono ?_
 rintro e u' w'' ⟨rfl,rfl,rfl⟩
 simp[Leaves,settle,results,Tryz.results31,go_sem]
 have hs:((w'.setCell ⟨w.heap.size,0,none⟩ .nilIface).setCell ⟨w.heap.size,0,none⟩ .nilIface).cell? ⟨w.heap.size,0,none⟩=some .nilIface:=by
  simp[World.cell?,World.setCell,Array.getElem?_modify,hb]
 rw[hs]
 have hblk:∀b,b≠w.heap.size->((w'.setCell ⟨w.heap.size,0,none⟩ .nilIface).setCell ⟨w.heap.size,0,none⟩ .nilIface).heap[b]?=w'.heap[b]?:=fun b hb=>by
  rw[Below.heap_setCell _ _ _ _ (by show b≠w.heap.size;exact hb),Below.heap_setCell _ _ _ _ (by show b≠w.heap.size;exact hb)]
 have hsz:((w'.setCell ⟨w.heap.size,0,none⟩ .nilIface).setCell ⟨w.heap.size,0,none⟩ .nilIface).heap.size=w'.heap.size:=by
  simp[World.setCell]
 refine⟨_,rfl,A',k,c',rfl,hk0,⟨hk.os,hk.tape,hk.output,?_,fun b hb1=>?_⟩,hR _ _ _ _ _ hsz hblk hr⟩
 ·rw[hsz]
  have:(w.heap.push _).size<=w'.heap.size:=hk.size
  simp at this
  omega
 ·rw[hblk b (by omega),hk.block b (by show b<(w.heap.push _).size;simp;omega)]
  exact Below.heap_alloc _ _ _ hb1
theorem Ic(p:Addr)(w:World):CallsD Tryz.prog 61 #[.pointer (some p)] .returning w fun e u' w'=>e=.returned (.tuple #[])/\u'=.returning/\w'=w:=by
 refine callsD_of_wpS Tryz.func61 rfl fun c₀ cs hu=>?_
 apply wpS_seq
 apply wpS_region
 simp[wpOpsS,go_sem,recoverD,hu,Tryz.ntmps61,Exit.thenS]
 apply wpS_seq
 apply wpS_region
 simp[wpOpsS,go_sem,recoverD,hu,Exit.thenS]
 refine wpS_cond (t:=false) (by simp[Act.eval,Array.replicate]) ?_
 refine wpS_of_wp ?_
 simp only[Bool.false_eq_true,if_false]
 go_wp2
 cases c₀
 simp_all [bodyPostS,results,Tryz.results61,Exit.thenS]
theorem Fz(v:Value)(w:World)(R:Option Addr->Nat->Nat->World->Prop)(S:World->Option Addr->Nat->Nat->World->Prop)
  (hR:∀A' k c' (w2 w3:World),w3.heap.size=w2.heap.size->(∀b,b≠w.heap.size->w3.heap[b]?=w2.heap[b]?)->R A' k c' w2->R A' k c' w3)
  (h:∀w1,Below w.heap.size w w1->w1.heap.size=w.heap.size+1->Calls Tryz.prog 63 #[v] w1 fun e w'=>∃A n c,e=.returned (.tuple #[.slice A n c,.nilIface])/\Below w1.heap.size w1 w'/\S w1 A n c w')
  (h2:∀A n c w1 w2 w3,Below w.heap.size w w1->w1.heap.size=w.heap.size+1->Below w1.heap.size w1 w2->S w1 A n c w2->w3.heap.size=w2.heap.size->Below w.heap.size w w3->(∀b,b≠w.heap.size->w3.heap[b]?=w2.heap[b]?)->Calls Tryz.prog 31 #[.slice A n c] w3 fun e w'=>∃A' k c',e=.returned (.tuple #[.slice A' k c',.nilIface])/\0<k/\Below w3.heap.size w3 w'/\R A' k c' w') :
  Calls Tryz.prog 29 #[v] w fun e w'=>∃A' k c',e=.returned (.tuple #[.slice A' k c',.nilIface])/\0<k/\Below w.heap.size w w'/\R A' k c' w':=by
 have hmf:∀(fn:Fn) (first cap:Array Value) (w:World),(Instr.makeFunc fn first cap).run Tryz.prog w=.ok (.func fn first cap) w:=fun _ _ _ _=>rfl
 have hal:=Below.alloc (Below.refl w.heap.size w) (Nat.le_refl _) (Obj.cells #[Value.nilIface] 53)
 have hal2:(w.alloc (Obj.cells #[Value.nilIface] 53)).heap.size=w.heap.size+1:=by show(w.heap.push _).size=_;simp
 have h1:=h (w.alloc (Obj.cells #[Value.nilIface] 53)) hal hal2
 clear h
 go_enter_defers Tryz.func29,Tryz.ntmps29
 go_wp2_with fail
 refine h1.mono ?_
 rintro e w2 ⟨A,n,c,rfl,hk,hr⟩
 have hb2:w2.heap[w.heap.size]?=some (.cells #[.nilIface] 53 (0,0)):=by
  rw[hk.block w.heap.size (by show w.heap.size<(w.heap.push _).size;simp)]
  show(w.heap.push _)[w.heap.size]?=_
  simp
 have hc:w2.cell? ⟨w.heap.size,0,none⟩=some .nilIface:=by simp[World.cell?,hb2]
 have hz:w2.frozen? ⟨w.heap.size,0,none⟩=false:=by simp[World.frozen?,hb2]
 have hs:(w2.setCell ⟨w.heap.size,0,none⟩ .nilIface).cell? ⟨w.heap.size,0,none⟩=some .nilIface:=by
  simp[World.cell?,World.setCell,Array.getElem?_modify,hb2]
 have hblk2:∀b,b≠w.heap.size->(w2.setCell ⟨w.heap.size,0,none⟩ .nilIface).heap[b]?=w2.heap[b]?:=fun b hb=>Below.heap_setCell _ _ _ _ (by show b≠w.heap.size;exact hb)
 have hsz2:(w2.setCell ⟨w.heap.size,0,none⟩ .nilIface).heap.size=w2.heap.size:=by
  simp[World.setCell]
 have hle:w.heap.size+1<=w2.heap.size:=by rw[<- hal2];exact hk.size
 have hbw3:Below w.heap.size w (w2.setCell ⟨w.heap.size,0,none⟩ .nilIface):=⟨hk.os,hk.tape,hk.output,by rw[hsz2];omega,fun b hb1=>by
  rw[hblk2 b (by omega),hk.block b (by show b<(w.heap.push _).size;simp;omega)]
  exact Below.heap_alloc _ _ _ hb1⟩
 have h3:=h2 A n c _ w2 _ hal hal2 hk hr hsz2 hbw3 hblk2
 go_wp2_with fail
 refine h3.mono ?_
 rintro e w' ⟨A',k,c',rfl,hk0,hk3,hr3⟩
 have hb:w'.heap[w.heap.size]?=some (.cells #[.nilIface] 53 (0,0)):=by
  rw[hk3.block w.heap.size (by rw[hsz2];omega)]
  simp[World.setCell,Array.getElem?_modify,hb2]
 have hc3:w'.cell? ⟨w.heap.size,0,none⟩=some .nilIface:=by simp[World.cell?,hb]
 have hz3:w'.frozen? ⟨w.heap.size,0,none⟩=false:=by simp[World.frozen?,hb]
 go_wp2
 refine leaves_cons (f:=61) (args:=#[.pointer (some ⟨w.heap.size,0,none⟩)]) (by simp) (by simp[go_sem]) ?_
 refine(Ic ⟨w.heap.size,0,none⟩ _).mono ?_
 rintro e u' w'' ⟨rfl,rfl,rfl⟩
 simp[Leaves,settle,results,Tryz.results29,go_sem]
 have hs3:(w'.setCell ⟨w.heap.size,0,none⟩ .nilIface).cell? ⟨w.heap.size,0,none⟩=some .nilIface:=by
  simp[World.cell?,World.setCell,Array.getElem?_modify,hb]
 rw[hs3]
 have hblk:∀b,b≠w.heap.size->(w'.setCell ⟨w.heap.size,0,none⟩ .nilIface).heap[b]?=w'.heap[b]?:=fun b hb=>Below.heap_setCell _ _ _ _ (by show b≠w.heap.size;exact hb)
 have hsz:(w'.setCell ⟨w.heap.size,0,none⟩ .nilIface).heap.size=w'.heap.size:=by
  simp[World.setCell]
 have hbw:=hbw3.trans (hk3.mono hbw3.size)
 refine⟨_,rfl,A',k,c',rfl,hk0,⟨hbw.os,hbw.tape,hbw.output,by rw[hsz];exact hbw.size,fun b hb1=>?_⟩,hR _ _ _ _ _ hsz hblk hr3⟩
 rw[hblk b (by omega),hbw.block b hb1]
end
section
open Go Go.Rx Go.RowKit
structure MC where
 s:ByteArray
 v:ByteArray
 A:Option Addr
 k:Nat
 c:Nat
 A':Option Addr
 k':Nat
 c':Nat
structure MN where
 cd:Int
 A:Option Addr
 k:Nat
 c:Nat
 ok:Bool
end
section
open Go Go.Rx Go.RowKit
def Loose(w:World)(bs:List Nat)(A:Option Addr)(n:Nat)(l:List UInt8):Prop:=Bts w w.heap.size A n l/\(0<n->∀a,A=some a->a.block ∉ bs)
theorem Loose.can{w:World}{bs:List Nat}{A:Option Addr}{n:Nat}{l:List UInt8}(h:Loose w bs A n l):canBytes w bs A n:=by
 rcases Nat.eq_zero_or_pos n with h0 |h0
 ·subst h0
  exact .inl rfl
 ·exact h.1.canBytesN (Nat.le_refl _) (h.2 h0)
theorem Loose.next{w w':World}{bs bs':List Nat}{A:Option Addr}{n m:Nat}{l:List UInt8}(h:Loose w bs A n l)(hk:Keep bs w w')(hb:∀b∈bs',(b∈bs∨w.heap.size<=b)/\b<m):Loose w' bs' A n l:=by
 refine⟨⟨h.1.1,fun h0=>?_⟩,fun h0 a ha hm=>?_⟩
 ·obtain⟨a,ha,hab,_⟩:=h.1.2 h0
  have:=h.2 h0 a ha
  subst ha
  exact(wK h.1 hk this).2 h0
 ·obtain⟨a',ha',hab,_⟩:=h.1.2 h0
  rw[ha]at ha'
  cases ha'
  rcases(hb _ hm).1 with h1 |h1
  ·exact h.2 h0 a ha h1
  ·omega
theorem Loose.keep{w w':World}{bs:List Nat}{A:Option Addr}{n:Nat}{l:List UInt8}(h:Loose w bs A n l)(hk:Keep bs w w'):Bts w' w'.heap.size A n l:=
 (h.next (bs':=[]) (m:=0) hk (by simp)).1
theorem Loose.fresh{w wc:World}{bs bs0:List Nat}{A:Option Addr}{n:Nat}{l:List UInt8}{m:Nat}(h:Bts w w.heap.size A n l)(hf:0<n->∀a,A=some a->wc.heap.size<=a.block)(hb:∀b∈bs,(b∈bs0∨m<=b)/\b<wc.heap.size):Loose w bs A n l:=
 ⟨h,fun h0 a ha hm=>by
  have:=hf h0 a ha
  have:=(hb _ hm).2
  omega⟩
theorem Loose.since{w wc:World}{bs bs0:List Nat}{A:Option Addr}{n:Nat}{l:List UInt8}{m:Nat}(h:Bts (Rx.since wc w) w.heap.size A n l)(hb:∀b∈bs,(b∈bs0∨m<=b)/\b<wc.heap.size):Loose w bs A n l:=
 Loose.fresh (h.sub (m7 _ _ _) (Nat.le_refl _)) (fun h0 a ha=>by
  obtain⟨a',ha',hab,hx⟩:=h.2 h0
  rw[ha]at ha'
  cases ha'
  have hl:=h.1
  have:=hx 0 (l[0]'(by omega)) (List.getElem?_eq_getElem _)
  exact((cu _ _ _ _).1 this).1) hb
theorem Loose.old{w:World}{B:Nat}{bs:List Nat}{A:Option Addr}{n:Nat}{l:List UInt8}(h:Bts w B A n l)(hB:B<=w.heap.size)(hb:∀b∈bs,B<=b):Loose w bs A n l:=
 ⟨h.mono hB,fun h0 a ha hm=>by
  obtain⟨a',ha',hab,_⟩:=h.2 h0
  rw[ha]at ha'
  cases ha'
  have:=hb _ hm
  omega⟩
theorem BH:∀k∈aY,(an k).name.length<=20:=by decide
theorem te:∀(r n:Nat),n<10^r->(Lib.decDigits n).length<=r+1
 |0,n,h=>by rw[Lib.decDigits_one (by omega)];simp
 |r+1,n,h=>by
  by_cases h1:n<10
  ·rw[Lib.decDigits_one h1];simp
  ·rw[Lib.decDigits,dif_neg h1,List.length_append]
   have:=te r (n/10) (Nat.div_lt_of_lt_mul (by rw[Nat.pow_succ]at h;omega))
   simp only[List.length_cons,List.length_nil]
   omega
theorem rZ:∀G:List Nat,(∀g∈G,g<65536)->(jn G).length<=G.length*65537
 |[],_=>by simp[jn]
 |[g],h=>by
  have:=cK g
  have:=h g (by simp)
  show(ay g).length<=_
  simp only[List.length_cons,List.length_nil]
  omega
 |g :: g' :: r,h=>by
  have e:jn (g :: g' :: r)=ay g++[58]++jn (g' :: r):=rfl
  have h1:=rZ (g' :: r) (fun x hx=>h x (List.mem_cons_of_mem _ hx))
  have h2:=cK g
  have h3:=h g (by simp)
  rw[e]
  simp only[List.length_append,List.length_cons,List.length_nil]at h1 ⊢
  omega
theorem FG(l:List UInt8):(ph l).length<=2000000:=by
 unfold ph
 split
 ·have:=ke (l.getD 12 0) (l.getD 13 0) (l.getD 14 0) (l.getD 15 0)
  rw[List.length_append]
  simp only[List.length_cons,List.length_nil]
  omega
 ·unfold iY gB
  have hj:∀a b,b<=8->(jn (kW l a b)).length<=8*65537:=fun a b hb=>Nat.le_trans (rZ _ (tL l a b)) (by rw[ka];exact Nat.mul_le_mul_right _ (by omega))
  split
  ·have:=hj 0 8 (Nat.le_refl _)
   omega
  ·rename_i hne
   have hg:=pI l
   have hf:(bE l 8).1<=8:=by
    rcases hg with⟨h,_⟩ |h
    ·exact absurd h hne
    ·have h1:=h.1
     have h2:=h.2.1
     omega
   have h1:=hj 0 _ hf
   have h2:=hj (bE l 8).2 8 (Nat.le_refl _)
   simp only[List.length_append,List.length_cons,List.length_nil]
   omega
end
section
open Go Go.Rx Go.RowKit
@[reducible] def mX:Hook:={ X:=UV,out:=fun _ s x=>(.tup [.xs x.A x.k x.c,.one .nilIface rfl],s.objs) }
@[reducible] def qG:Hook:={ X:=UV,out:=fun _ s x=>(.tup [.xs x.A x.k x.c,.bool true false],s.objs) }
def Kg:Hooks:={ calls:=fun f=>if f=29 then some mX else if f=60 then some aW else none,loops:=fun _ _=>none }
def J8:Hooks:={ eager:=true,calls:=fun f=>if f=28 then some qG else none,loops:=fun _ _=>none }
theorem Qw(s:ByteArray)(w:World):am Tryz.prog Kg 1000 28 [.str s false] (SS.mk [] [] true w []) =
 (.hc 29 [(.str s false)] (SS.mk [] [] true w []) (mX) fun x0 w0 b0=>
 (.hc 60 [(.xs x0.A x0.k x0.c)] (SS.mk [] [] true w0 b0) (aW) fun x1 w1 b1=>
 (.leaf .ret [(.tup [(.xs x1.A x1.k x1.c),(.bool true true)])] (SS.mk [] [] true w1 b1)))):=by kernel_rfl
theorem Qn(w:World):am Tryz.prog J8 1000 6 [] (SS.mk [] [] true w []) =
 (.hc 28 [(.str (ByteArray.mk #[47,105,112,52,47,49,46,50,46,51,46,52,47,116,99,112,47,53]) true)] (SS.mk [] [] true w []) (qG) fun x0 w0 b0=>
 (.split true
  (.need (canBytes w0 b0 x0.A x0.k)
  (.leaf .ret [(.bool ((bytesAt w0 x0.A x0.k).toList == (ByteArray.mk #[(4:UInt8),(1:UInt8),(2:UInt8),(3:UInt8),(4:UInt8),(6:UInt8),(0:UInt8),(5:UInt8)]).toList) false)] (SS.mk [] [] true w0 b0)))
  (.leaf .ret [(.bool false true)] (SS.mk [] [] true w0 b0)))):=by kernel_rfl
theorem jt{X:Nat}{w2 w3:World}(h:∀b,X<=b->w3.heap[b]?=w2.heap[b]?)(B:Nat):Sub B (only w2 fun b=>X<=b) (only w3 fun b=>X<=b):=
 ⟨fun a v hb hx=>by
  rw[bH]at hx ⊢
  exact⟨hx.1,by rw[World.cell?_of_block (w:=w2) (h _ hx.1)];exact hx.2⟩,fun b cs e fz hb hx=>by
  rw[cG]at hx ⊢
  exact⟨hx.1,by rw[h b hx.1];exact hx.2⟩⟩
theorem AA{X:Nat}{w w':World}(h:∀b,X<=b->w'.heap[b]?=w.heap[b]?)(B:Nat):Sub B (only w fun b=>X<=b) w':=
 ⟨fun a v hb hx=>by
  rw[bH]at hx
  rw[World.cell?_of_block (w:=w) (h _ hx.1)]
  exact hx.2,fun b cs e fz hb hx=>by
  rw[cG]at hx
  rw[h b hx.1]
  exact hx.2⟩
theorem qC{w0 w:World}{X:Nat}(h:X<=w0.heap.size)(B:Nat):Sub B (Rx.since w0 w) (only w fun b=>X<=b):=
 ⟨fun a v hb hx=>by
  rw[cu]at hx
  rw[bH]
  exact⟨Nat.le_trans h hx.1,hx.2⟩,fun b cs e fz hb hx=>by
  rw[cZ]at hx
  rw[cG]
  exact⟨Nat.le_trans h hx.1,hx.2⟩⟩
def NmQ(l:List CT)(X:Nat)(A:Option Addr)(k c:Nat)(w':World):Prop:=RowAt MaX 3 (only w' fun b=>X<=b) w'.heap.size A k l/\k<=c
theorem NmQ.hR{l:List CT}{X:Nat}{w:World}(hX:w.heap.size<X):∀A' k c' (w2 w3:World),w3.heap.size=w2.heap.size->(∀b,b≠w.heap.size->w3.heap[b]?=w2.heap[b]?)->NmQ l X A' k c' w2->NmQ l X A' k c' w3:=by
 rintro A k c w2 w3 hs hb ⟨h,hk⟩
 exact⟨h.sub MaX.lasts (jt (fun b hb'=>hb b (by omega)) _) (by omega),hk⟩
theorem mc(l:List CT)(hok:OkL l)(h0:l≠[])(A:Option Addr)(n c B:Nat)(w:World)(h:Bts w B A n (aj l))(hB:B<=w.heap.size)(hc:n<=c)(hn:(n:Int)<2^46)(hl:∀x∈l,x.c.val.length<=2147483647)(hll:l.length<2^40)(ht:Tens w) :
  Calls Tryz.prog 31 #[.slice A n c] w fun e w'=>∃A' k c',e=.returned (.tuple #[.slice A' k c',.nilIface])/\0<k/\Below w.heap.size w w'/\NmQ l (w.heap.size+1) A' k c' w':=by
 refine tz A n c w (NmQ l (w.heap.size+1)) (NmQ.hR (Nat.lt_succ_self _)) (fun w1 hb1 hs1=>?_)
 refine(DY l hok h0 A n c B w1 (h.below (hb1.mono hB) (Nat.le_refl _)) (Nat.le_trans hB hb1.size) hc hn hl hll (ht.below hb1 ht.lt)).mono ?_
 rintro e w' ⟨v,rfl,⟨A',k,c',rfl,hr,hk⟩,hb'⟩
 refine⟨A',k,c',rfl,?_,hb',hr.sub MaX.lasts (qC (by omega) _) (Nat.le_refl _),hk⟩
 rw[hr.1]
 exact List.length_pos_iff.2 h0
theorem Aw(l:List CT)(hok:OkL l)(h0:l≠[])(hlen:(aR l).length<2^40)(hby:(aj l).length<2^40)(hl:∀x∈l,x.c.val.length<=2147483647)(hll:l.length<2^40)(w:World)(ht:Tens w) :
  Calls Tryz.prog 29 #[.string ⟨(aR l).toArray⟩] w fun e w'=>∃A k c,e=.returned (.tuple #[.slice A k c,.nilIface])/\0<k/\Below w.heap.size w w'/\NmQ l (w.heap.size+1) A k c w':=by
 refine Fz _ w (NmQ l (w.heap.size+1)) (fun w1 A n c w2=>n<=c/\Bts (Rx.since w1 w2) w2.heap.size A n (aj l)) (NmQ.hR (Nat.lt_succ_self _)) (fun w1 hb1 hs1=>?_) (fun A n c w1 w2 w3 hb1 hs1 hb12 hS hs3 hb3 hblk=>?_)
 ·refine(oU l hok h0 hlen hby hl w1 (ht.below hb1 ht.lt)).mono ?_
  rintro e w' ⟨v,rfl,⟨A,n,c,rfl,hc,hb⟩,hb'⟩
  exact⟨A,n,c,rfl,hb',hc,hb⟩
 ·obtain⟨hc,hb⟩:=hS
  have hn:=hb.1
  have hb3':Bts w3 w3.heap.size A n (aj l):=by
   refine hb.sub ((qC (w0:=w1) (X:=w.heap.size+1) (by omega) _).trans (AA (fun b hb'=>hblk b (by omega)) _)) (by omega)
  refine(mc l hok h0 A n c w3.heap.size w3 hb3' (Nat.le_refl _) hc (by omega) hl hll (ht.below hb3 ht.lt)).mono ?_
  rintro e w' ⟨A',k,c',rfl,hk0,hb',hq,hkc⟩
  refine⟨A',k,c',rfl,hk0,hb',?_,hkc⟩
  have hsz:w.heap.size+1<=w3.heap.size+1:=Nat.succ_le_succ hb3.size
  refine hq.sub MaX.lasts ⟨fun a v hb hx=>?_,fun b cs e fz hb hx=>?_⟩ (Nat.le_refl _)
  ·rw[bH]at hx ⊢
   exact⟨Nat.le_trans hsz hx.1,hx.2⟩
  ·rw[cG]at hx ⊢
   exact⟨Nat.le_trans hsz hx.1,hx.2⟩
def OI(l:List CT)(w:World)(v:Value)(w':World):Prop:=∃A k c,v=.tuple #[.slice A k c,.bool true]/\Bts w' w'.heap.size A k (aj l)/\(0<k->∀a,A=some a->w.heap.size<=a.block)
theorem qj(l:List CT)(hok:OkL l)(h0:l≠[])(hlen:(aR l).length<2^40)(hby:(aj l).length<128)(hl:∀x∈l,x.c.val.length<=2147483647)(hll:l.length<2^30)(w:World)(ht:Tens w) :
  Calls Tryz.prog 28 #[.string ⟨(aR l).toArray⟩] w (bF (OI l w) w):=by
 refine aH (hk:=Kg) (n:=1000) (args:=[.str ⟨(aR l).toArray⟩ false]) ⟨trivial,trivial⟩ ?_
 refine ah (Qw _ w) ?_
 refine dJ (R:=fun(y:UV) wc w'=>0<y.k/\NmQ l (wc.heap.size+1) y.A y.k y.c w') (Fine.start w _) (fun y=>⟨rfl,trivial,trivial,trivial⟩) (fun β w0 hst ho hb=>?_) ?_
 ·refine(Aw l hok h0 hlen (by omega) hl (by omega) w0 (ht.below hb ht.lt)).mono ?_
  rintro e w' ⟨A,k,c,rfl,hk0,hb',hq⟩
  exact⟨⟨A,k,c⟩,rfl,hb',hk0,hq⟩
 rintro⟨A,k,c⟩ wc w1 b1 hbc ⟨hk0,hq,hkc⟩ hbc1 hb1 hbs1
 dsimp only at hk0 hq hkc ⊢
 have hkl:=hq.1
 obtain⟨ad,rfl,hadlt,_⟩:=hq.2 hk0
 have hq1:RowAt MaX 3 w1 w1.heap.size (some ad) k l:=hq.sub MaX.lasts (AA (fun _ _=>rfl) _) (Nat.le_refl _)
 refine dJ (w:=w) (R:=fun(y:UV) wd w'=>Bts w' w'.heap.size y.A y.k (aj l)/\(0<y.k->∀a,y.A=some a->wd.heap.size<=a.block)) (Fine.mk' hb1 fun i hi=>(hbs1 i hi).1) (fun y=>⟨rfl,trivial⟩) (fun β wd hst ho hb=>?_) ?_
 ·have hqd:RowAt MaX 3 wd w1.heap.size (some ad) k l:=hq.sub MaX.lasts ⟨fun a v hb hx=>?_,fun b cs e fz hb hx=>?_⟩ (Nat.le_refl _)
  ·refine(oo ad k c l w1.heap.size wd hqd ho.sz (by omega) (by omega) hby).mono ?_
   rintro e w' ⟨v,rfl,⟨A',n',c',rfl,h1,h2⟩,hb'⟩
   exact⟨⟨A',n',c'⟩,rfl,hb',h1,h2⟩
  ·rw[bH]at hx
   rw[ho.cell hb fun hm=>by have:=(hbs1 _ hm).2;have:=hx.1;omega]
   exact hx.2
  ·rw[cG]at hx
   rw[ho.heap hb fun hm=>by have:=(hbs1 _ hm).2;have:=hx.1;omega]
   exact hx.2
 rintro⟨A',k',c'⟩ wd w2 b2 hbd ⟨h1,h2⟩ hbd2 hb2 hbs2
 dsimp only at h1 h2 ⊢
 refine aN (Fine.mk' hb2 fun i hi=>(hbs2 i hi).1) fun β w3 hst hb3=>⟨A',k',c',rfl,?_,fun h0 a ha=>Nat.le_trans hbd.size (h2 h0 a ha)⟩
 have o:=hst.old rfl
 rcases Nat.eq_zero_or_pos k' with h0 |h0
 ·exact⟨h1.1,fun h=>by omega⟩
 ·exact(o.bts h1 (Nat.le_refl _) fun a ha hm=>by have:=(hbs2 _ hm).2;have:=h2 h0 a ha;omega).mono o.sz
def H7:List CT:=[⟨⟨4,[1,2,3,4]⟩,aF 1 2 3 4,.F (by decide) rfl rfl (fun _=>rfl) 1 2 3 4⟩,⟨⟨6,[0,5]⟩,Lib.decDigits 5,.P (by decide) rfl rfl (fun _=>rfl) 0 5⟩]
theorem Cn:aR H7=[47,105,112,52,47,49,46,50,46,51,46,52,47,116,99,112,47,53]:=by
 have h5:Lib.decDigits 5=[53]:=by rw[Lib.decDigits_one (by omega)];rfl
 show cW 4 (aF 1 2 3 4)++(cW 6 (Lib.decDigits 5)++[])=_
 rw[h5]
 rfl
theorem sR:aj H7=[4,1,2,3,4,6,0,5]:=rfl
theorem sf(w:World)(ht:Tens w):Calls Tryz.prog 6 #[] w (bF (f7 fun b=>b=true) w):=by
 refine aH (hk:=J8) (n:=1000) (args:=[]) trivial ?_
 refine ah (Qn w) ?_
 refine dJ (R:=fun(y:UV) wc w'=>Bts w' w'.heap.size y.A y.k (aj H7)/\(0<y.k->∀a,y.A=some a->wc.heap.size<=a.block)) (Fine.start w _) (fun y=>⟨rfl,trivial,trivial,trivial⟩) (fun β w0 hst ho hb=>?_) ?_
 ·have h:=qj H7 ⟨fun h=>absurd h (by decide),fun h=>absurd h (by decide),trivial⟩ (by simp[H7]) (by rw[Cn];decide) (by rw[sR];decide) (by intro x hx;simp only[H7,List.mem_cons,List.not_mem_nil,or_false]at hx;rcases hx with rfl |rfl <;> simp) (by simp[H7]) w0 (ht.below hb ht.lt)
  rw[Cn]at h
  refine h.mono ?_
  rintro e w' ⟨v,rfl,⟨A,k,c,rfl,h1,h2⟩,hb'⟩
  exact⟨⟨A,k,c⟩,rfl,hb',h1,h2⟩
 rintro⟨A,k,c⟩ wc w1 b1 hbc ⟨h1,h2⟩ hbc1 hb1 hbs1
 dsimp only at h1 h2 ⊢
 refine af (fun _=>aa (h1.canBytesN (Nat.le_refl _) fun a ha hm=>?_) ?_) (fun h=>by cases h)
 ·have hk:=h1.1
  rw[sR]at hk
  have:=(hbs1 _ hm).2
  have:=h2 (by rw[hk];decide) a ha
  omega
 ·refine aN (Fine.mk' hb1 fun i hi=>(hbs1 i hi).1) fun β w3 hst hb3=>⟨_,rfl,?_⟩
  rw[h1.bytesAt,sR]
  exact beq_self_eq_true _
end
section
open Go Go.Rx Go.RowKit
def Br:Hooks:={ calls:=fun f=>if f=59 then some aL else if f=60∨f=53 then some aW else none,loops:=fun _ _=>none }
theorem Qt(A:Option Addr)(n c:Nat)(w:World):am Tryz.prog Br 1000 54 [.xs A n c] (SS.mk [] [] true w []) =
 (.hc 59 [(.xs A n c)] (SS.mk [] [] true w []) (aL) fun x0 w0 b0=>
 (.choose (.appendCap (ByteArray.size x0) 0 5) fun c1=>
 (.leaf .ret [(.tup [(.slc 0 0 (ByteArray.size x0) c1 false false),(.one .nilIface rfl)])] (SS.mk [(.ints .u8 (List.map (fun b=>(↑b.toNat:Int)) x0.data.toList++List.replicate (c1-ByteArray.size x0) (0:Int)) 5 c1 (c1+(1:Nat)))] [] true w0 b0)))):=by kernel_rfl
theorem Qr(A:Option Addr)(n c:Nat)(w:World):am Tryz.prog Br 1000 55 [.xs A n c] (SS.mk [] [] true w []) =
 (.hc 60 [(.xs A n c)] (SS.mk [] [] true w []) (aW) fun x0 w0 b0=>
 (.leaf .ret [(.tup [(.xs x0.A x0.k x0.c),(.one .nilIface rfl)])] (SS.mk [] [] true w0 b0))):=by kernel_rfl
theorem Qo(A:Option Addr)(n c:Nat)(w:World):am Tryz.prog Br 1000 27 [.xs A n c] (SS.mk [] [] true w []) =
 (.hc 53 [(.xs A n c)] (SS.mk [] [] true w []) (aW) fun x0 w0 b0=>
 (.hc 60 [(.xs x0.A x0.k x0.c)] (SS.mk [] [] true w0 b0) (aW) fun x1 w1 b1=>
 (.leaf .ret [(.xs x1.A x1.k x1.c)] (SS.mk [] [] true w1 b1)))):=by kernel_rfl
def Fo:Hooks:={ calls:=fun f=>if f=29∨f=31 then some mX else if f=30 then some aW else none,loops:=fun _ _=>none }
noncomputable abbrev uM(x0:(Hook.X (mX)))(w0:World)(b0:List Nat):T:=(.hc 30 [(.xs x0.A x0.k x0.c)] (SS.mk [(.cells [(.xs x0.A x0.k x0.c)] 1 51 0 0)] [] true w0 b0) (aW) fun x1 w1 b1=>(.leaf .ret [(.tup [(.xs x1.A x1.k x1.c),(.bool true true)])] (SS.mk [(.cells [(.xs x0.A x0.k x0.c)] 1 51 0 0)] [] true w1 b1)))
noncomputable abbrev lg(k0_:Nat):SObj:=(.cells [(.one (.slice none 0 0) rfl)] 1 k0_ 0 0)
theorem LX(A:Option Addr)(n c:Nat)(w:World):am Tryz.prog Fo 1000 24 [.xs A n c] (SS.mk [] [] true w []) =
(.need (canBytes w [] A n) (.hc 29 [(.str (bytesAt w A n) false)] (SS.mk [(lg 51)] [] true w []) (mX) fun x0 w0 b0=>(uM x0 w0 b0))):=by kernel_rfl
theorem QA(A:Option Addr)(n c:Nat)(w:World):(by have h:=LX A n c w;unfold lg uM at h;exact type_of% h):=LX A n c w
theorem LV(A:Option Addr)(n c:Nat)(w:World):am Tryz.prog Fo 1000 25 [.xs A n c] (SS.mk [] [] true w []) =
(.hc 31 [(.xs A n c)] (SS.mk [(lg 51)] [] true w []) (mX) fun x0 w0 b0=>(uM x0 w0 b0)):=by kernel_rfl
theorem Qz(A:Option Addr)(n c:Nat)(w:World):(by have h:=LV A n c w;unfold lg uM at h;exact type_of% h):=LV A n c w
structure M2 where
 A:Option Addr
 k:Nat
 c:Nat
 A':Option Addr
 k':Nat
 c':Nat
def m9(args:List SV)(l:List SObj)(x:M2):List SObj:=
 match args with
 |[.fn _ _ [_,.ptr t _,.ptr u _,.ptr v _]]=>((l.set t (.cells [.xs x.A x.k x.c] 1 22 0 0)).set u (.cells [.xs x.A' x.k' x.c'] 1 22 0 0)).set v (.cells [.bool true true] 1 4 0 0)
 |_=>l
@[reducible] def tP:Hook:={ X:=M2,out:=fun args s x=>(.bool true true,m9 args s.objs x) }
def Kb:Hooks:={ calls:=fun f=>if f=32 then some tP else none,loops:=fun _ _=>none }
noncomputable abbrev uL(x0:(Hook.X (tP)))(A:Option Addr)(n c:Nat)(w0:World)(b0:List Nat):T:=(.leaf .ret [(.tup [(.xs x0.A x0.k x0.c),(.xs x0.A' x0.k' x0.c'),(.bool true true)])] (SS.mk [(.cells [(.xs A n c)] 1 24 0 0),(.cells [(.xs x0.A x0.k x0.c)] 1 22 0 0),(.cells [(.xs x0.A' x0.k' x0.c')] 1 22 0 0),(.cells [(.bool true true)] 1 4 0 0)] [] true w0 b0))
noncomputable abbrev rh(x0:(Hook.X (tP))):Prop:=(x0.A'=x0.A'/\x0.k'=x0.k'/\x0.c'=x0.c')
theorem LP(A:Option Addr)(n c:Nat)(w:World):am Tryz.prog Kb 1000 23 [.xs A n c] (SS.mk [] [] true w []) =
(.hc 32 [(.fn (.func 52) [] [(.ptr 0 0),(.ptr 1 0),(.ptr 2 0),(.ptr 3 0)])] (SS.mk [(.cells [(.xs A n c)] 1 24 0 0),(lg 22),(lg 22),(.cells [(.bool false true)] 1 4 0 0)] [] true w []) (tP) fun x0 w0 b0=>(.both (.need (rh x0) (.both (uL x0 A n c w0 b0) (.need (rh x0) (uL x0 A n c w0 b0)))) (.need (rh x0) (.need (x0.A=x0.A/\x0.k=x0.k/\x0.c=x0.c) (.need (rh x0) (uL x0 A n c w0 b0)))))):=by kernel_rfl
theorem Qs(A:Option Addr)(n c:Nat)(w:World):(by have h:=LP A n c w;unfold rh lg uL at h;exact type_of% h):=LP A n c w
end
section
open Go Go.Rx Go.RowKit
@[reducible] def Dm:Hook:={ X:=M2,out:=fun _ s x=>(.tup [.xs x.A x.k x.c,.xs x.A' x.k' x.c',.bool true false],s.objs) }
def Ka:Hooks:={ eager:=true,calls:=fun f=>if f=21∨f=22∨f=6∨f=11 then some bl else if f=18∨f=26 then some aL else if f=19∨f=27 then some aW else if f=23 then some Dm else if f=24∨f=25 then some qG else none,loops:=fun _ _=>none }
noncomputable abbrev zl(x2:(Hook.X (aL)))(c5:Nat):SObj:=(.ints .u8 (List.map (fun b=>(↑b.toNat:Int)) x2.data.toList++List.replicate (c5-ByteArray.size x2) (0:Int)) 5 c5 (c5+1))
noncomputable abbrev iz(x2:(Hook.X (aL)))(c5:Nat)(w3:World)(x3:(Hook.X (aW)))(c7:Nat)(w6:World)(b6:List Nat):SS:=(SS.mk [(zl x2 c5),(.ints .u8 (List.map (fun b=>(↑b.toNat:Int)) (List.map (fun i=>UInt8.ofNat (ai w3 ((x3.A.getD default).add i)).toNat) (List.range x3.k))++List.replicate (c7-(bytesAt w3 x3.A x3.k).size) (0:Int)) 5 c7 (c7+1))] [] true w6 b6)
noncomputable abbrev gF(x2:(Hook.X (aL)))(c5:Nat)(w3:World)(x3:(Hook.X (aW)))(c7:Nat)(w12:World)(b12:List Nat):T:=(.leaf .ret [(.bool false true)] (iz x2 c5 w3 x3 c7 w12 b12))
theorem LO(A:Option Addr)(n c:Nat)(w:World):am Tryz.prog Ka 1000 5 [.xs A n c] (SS.mk [] [] true w []) =
(.hc 21 [(.xs A n c)] (SS.mk [] [] true w []) (bl) fun x0 w0 b0=>(.split (!x0) (.leaf .ret [(.bool true true)] (SS.mk [] [] true w0 b0)) (.hc 22 [(.xs A n c)] (SS.mk [] [] true w0 b0) (bl) fun x1 w1 b1=>(.split (!x1) (.hc 6 [] (SS.mk [] [] true w1 b1) (bl) fun x2 w2 b2=>(.leaf .ret [(.bool x2 false)] (SS.mk [] [] true w2 b2))) (.hc 18 [(.xs A n c)] (SS.mk [] [] true w1 b1) (aL) fun x2 w2 b2=>(.hc 19 [(.xs A n c)] (SS.mk [] [] true w2 b2) (aW) fun x3 w3 b3=>(.need (canBytes w3 b3 x3.A x3.k) (.hc 23 [(.xs A n c)] (SS.mk [] [] true w3 b3) (Dm) fun x4 w4 b4=>(.choose (.appendCap (ByteArray.size x2) 0 5) fun c5=>(.hc 24 [(.slc 0 0 (ByteArray.size x2) c5 false false)] (SS.mk [(zl x2 c5)] [] true w4 b4) (qG) fun x6 w6 b6=>(.choose (.appendCap ((bytesAt w3 x3.A x3.k).size) 0 5) fun c7=>(.hc 25 [(.slc 1 0 ((bytesAt w3 x3.A x3.k).size) c7 false false)] (iz x2 c5 w3 x3 c7 w6 b6) (qG) fun x8 w8 b8=>(.hc 6 [] (iz x2 c5 w3 x3 c7 w8 b8) (bl) fun x9 w9 b9=>(.split x9 (.hc 26 [(.xs A n c)] (iz x2 c5 w3 x3 c7 w9 b9) (aL) fun x10 w10 b10=>(.split (ByteArray.toList x10 == ByteArray.toList x2) (.hc 27 [(.xs A n c)] (iz x2 c5 w3 x3 c7 w10 b10) (aW) fun x11 w11 b11=>(.need (canBytes w11 b11 x11.A x11.k) (.split ((bytesAt w11 x11.A x11.k).toList == (bytesAt w3 x3.A x3.k).toList) (.split true (.need (canBytes w11 b11 x4.A x4.k) (.split ((bytesAt w11 x4.A x4.k).toList == ByteArray.toList x2) (.need (canBytes w11 b11 x4.A' x4.k') (.split ((bytesAt w11 x4.A' x4.k').toList == (bytesAt w3 x3.A x3.k).toList) (.split true (.split true (.hc 11 [(.xs x6.A x6.k x6.c),(.xs A n c)] (iz x2 c5 w3 x3 c7 w11 b11) (bl) fun x12 w12 b12=>(.split x12 (.hc 11 [(.xs x8.A x8.k x8.c),(.xs A n c)] (iz x2 c5 w3 x3 c7 w12 b12) (bl) fun x13 w13 b13=>(.leaf .ret [(.bool x13 false)] (iz x2 c5 w3 x3 c7 w13 b13))) (gF x2 c5 w3 x3 c7 w12 b12))) (gF x2 c5 w3 x3 c7 w11 b11)) (gF x2 c5 w3 x3 c7 w11 b11)) (gF x2 c5 w3 x3 c7 w11 b11))) (gF x2 c5 w3 x3 c7 w11 b11))) (gF x2 c5 w3 x3 c7 w11 b11)) (gF x2 c5 w3 x3 c7 w11 b11)))) (gF x2 c5 w3 x3 c7 w10 b10))) (gF x2 c5 w3 x3 c7 w9 b9))))))))))))))):=by kernel_rfl
theorem Qq(A:Option Addr)(n c:Nat)(w:World):(by have h:=LO A n c w;unfold gF iz zl at h;exact type_of% h):=LO A n c w
end
section
open Go Go.Rx Go.RowKit
def NZ(bs:List UInt8)(w:World)(v:Value)(w':World):Prop:=∃A k c,v=.tuple #[.slice A k c,.nilIface]/\Bts w' w'.heap.size A k bs/\(0<k->∀a,A=some a->w.heap.size<=a.block)
theorem rH(ad:Addr)(n c:Nat)(l:List CT)(B:Nat)(w:World)(h:RowAt MaX 3 w B (some ad) n l)(hB:B<=w.heap.size)(hn:n<2^30)(ht:Tens w)(hl:(aR l).length<=140737488355328) :
  Calls Tryz.prog 54 #[.slice (some ad) n c] w (bF (NZ (aR l) w) w):=by
 refine aH (hk:=Br) (n:=1000) (args:=[.xs (some ad) n c]) ⟨trivial,trivial⟩ ?_
 refine ah (Qt (some ad) n c w) ?_
 refine dJ (R:=fun(x:ByteArray) _ _=>x=⟨(aR l).toArray⟩) (Fine.start w _) (fun x=>⟨rfl,trivial⟩) (fun β w0 hst ho hb=>?_) ?_
 ·refine(oq ad n c l B w0 (h.sub MaX.lasts (Below.sub (hb.mono hB)) (Nat.le_refl _)) (Nat.le_trans hB hb.size) hn (ht.below hb ht.lt) hl).mono ?_
  rintro e w' ⟨rfl,hb'⟩
  exact⟨_,rfl,hb',rfl⟩
 rintro x w0 w1 b0 hb0 rfl hb01 hb1 hbs
 refine aE ?_
 rintro cc ⟨t,hcc⟩
 have hf:=fun objs=>Fine.mk' (objs:=objs) hb1 fun b hb=>(hbs b hb).1
 refine aN (hf _) fun β w' hst hb=>?_
 have o:=hst.old rfl
 have h0:=hst.at_ 0 _ rfl
 have hz:(⟨(aR l).toArray⟩:ByteArray).size=(aR l).length:=aB _
 refine⟨some ⟨β 0,0,none⟩,(aR l).length,cc,?_,?_,fun _ a ha=>?_⟩
 ·simp only[SV.den,ae]
  rw[hz]
 ·have hL:=cp (k:=(aR l).length) h0 ?_ ?_ (hst.lt 0 (by simp[SS.n]))
  ·refine cast ?_ hL
   congr 1
   simp[ByteArray.size,Function.comp_def]
  ·intro v hv
   rcases List.mem_append.1 hv with h |h
   ·obtain⟨b,_,rfl⟩:=List.mem_map.1 h
    have:=b.toNat_lt
    omega
   ·have:=List.eq_of_mem_replicate h
    omega
  ·simp[ByteArray.size]
 ·cases ha
  exact(hf _).new o 0 (by simp[SS.n])
theorem oS(ad:Addr)(n c:Nat)(l:List CT)(B:Nat)(w:World)(h:RowAt MaX 3 w B (some ad) n l)(hB:B<=w.heap.size)(hn:n<2^30)(hl:(aj l).length<2^40) :
  Calls Tryz.prog 55 #[.slice (some ad) n c] w (bF (NZ (aj l) w) w):=by
 refine aH (hk:=Br) (n:=1000) (args:=[.xs (some ad) n c]) ⟨trivial,trivial⟩ ?_
 refine ah (Qr (some ad) n c w) ?_
 refine dJ (R:=fun(y:UV) wc w'=>Bts w' w'.heap.size y.A y.k (aj l)/\(0<y.k->∀a,y.A=some a->wc.heap.size<=a.block)) (Fine.start w _) (fun y=>⟨rfl,trivial⟩) (fun β w0 hst ho hb=>?_) ?_
 ·refine(ql ad n c l B w0 (h.sub MaX.lasts (Below.sub (hb.mono hB)) (Nat.le_refl _)) (Nat.le_trans hB hb.size) hn hl).mono ?_
  rintro e w' ⟨v,rfl,⟨A',n',c',rfl,h1,h2⟩,hb'⟩
  exact⟨⟨A',n',c'⟩,rfl,hb',h1,h2⟩
 rintro⟨A',k',c'⟩ wd w2 b2 hbd ⟨h1,h2⟩ hbd2 hb2 hbs2
 dsimp only at h1 h2 ⊢
 refine aN (Fine.mk' hb2 fun i hi=>(hbs2 i hi).1) fun β w3 hst hb3=>⟨A',k',c',rfl,?_,fun h0 a ha=>Nat.le_trans hbd.size (h2 h0 a ha)⟩
 have o:=hst.old rfl
 rcases Nat.eq_zero_or_pos k' with h0 |h0
 ·exact⟨h1.1,fun h=>by omega⟩
 ·exact(o.bts h1 (Nat.le_refl _) fun a ha hm=>by have:=(hbs2 _ hm).2;have:=h2 h0 a ha;omega).mono o.sz
theorem xl(A:Option Addr)(n c:Nat)(l:List CT)(B:Nat)(w:World)(h:CTsAt w B A n l)(h0:l≠[])(hB:B<=w.heap.size)(hn:n<2^30)(hv:∀x∈l,x.c.val.length<=2147483647)(hl:(aj l).length<2^40) :
  Calls Tryz.prog 27 #[.slice A n c] w (bF (Ju l w) w):=by
 have hln:=h.1
 refine aH (hk:=Br) (n:=1000) (args:=[.xs A n c]) ⟨trivial,trivial⟩ ?_
 refine ah (Qo A n c w) ?_
 refine dJ (R:=fun(y:UV) wc w'=>RowAt MaX 3 (Rx.since wc w') w'.heap.size y.A y.k l) (Fine.start w _) (fun y=>⟨rfl,trivial⟩) (fun β w0 hst ho hb=>?_) ?_
 ·refine(mM A n c l B w0 (h.below (hb.mono hB) (Nat.le_refl _)) (Nat.le_trans hB hb.size) (by omega) hv).mono ?_
  rintro e w' ⟨v,rfl,⟨A',n',c',rfl,h1,h2⟩,hb'⟩
  exact⟨⟨A',n',c'⟩,rfl,hb',h1⟩
 rintro⟨A1,k1,c1⟩ wc w1 b1 hbc hr hbc1 hb1 hbs1
 dsimp only at hr ⊢
 have hk1:=hr.1
 obtain⟨ad,rfl,_,_⟩:=hr.2 (by rw[hk1];exact List.length_pos_iff.2 h0)
 refine dJ (w:=w) (R:=fun(y:UV) wd w'=>Bts w' w'.heap.size y.A y.k (aj l)/\(0<y.k->∀a,y.A=some a->wd.heap.size<=a.block)) (Fine.mk' hb1 fun i hi=>(hbs1 i hi).1) (fun y=>⟨rfl,trivial⟩) (fun β wd hst ho hb=>?_) ?_
 ·have hqd:RowAt MaX 3 wd w1.heap.size (some ad) k1 l:=hr.sub MaX.lasts ⟨fun a v hb hx=>?_,fun b cs e fz hb hx=>?_⟩ (Nat.le_refl _)
  ·refine(ql ad k1 c1 l w1.heap.size wd hqd ho.sz (by omega) hl).mono ?_
   rintro e w' ⟨v,rfl,⟨A',n',c',rfl,h1,h2⟩,hb'⟩
   exact⟨⟨A',n',c'⟩,rfl,hb',h1,h2⟩
  ·rw[cu]at hx
   rw[ho.cell hb fun hm=>by have:=(hbs1 _ hm).2;have:=hx.1;omega]
   exact hx.2
  ·rw[cZ]at hx
   rw[ho.heap hb fun hm=>by have:=(hbs1 _ hm).2;have:=hx.1;omega]
   exact hx.2
 rintro⟨A',k',c'⟩ wd w2 b2 hbd ⟨h1,h2⟩ hbd2 hb2 hbs2
 dsimp only at h1 h2 ⊢
 refine aN (Fine.mk' hb2 fun i hi=>(hbs2 i hi).1) fun β w3 hst hb3=>⟨A',k',c',rfl,?_,fun h0 a ha=>Nat.le_trans hbd.size (h2 h0 a ha)⟩
 have o:=hst.old rfl
 rcases Nat.eq_zero_or_pos k' with h0 |h0
 ·exact⟨h1.1,fun h=>by omega⟩
 ·exact(o.bts h1 (Nat.le_refl _) fun a ha hm=>by have:=(hbs2 _ hm).2;have:=h2 h0 a ha;omega).mono o.sz
def Mj(l:List CT)(w:World)(v:Value)(w':World):Prop:=∃A k c,v=.tuple #[.slice A k c,.bool true]/\RowAt CompR 2 (Rx.since w w') w'.heap.size A k (l.map (·.c))
theorem HQ{w:World}{l:List CT}(hl:∀x∈l,x.c.val.length<=2147483647)(hll:l.length<2^40){ty:TypeId}{A:Option Addr}{k c:Nat}{wc w1:World}{b1:List Nat}(hk0:0<k)(hq:NmQ l (wc.heap.size+1) A k c w1)(hb1:Below w.heap.size w w1)(hbs1:∀b∈b1,w.heap.size<=b/\b<wc.heap.size) :
  (T.call 30 [(.xs A k c)] (SS.mk [(.cells [(.xs A k c)] 1 ty 0 0)] [] true w1 b1) (Hook.X (aW)) (Hook.out (aW) [(.xs A k c)] (SS.mk [(.cells [(.xs A k c)] 1 ty 0 0)] [] true w1 b1)) fun x1 w1 b1=>
  (.leaf .ret [(.tup [(.xs x1.A x1.k x1.c),(.bool true true)])] (SS.mk [(.cells [(.xs A k c)] 1 ty 0 0)] [] true w1 b1))).holds (cS Tryz.prog (bC fun v w'=>Mj l w v w'/\Below w.heap.size w w')):=by
 obtain⟨hq,hkc⟩:=hq
 have hkl:=hq.1
 obtain⟨ad,rfl,hadlt,_⟩:=hq.2 hk0
 refine dJ (w:=w) (R:=fun(y:UV) wd w'=>RowAt CompR 2 (Rx.since wd w') w'.heap.size y.A y.k (l.map (·.c))) (Fine.mk' hb1 fun i hi=>(hbs1 i hi).1) (fun y=>⟨rfl,trivial⟩) (fun β wd hst ho hb=>?_) ?_
 ·have hqd:RowAt MaX 3 wd w1.heap.size (some ad) k l:=hq.sub MaX.lasts ⟨fun a v hb hx=>?_,fun b cs e fz hb hx=>?_⟩ (Nat.le_refl _)
  ·refine(sY (some ad) k c l w1.heap.size wd hqd ho.sz (by omega) hl).mono ?_
   rintro e w' ⟨v,rfl,⟨A',n',c',rfl,h1⟩,hb'⟩
   exact⟨⟨A',n',c'⟩,rfl,hb',h1⟩
  ·rw[bH]at hx
   rw[ho.cell hb fun hm=>by have:=(hbs1 _ hm).2;have:=hx.1;omega]
   exact hx.2
  ·rw[cG]at hx
   rw[ho.heap hb fun hm=>by have:=(hbs1 _ hm).2;have:=hx.1;omega]
   exact hx.2
 rintro⟨A',k',c'⟩ wd w2 b2 hbd h1 hbd2 hb2 hbs2
 dsimp only at h1 ⊢
 refine aN (Fine.mk' hb2 fun i hi=>(hbs2 i hi).1) fun β w3 hst hb3=>⟨A',k',c',rfl,h1.sub CompR.lasts (kc (hst.old rfl) rfl (fun b hb=>(hbs2 b hb).2) hbd.size) (hst.old rfl).sz⟩
theorem yC(A:Option Addr)(n c:Nat)(l:List CT)(hok:OkL l)(h0:l≠[])(B:Nat)(w:World)(h:Bts w B A n (aR l))(hB:B<=w.heap.size)(hlen:(aR l).length<2^40)(hby:(aj l).length<2^40)(hl:∀x∈l,x.c.val.length<=2147483647)(hll:l.length<2^40)(ht:Tens w) :
  Calls Tryz.prog 24 #[.slice A n c] w (bF (Mj l w) w):=by
 refine aH (hk:=Fo) (n:=1000) (args:=[.xs A n c]) ⟨trivial,trivial⟩ ?_
 refine ah (QA A n c w) ?_
 rw[h.bytesAt]
 refine aa (h.canBytes hB (by simp)) ?_
 refine dJ (R:=fun(y:UV) wc w'=>0<y.k/\NmQ l (wc.heap.size+1) y.A y.k y.c w') (Fine.start w _) (fun y=>⟨rfl,trivial,trivial,trivial⟩) (fun β w0 hst ho hb=>?_) ?_
 ·refine(Aw l hok h0 hlen (by omega) hl hll w0 (ht.below hb ht.lt)).mono ?_
  rintro e w' ⟨A,k,c,rfl,hk0,hb',hq⟩
  exact⟨⟨A,k,c⟩,rfl,hb',hk0,hq⟩
 rintro⟨A1,k1,c1⟩ wc w1 b1 hbc ⟨hk0,hq⟩ hbc1 hb1 hbs1
 exact HQ hl hll hk0 hq hb1 hbs1
theorem BF(A:Option Addr)(n c:Nat)(l:List CT)(hok:OkL l)(h0:l≠[])(B:Nat)(w:World)(h:Bts w B A n (aj l))(hB:B<=w.heap.size)(hc:n<=c)(hby:(aj l).length<2^40)(hl:∀x∈l,x.c.val.length<=2147483647)(hll:l.length<2^40)(ht:Tens w) :
  Calls Tryz.prog 25 #[.slice A n c] w (bF (Mj l w) w):=by
 have hn:=h.1
 refine aH (hk:=Fo) (n:=1000) (args:=[.xs A n c]) ⟨trivial,trivial⟩ ?_
 refine ah (Qz A n c w) ?_
 refine dJ (R:=fun(y:UV) wc w'=>0<y.k/\NmQ l (wc.heap.size+1) y.A y.k y.c w') (Fine.start w _) (fun y=>⟨rfl,trivial,trivial,trivial⟩) (fun β w0 hst ho hb=>?_) ?_
 ·refine(mc l hok h0 A n c B w0 (h.below (hb.mono hB) (Nat.le_refl _)) (Nat.le_trans hB hb.size) hc (by omega) hl hll (ht.below hb ht.lt)).mono ?_
  rintro e w' ⟨A,k,c,rfl,hk0,hb',hq⟩
  exact⟨⟨A,k,c⟩,rfl,hb',hk0,hq⟩
 rintro⟨A1,k1,c1⟩ wc w1 b1 hbc ⟨hk0,hq⟩ hbc1 hb1 hbs1
 exact HQ hl hll hk0 hq hb1 hbs1
end
section
open Go Go.RowKit
theorem rJ(p0 p1 p2 p3:Addr)(w:World)(bs:List Nat)(R:World->Prop)(hbs:∀b∈bs,b<w.heap.size)
  (hR:∀w2 w3:World,w3.heap.size=w2.heap.size->(∀b,b≠w.heap.size->w3.heap[b]?=w2.heap[b]?)->R w2->R w3)
  (h:∀w1,Below w.heap.size w w1->w1.heap.size=w.heap.size+1->Calls Tryz.prog 52 #[.pointer (some p0),.pointer (some p1),.pointer (some p2),.pointer (some p3)] w1 fun e w'=>e=.returned (.tuple #[])/\Rx.Keep bs w1 w'/\R w') :
  Calls Tryz.prog 32 #[.func (.func 52) #[] #[.pointer (some p0),.pointer (some p1),.pointer (some p2),.pointer (some p3)]] w fun e w'=>e=.returned (.bool true)/\Rx.Keep bs w w'/\R w':=by
 have hmf:∀(fn:Fn) (first cap:Array Value) (w:World),(Instr.makeFunc fn first cap).run Tryz.prog w=.ok (.func fn first cap) w:=fun _ _ _ _=>rfl
 have h1:=h (w.alloc (Obj.cells #[Value.bool false] 4)) (Below.alloc (Below.refl _ _) (Nat.le_refl _) _) (Array.size_push ..)
 clear h
 go_enter_defers Tryz.func32,Tryz.ntmps32
 go_wp2_with fail
 refine h1.mono ?_
 rintro e w' ⟨rfl,hk,hr⟩
 have hb:w'.heap[w.heap.size]?=some (.cells #[.bool false] 4 (0,0)):=by
  rw[hk.block w.heap.size (by show w.heap.size<(w.heap.push _).size;simp) (fun hm=>Nat.lt_irrefl _ (hbs _ hm))]
  show(w.heap.push _)[w.heap.size]?=_
  simp
 have hc:w'.cell? ⟨w.heap.size,0,none⟩=some (.bool false):=by simp[World.cell?,hb]
 have hz:w'.frozen? ⟨w.heap.size,0,none⟩=false:=by simp[World.frozen?,hb]
 go_wp2
 refine leaves_cons (f:=66) (args:=#[.pointer (some ⟨w.heap.size,0,none⟩)]) (by simp) (by simp[go_sem]) ?_
 refine(zZ ⟨w.heap.size,0,none⟩ _).mono ?_
 rintro e u' w'' ⟨rfl,rfl,rfl⟩
 simp[Leaves,settle,results,Tryz.results32,go_sem]
 have hs:(w'.setCell ⟨w.heap.size,0,none⟩ (.bool true)).cell? ⟨w.heap.size,0,none⟩=some (.bool true):=by
  simp[World.cell?,World.setCell,Array.getElem?_modify,hb]
 rw[hs]
 have hz1:w.heap.size<w'.heap.size:=(Array.getElem?_eq_some_iff.1 hb).1
 have hblk:∀b,b≠w.heap.size->(w'.setCell ⟨w.heap.size,0,none⟩ (.bool true)).heap[b]?=w'.heap[b]?:=fun b hb=>Below.heap_setCell _ _ _ _ hb
 have hsz:(w'.setCell ⟨w.heap.size,0,none⟩ (.bool true)).heap.size=w'.heap.size:=by simp[World.setCell]
 refine⟨_,rfl,rfl,⟨hk.os,hk.tape,hk.output,?_,fun b hb1 hb2=>?_⟩,hR _ _ hsz hblk hr⟩
 ·show w.heap.size<=(w'.heap.modify _ _).size
  simp
  omega
 ·rw[hblk b (by omega),hk.block b (by show b<(w.heap.push _).size;simp;omega) hb2]
  exact Below.heap_alloc _ _ _ hb1
end
section
open Go Go.RowKit Go.Rx
theorem xo{w:World}{B p t:Nat}{A:Option Addr}{n c:Nat}{l:List CT}{T:TypeId}{x:Value}(h:CTsAt w B A n l)(h0:l≠[])(hB:B<=w.heap.size)(ht:Tens w)(hn:n<2^30)(hv:∀x∈l,x.c.val.length<=2147483647)(hl:(aR l).length<=140737488355328)
  (hp:w.heap[p]?=some (.cells #[.slice A n c] T (0,0))) (h1:w.heap[t]?=some (.cells #[x] 9 (0,0))) :
  Calls Tryz.prog 58 #[.pointer (some ⟨p,0,none⟩),.pointer (some ⟨t,0,none⟩)] w fun e w'=>e=.returned (.tuple #[])/\Keep [t] w w'/\w'.heap[t]?=some (.cells #[.string ⟨(aR l).toArray⟩] 9 (0,0)):=by
 have hlt:=(Array.getElem?_eq_some_iff.1 h1).1
 have c0:w.cell? ⟨p,0,none⟩=some (.slice A n c):=cellOf hp rfl
 have hid:=Hid.mk (And.intro h (And.intro h0 (And.intro ht (And.intro hn (And.intro hv hl)))))
 clear h h0 ht hn hv hl hp
 go_enter Tryz.func58,Tryz.ntmps58
 go_wp2_with fail
 obtain⟨h,h0,ht,hn,hv,hl⟩:=hid.out
 have hln:=h.1
 refine(mM A n c l B w h hB (by omega) hv).mono ?_
 rintro e w1 ⟨v,rfl,⟨A1,k1,c1,rfl,hr,hkc⟩,hw1⟩
 have hk1:=hr.1
 obtain⟨ad,rfl,_,_⟩:=hr.2 (by rw[hk1];exact List.length_pos_iff.2 h0)
 have hs:=oq ad k1 c1 l w1.heap.size w1 (hr.sub MaX.lasts (m7 _ _ _) (Nat.le_refl _)) (Nat.le_refl _) (by omega) (ht.below hw1 ht.lt) hl
 clear h h0 ht hn hv hl hln hk1 hr hkc
 go_wp2_with fail
 refine hs.mono ?_
 rintro e w2 ⟨rfl,hw12⟩
 have hw2:=hw1.trans (hw12.mono hw1.size)
 have g1:w2.heap[t]?=some (.cells #[x] 9 (0,0)):=by rw[hw2.block t hlt];exact h1
 have d1:w2.cell? ⟨t,0,none⟩=some x:=by simp[World.cell?,g1]
 have f1:w2.frozen? ⟨t,0,none⟩=false:=by simp[World.frozen?,g1]
 clear hw1 hw12
 go_wp2
 simp[bodyPost,results,Tryz.results58,go_sem]
 have hz:(w2.setCell ⟨t,0,none⟩ (.string ⟨(aR l).toArray⟩)).heap.size=w2.heap.size:=by simp[World.setCell]
 refine⟨⟨hw2.os,hw2.tape,hw2.output,by rw[hz];exact hw2.size,fun b hb hn=>?_⟩,by simp[World.setCell,Array.getElem?_modify,g1]⟩
 simp only[List.mem_cons,List.not_mem_nil,or_false]at hn
 rw[Below.heap_setCell _ _ _ _ (by show b≠t;exact hn)]
 exact hw2.block b hb
theorem yB{w:World}{B:Nat}{A:Option Addr}{n c:Nat}{l:List CT}(h:CTsAt w B A n l)(h0:l≠[])(hB:B<=w.heap.size)(ht:Tens w)(hn:n<2^30)(hv:∀x∈l,x.c.val.length<=2147483647)(hl:(aR l).length<=140737488355328) :
  Calls Tryz.prog 26 #[.slice A n c] w fun e w'=>e=.returned (.string ⟨(aR l).toArray⟩)/\Below w.heap.size w w':=by
 obtain⟨W,hW⟩:∃W,W=(w.alloc (.cells #[.slice A n c] 24)).alloc (.cells #[.string ⟨#[]⟩] 9):=⟨_,rfl⟩
 have hsz:W.heap.size=w.heap.size+2:=by rw[hW,bt,bt]
 have hbW:Below w.heap.size w W:=by rw[hW];exact((Below.refl _ _).alloc (Nat.le_refl _) _).alloc (by rw[bt];omega) _
 have hp:W.heap[w.heap.size]?=some (.cells #[.slice A n c] 24 (0,0)):=by
  rw[hW,Lib.alloc_old _ _ _ (by rw[bt];omega)]
  exact jN _ _
 have ht1:W.heap[w.heap.size+1]?=some (.cells #[.string ⟨#[]⟩] 9 (0,0)):=by
  rw[hW]
  have:=jN (w.alloc (.cells #[.slice A n c] 24)) (.cells #[.string ⟨#[]⟩] 9)
  rw[bt]at this
  exact this
 have hs:=yK ⟨w.heap.size,0,none⟩ ⟨w.heap.size+1,0,none⟩ W [w.heap.size+1] (fun w'=>w'.heap[w.heap.size+1]?=some (.cells #[.string ⟨(aR l).toArray⟩] 9 (0,0))) (fun b hb=>by simp at hb;omega)
  (fun w2 w3 heq h2=>by rw[heq _ (by omega)];exact h2) (fun w1 hb1=>by
   have hb:=hbW.trans (hb1.mono (by omega))
   exact xo (h.below (hb.mono hB) (Nat.le_refl _)) h0 (Nat.le_trans hB hb.size) (ht.below hb ht.lt) hn hv hl (by rw[hb1.block _ (by omega)];exact hp) (by rw[hb1.block _ (by omega)];exact ht1))
 clear h ht hp ht1
 subst hW
 go_enter Tryz.func26,Tryz.ntmps26
 go_wp2_with fail
 refine hs.mono ?_
 rintro e w2 ⟨rfl,hk2,hr2⟩
 have d1:w2.cell? ⟨w.heap.size+1,0,none⟩=some (.string ⟨(aR l).toArray⟩):=by simp[World.cell?,hr2]
 have f1:w2.frozen? ⟨w.heap.size+1,0,none⟩=false:=by simp[World.frozen?,hr2]
 go_wp2
 simp[bodyPost,results,Tryz.results26,go_sem]
 have hs2:(w2.setCell ⟨w.heap.size+1,0,none⟩ (.string ⟨(aR l).toArray⟩)).cell? ⟨w.heap.size+1,0,none⟩=some (.string ⟨(aR l).toArray⟩):=by
  simp[World.cell?,World.setCell,Array.getElem?_modify,hr2]
 rw[hs2]
 exact⟨_,rfl,rfl,(hk2.below hbW (Nat.le_refl _) (by simp)).setCell (p:=⟨w.heap.size+1,0,none⟩) (by show w.heap.size<=w.heap.size+1;omega) _⟩
theorem zW{w:World}{B n:Nat}{A:Option Addr}{l:List UInt8}{S:Nat->Prop}(h:Bts w B A n l)(hf:0<n->∀a,A=some a->S a.block):Bts (only w S) B A n l:=by
 refine⟨h.1,fun hn=>?_⟩
 obtain⟨a,ha,hb,hx⟩:=h.2 hn
 exact⟨a,ha,hb,fun i x hi=>(bH _ _ _ _).2 ⟨by rw[aD];exact hf hn a ha,hx i x hi⟩⟩
def MmQ(l:List CT)(X t u v:Nat)(w':World):Prop:=∃A1 k1 c1 A2 k2 c2,w'.heap[t]?=some (.cells #[.slice A1 k1 c1] 22 (0,0))/\w'.heap[u]?=some (.cells #[.slice A2 k2 c2] 22 (0,0))/\w'.heap[v]?=some (.cells #[.bool true] 4 (0,0)) /\
 Bts (only w' fun b=>X<=b) w'.heap.size A1 k1 (aR l)/\Bts (only w' fun b=>X<=b) w'.heap.size A2 k2 (aj l)
theorem tq{w:World}{B p t u v:Nat}{A:Option Addr}{n c:Nat}{l:List CT}{T:TypeId}{x y z:Value}(h:CTsAt w B A n l)(h0:l≠[])(hB:B<=w.heap.size)(ht:Tens w)(hn:n<2^30)(hv:∀x∈l,x.c.val.length<=2147483647)(hl:(aR l).length<=140737488355328)(hlb:(aj l).length<2^40)
  (hp:w.heap[p]?=some (.cells #[.slice A n c] T (0,0))) (h1:w.heap[t]?=some (.cells #[x] 22 (0,0))) (h2:w.heap[u]?=some (.cells #[y] 22 (0,0))) (h3:w.heap[v]?=some (.cells #[z] 4 (0,0))) (hne:t≠u/\t≠v/\u≠v) :
  Calls Tryz.prog 52 #[.pointer (some ⟨p,0,none⟩),.pointer (some ⟨t,0,none⟩),.pointer (some ⟨u,0,none⟩),.pointer (some ⟨v,0,none⟩)] w fun e w'=>e=.returned (.tuple #[])/\Keep [t,u,v] w w'/\MmQ l w.heap.size t u v w':=by
 have hlt:=(Array.getElem?_eq_some_iff.1 h1).1
 have hlu:=(Array.getElem?_eq_some_iff.1 h2).1
 have hlv:=(Array.getElem?_eq_some_iff.1 h3).1
 have c0:w.cell? ⟨p,0,none⟩=some (.slice A n c):=cellOf hp rfl
 have hid:=Hid.mk (And.intro h (And.intro h0 (And.intro ht (And.intro hn (And.intro hv (And.intro hl hlb))))))
 clear h h0 ht hn hv hl hlb hp
 go_enter Tryz.func52,Tryz.ntmps52
 go_wp2_with fail
 obtain⟨h,h0,ht,hn,hv,hl,hlb⟩:=hid.out
 have hln:=h.1
 refine(mM A n c l B w h hB (by omega) hv).mono ?_
 rintro e w1 ⟨v1,rfl,⟨A1,k1,c1,rfl,hr,hkc⟩,hw1⟩
 have hk1:=hr.1
 obtain⟨ad,rfl,_,_⟩:=hr.2 (by rw[hk1];exact List.length_pos_iff.2 h0)
 have hr1:=hr.sub MaX.lasts (m7 _ _ _) (Nat.le_refl _)
 have hs:=rH ad k1 c1 l w1.heap.size w1 hr1 (Nat.le_refl _) (by omega) (ht.below hw1 ht.lt) hl
 have hs2:=fun w2 (hb:Below w1.heap.size w1 w2)=>oS ad k1 c1 l w1.heap.size w2 (hr1.sub MaX.lasts (Below.sub hb) (Nat.le_refl _)) hb.size (by omega) hlb
 clear h h0 ht hn hv hl hlb hln hk1 hr hkc hr1
 go_wp2_with fail
 refine hs.mono ?_
 rintro e w2 ⟨v2,rfl,⟨A2,k2,c2,rfl,hq2,hf2⟩,hw12⟩
 have hs3:=hs2 w2 hw12
 clear hs2
 go_wp2_with fail
 refine hs3.mono ?_
 rintro e w3 ⟨v3,rfl,⟨A3,k3,c3,rfl,hq3,hf3⟩,hw23⟩
 have hw2:=hw1.trans (hw12.mono hw1.size)
 have hw3:=hw2.trans (hw23.mono hw2.size)
 have g1:w3.heap[t]?=some (.cells #[x] 22 (0,0)):=by rw[hw3.block t hlt];exact h1
 have g2:w3.heap[u]?=some (.cells #[y] 22 (0,0)):=by rw[hw3.block u hlu];exact h2
 have g3:w3.heap[v]?=some (.cells #[z] 4 (0,0)):=by rw[hw3.block v hlv];exact h3
 have d1:w3.cell? ⟨t,0,none⟩=some x:=by simp[World.cell?,g1]
 have f1:w3.frozen? ⟨t,0,none⟩=false:=by simp[World.frozen?,g1]
 have e1:∀y',(w3.setCell ⟨t,0,none⟩ y').heap[u]?=some (.cells #[y] 22 (0,0)):=fun y'=>by rw[Below.heap_setCell _ _ _ _ (by show u≠t;exact fun h=>hne.1 h.symm)];exact g2
 have d2:∀y',(w3.setCell ⟨t,0,none⟩ y').cell? ⟨u,0,none⟩=some y:=fun y'=>by simp[World.cell?,e1]
 have f2:∀y',(w3.setCell ⟨t,0,none⟩ y').frozen? ⟨u,0,none⟩=false:=fun y'=>by simp[World.frozen?,e1]
 have e2:∀y' y'',((w3.setCell ⟨t,0,none⟩ y').setCell ⟨u,0,none⟩ y'').heap[v]?=some (.cells #[z] 4 (0,0)):=fun y' y''=>by
  rw[Below.heap_setCell _ _ _ _ (by show v≠u;exact fun h=>hne.2.2 h.symm),Below.heap_setCell _ _ _ _ (by show v≠t;exact fun h=>hne.2.1 h.symm)];exact g3
 have d3:∀y' y'',((w3.setCell ⟨t,0,none⟩ y').setCell ⟨u,0,none⟩ y'').cell? ⟨v,0,none⟩=some z:=fun y' y''=>by simp[World.cell?,e2]
 have f3:∀y' y'',((w3.setCell ⟨t,0,none⟩ y').setCell ⟨u,0,none⟩ y'').frozen? ⟨v,0,none⟩=false:=fun y' y''=>by simp[World.frozen?,e2]
 have hfin:=Hid.mk (And.intro hq2 (And.intro hf2 (And.intro hw12 (And.intro hq3 (And.intro hf3 (And.intro hw23 hw3))))))
 have hszs:=Hid.mk (And.intro hw1.size (And.intro hw12.size hw23.size))
 clear hq2 hf2 hw12 hq3 hf3 hw23 hw3 hw2 hw1
 go_wp2
 simp[bodyPost,results,Tryz.results52,go_sem]
 obtain⟨hq2,hf2,hw12,hq3,hf3,hw23,hw3⟩:=hfin.out
 obtain⟨z1,z2,z3⟩:=hszs.out
 obtain⟨W,hW⟩:∃W,W=(((w3.setCell ⟨t,0,none⟩ (.slice A2 k2 c2)).setCell ⟨u,0,none⟩ (.slice A3 k3 c3)).setCell ⟨v,0,none⟩ (.bool true)):=⟨_,rfl⟩
 have hz:W.heap.size=w3.heap.size:=by rw[hW];simp[World.setCell]
 have hbk:∀b,b≠t->b≠u->b≠v->W.heap[b]?=w3.heap[b]?:=fun b q1 q2 q3=>by
  rw[hW,Below.heap_setCell _ _ _ _ (by show b≠v;exact q3),Below.heap_setCell _ _ _ _ (by show b≠u;exact q2),Below.heap_setCell _ _ _ _ (by show b≠t;exact q1)]
 have ho:W.os=w.os/\W.tape=w.tape/\W.output=w.output:=by rw[hW];exact⟨hw3.os,hw3.tape,hw3.output⟩
 have gt:W.heap[t]?=some (.cells #[.slice A2 k2 c2] 22 (0,0)):=by
  rw[hW,Below.heap_setCell _ _ _ _ (by show t≠v;exact hne.2.1),Below.heap_setCell _ _ _ _ (by show t≠u;exact hne.1)]
  simp[World.setCell,Array.getElem?_modify,g1]
 have gu:W.heap[u]?=some (.cells #[.slice A3 k3 c3] 22 (0,0)):=by
  rw[hW,Below.heap_setCell _ _ _ _ (by show u≠v;exact hne.2.2)]
  have:=e1 (.slice A2 k2 c2)
  generalize w3.setCell ⟨t,0,none⟩ (.slice A2 k2 c2)=W1 at this ⊢
  simp[World.setCell,Array.getElem?_modify,this]
 have gv:W.heap[v]?=some (.cells #[.bool true] 4 (0,0)):=by
  rw[hW]
  have:=e2 (.slice A2 k2 c2) (.slice A3 k3 c3)
  generalize (w3.setCell ⟨t,0,none⟩ (.slice A2 k2 c2)).setCell ⟨u,0,none⟩ (.slice A3 k3 c3)=W1 at this ⊢
  simp[World.setCell,Array.getElem?_modify,this]
 rw[<- hW]
 clear hW
 have hge:∀b,w.heap.size<=b->W.heap[b]?=w3.heap[b]?:=fun b hb=>hbk b (by omega) (by omega) (by omega)
 refine⟨⟨ho.1,ho.2.1,ho.2.2,by rw[hz];exact hw3.size,fun b hb hn=>?_⟩,A2,k2,c2,A3,k3,c3,gt,gu,gv,?_,?_⟩
 ·simp only[List.mem_cons,List.not_mem_nil,or_false,not_or]at hn
  rw[hbk b hn.1 hn.2.1 hn.2.2]
  exact hw3.block b hb
 ·have q:=zW (S:=fun b=>w.heap.size<=b) (hq2.sub (Below.sub hw23) hw23.size) fun h0 a ha=>Nat.le_trans z1 (hf2 h0 a ha)
  rw[hz]
  exact q.sub (jt hge _) (Nat.le_refl _)
 ·have q:=zW (S:=fun b=>w.heap.size<=b) hq3 fun h0 a ha=>Nat.le_trans (Nat.le_trans z1 z2) (hf3 h0 a ha)
  rw[hz]
  exact q.sub (jt hge _) (Nat.le_refl _)
end
section
open Go Go.Rx Go.RowKit
def N0(l:List CT)(w:World)(v:Value)(w':World):Prop:=∃A1 k1 c1 A2 k2 c2,v=.tuple #[.slice A1 k1 c1,.slice A2 k2 c2,.bool true]/\Bts w' w'.heap.size A1 k1 (aR l)/\Bts w' w'.heap.size A2 k2 (aj l) /\
 (0<k1->∀a,A1=some a->w.heap.size<=a.block)/\(0<k2->∀a,A2=some a->w.heap.size<=a.block)
theorem Cp{β:Nat->Nat}{s:SS}{w3:World}{X k:Nat}{A:Option Addr}{l:List UInt8}(o:Old β s w3)(h:Bts (only s.w0 fun b=>X<=b) s.w0.heap.size A k l)(hp:∀b∈s.pre,b<X):Bts w3 w3.heap.size A k l/\(0<k->∀a,A=some a->X<=a.block):=by
 refine⟨⟨h.1,fun hn=>?_⟩,fun hn a ha=>?_⟩
 ·obtain⟨a,ha,hb,hx⟩:=h.2 hn
  refine⟨a,ha,Nat.lt_of_lt_of_le hb o.sz,fun i x hi=>?_⟩
  have h1:=(bH _ _ _ _).1 (hx i x hi)
  rw[aD]at h1
  show w3.cell? (a.add (i*1))=_
  rw[o.cell (by rw[aD];exact hb) (by rw[aD];exact fun hm=>by have:=hp _ hm;have:=h1.1;omega)]
  exact h1.2
 ·obtain⟨a',ha',hb,hx⟩:=h.2 hn
  rw[ha]at ha'
  cases ha'
  have hl:=h.1
  have h1:=(bH _ _ _ _).1 (hx 0 (l[0]'(by omega)) (List.getElem?_eq_getElem _))
  rw[aD]at h1
  exact h1.1
theorem MmQ.frame{l:List CT}{X t u v:Nat}{w2 w3:World}(hs:w3.heap.size=w2.heap.size)(hb:∀b,b+1≠X->w3.heap[b]?=w2.heap[b]?)(ht:t+1<X)(hu:u+1<X)(hv:v+1<X)(h:MmQ l X t u v w2):MmQ l X t u v w3:=by
 obtain⟨A1,k1,c1,A2,k2,c2,h1,h2,h3,h4,h5⟩:=h
 refine⟨A1,k1,c1,A2,k2,c2,by rw[hb _ (by omega)];exact h1,by rw[hb _ (by omega)];exact h2,by rw[hb _ (by omega)];exact h3,?_,?_⟩
 ·rw[hs]
  exact h4.sub (jt (fun b hb'=>hb b (by omega)) _) (Nat.le_refl _)
 ·rw[hs]
  exact h5.sub (jt (fun b hb'=>hb b (by omega)) _) (Nat.le_refl _)
theorem xn(A:Option Addr)(n c:Nat)(l:List CT)(B:Nat)(w:World)(h:CTsAt w B A n l)(h0:l≠[])(hB:B<=w.heap.size)(ht:Tens w)(hn:n<2^30)(hv:∀x∈l,x.c.val.length<=2147483647)(hl:(aR l).length<=140737488355328)(hlb:(aj l).length<2^40) :
  Calls Tryz.prog 23 #[.slice A n c] w (bF (N0 l w) w):=by
 refine aH (hk:=Kb) (n:=1000) (args:=[.xs A n c]) ⟨trivial,trivial⟩ ?_
 refine ah (Qs A n c w) ?_
 refine F0 (R:=fun(x:M2) wc w'=>Bts (only w' fun b=>wc.heap.size+1<=b) w'.heap.size x.A x.k (aR l)/\Bts (only w' fun b=>wc.heap.size+1<=b) w'.heap.size x.A' x.k' (aj l)) (Fine.start w _) rfl (fun x=>⟨rfl,fun u hu=>?_,trivial⟩) (fun β w1 hst ho hw=>?_) ?_
 ·simp only[m9,List.set,List.mem_cons,List.not_mem_nil,or_false]at hu
  rcases hu with rfl |rfl |rfl |rfl <;> exact⟨trivial,by first |trivial |exact⟨trivial,trivial⟩ |exact⟨trivial,trivial,trivial⟩⟩
 ·obtain⟨r0,g0,q0⟩:=hst.at_ 0 _ rfl
  obtain⟨r1,g1,q1⟩:=hst.at_ 1 _ rfl
  obtain⟨r2,g2,q2⟩:=hst.at_ 2 _ rfl
  obtain⟨r3,g3,q3⟩:=hst.at_ 3 _ rfl
  have hr0:r0=[]:=List.eq_nil_of_length_eq_zero (by have q':1+r0.length=1:=q0;omega)
  have hr1:r1=[]:=List.eq_nil_of_length_eq_zero (by have q':1+r1.length=1:=q1;omega)
  have hr2:r2=[]:=List.eq_nil_of_length_eq_zero (by have q':1+r2.length=1:=q2;omega)
  have hr3:r3=[]:=List.eq_nil_of_length_eq_zero (by have q':1+r3.length=1:=q3;omega)
  subst hr0 hr1 hr2 hr3
  have ne:∀i j,i<4->j<4->i≠j->β i≠β j:=fun i j hi hj hij e=>hij (hst.inj i j (by simp[SS.n];omega) (by simp[SS.n];omega) e)
  have lt:∀i,i<4->β i<w1.heap.size:=fun i hi=>hst.lt i (by simp[SS.n];omega)
  have l0:=lt 0 (by omega)
  have l1:=lt 1 (by omega)
  have l2:=lt 2 (by omega)
  have l3:=lt 3 (by omega)
  refine(rJ ⟨β 0,0,none⟩ ⟨β 1,0,none⟩ ⟨β 2,0,none⟩ ⟨β 3,0,none⟩ w1 [β 1,β 2,β 3] (fun w'=>MmQ l (w1.heap.size+1) (β 1) (β 2) (β 3) w') ?_ ?_ ?_).mono ?_
  ·intro i hi
   simp only[List.mem_cons,List.not_mem_nil,or_false]at hi
   rcases hi with rfl |rfl |rfl
   ·exact l1
   ·exact l2
   ·exact l3
  ·exact fun w2 w3 hs hb=>MmQ.frame hs (fun b hb'=>hb b (by omega)) (by omega) (by omega) (by omega)
  ·intro w2 hw2 hs2
   rw[<- hs2]
   have hw':=hw.trans (hw2.mono hw.size)
   exact tq (h.below (hw'.mono hB) (Nat.le_refl _)) h0 (Nat.le_trans hB hw'.size) (ht.below hw' ht.lt) hn hv hl hlb (by rw[hw2.block _ l0];exact g0) (by rw[hw2.block _ l1];exact g1) (by rw[hw2.block _ l2];exact g2) (by rw[hw2.block _ l3];exact g3) ⟨ne 1 2 (by omega) (by omega) (by omega),ne 1 3 (by omega) (by omega) (by omega),ne 2 3 (by omega) (by omega) (by omega)⟩
  ·rintro e w2 ⟨rfl,dW,A1,k1,c1,A2,k2,c2,e1,e2,e3,e4,e5⟩
   refine⟨⟨A1,k1,c1,A2,k2,c2⟩,rfl,Keep.mono dW ?_,?_,e4,e5⟩
   ·intro i hi
    simp only[List.mem_cons,List.not_mem_nil,or_false]at hi
    rcases hi with rfl |rfl |rfl
    ·exact List.mem_map.2 ⟨1,by simp[SS.n],rfl⟩
    ·exact List.mem_map.2 ⟨2,by simp[SS.n],rfl⟩
    ·exact List.mem_map.2 ⟨3,by simp[SS.n],rfl⟩
   ·intro i o hi
    match i,hi with
    |0,hi=>
     rw[dW.block _ l0 fun hm=>by
      simp only[List.mem_cons,List.not_mem_nil,or_false]at hm
      rcases hm with e |e |e
      ·exact ne 0 1 (by omega) (by omega) (by omega) e
      ·exact ne 0 2 (by omega) (by omega) (by omega) e
      ·exact ne 0 3 (by omega) (by omega) (by omega) e]
     exact hst.at_ 0 o hi
    |1,hi=>
     simp[m9]at hi
     subst hi
     exact⟨[],e1,rfl⟩
    |2,hi=>
     simp[m9]at hi
     subst hi
     exact⟨[],e2,rfl⟩
    |3,hi=>
     simp[m9]at hi
     subst hi
     exact⟨[],e3,rfl⟩
    |i+4,hi=>simp[m9]at hi
 rintro x w1 w2 b2 hb1 ⟨h1,h2⟩ hb2 hbs2
 have fin:∀objs:List SObj,(T.leaf .ret [(.tup [(.xs x.A x.k x.c),(.xs x.A' x.k' x.c'),(.bool true true)])] (SS.mk objs [] true w2 b2)).holds (cS Tryz.prog (bC fun v w'=>N0 l w v w'/\Below w.heap.size w w')):=fun objs=>
  aN (Fine.mk' hb2 fun i hi=>(hbs2 i hi).1) fun β w5 hst _=>by
   have o:=hst.old rfl
   obtain⟨p1,p2⟩:=Cp o h1 fun b hb=>by have:=(hbs2 b hb).2;omega
   obtain⟨p3,p4⟩:=Cp o h2 fun b hb=>by have:=(hbs2 b hb).2;omega
   have hsz:=hb1.size
   exact⟨x.A,x.k,x.c,x.A',x.k',x.c',rfl,p1,p3,fun h a ha=>by have:=p2 h a ha;omega,fun h a ha=>by have:=p4 h a ha;omega⟩
 exact⟨aa ⟨rfl,rfl,rfl⟩ ⟨fin _,aa ⟨rfl,rfl,rfl⟩ (fin _)⟩,aa ⟨rfl,rfl,rfl⟩ (aa ⟨rfl,rfl,rfl⟩ (aa ⟨rfl,rfl,rfl⟩ (fin _)))⟩
end
section
open Go Go.Rx Go.RowKit
theorem OkL.of:∀(l:List CT),(∀(j:Nat) (x:CT),l[j]?=some x->(an x.c.code).path=true->j+1=l.length)->OkL l
 |[],_=>trivial
 |x :: l,h=>⟨fun hp=>by
   have:=h 0 x rfl hp
   exact List.eq_nil_of_length_eq_zero (by simpa using this.symm),OkL.of l fun j y hj hp=>by
   have:=h (j+1) y (by simpa using hj) hp
   simpa using this⟩
theorem DI:∀k∈aY,(an k).path=true->k=400:=by decide
theorem xj(A:Option Addr)(n c:Nat)(l:List Comp)(B:Nat)(w:World)(h:CompsAt w B A n l)(hB:B<=w.heap.size)(hn:(n:Int)<2^48) :
  Calls Tryz.prog 22 #[.slice A n c] w (bF (f7 fun b=>b=true->∃L:List CT,L.map (·.c)=l/\OkL L/\n<=12/\1<=n) w):=by
 have hlen:=h.1
 refine aH (hk:=Oe A n c) (n:=1000) (args:=[.xs A n c]) ⟨trivial,trivial⟩ ?_
 rw[t7]
 refine fm (Fine.start _ _) L7 (α:=Nat) (fun i=>[.xs A n c,.xs A n c,.int .i64 n false,.int .i64 i false]) (fun i=>n-i) (fun _ i _=>i<=n/\∃L:List CT,L.map (·.c)=l.take i/\∀(j:Nat) (x:CT),L[j]?=some x->(an x.c.code).path=true->j+1=n)
  (fun _ e lv _=>(e=.ret/\lv=[.bool false])∨(e=.exit 0/\lv=[.slice A n c]/\∃L:List CT,L.map (·.c)=l/\OkL L)) (fun _=>J4) 1000 (by simp) (by simp[L7]) (by simp[L7]) (fun _=>⟨trivial,trivial,trivial,trivial,trivial⟩) rfl rfl rfl
  (by simp) (by simp) (fun _=>⟨trivial,trivial⟩) (fun _=>⟨trivial,trivial⟩) ?_ ?_ ?_
 ·rintro w0 i w1 g _ ⟨hi,L,hL,hpL⟩ hb0 hbw
  refine ah (r7 A n c i w1 g) ?_
  refine af (fun hlt=>?_) (fun hge=>cy (Fine.nil hb0) (by simp) fun β w' _ _=>.inr ⟨rfl,rfl,?_⟩)
  rotate_left
  ·have:i=n:=by
    have:¬i<n:=by simpa using hge
    omega
   rw[List.take_of_length_le (by omega)]at hL
   refine⟨L,hL,OkL.of L fun j x hj hp=>?_⟩
   have:=congrArg List.length hL
   rw[List.length_map]at this
   rw[hpL j x hj hp]
   omega
  have hlt':i<n:=by simpa using hlt
  have hB1:B<=w1.heap.size:=Nat.le_trans hB hbw.size
  obtain⟨ad,x,rfl,had,hx,hR⟩:=(h.below (hbw.mono hB) (Nat.le_refl _)).get hlt'
  obtain⟨f1,f2,f3⟩:=hR.facts
  refine aa (by omega) (aa rfl (aa (hR.canRead hB1 (by simp)) ?_))
  have f1':ai w1 ((((some ad).getD default).add ((i:Int).toNat*2)).add 0)=x.code:=f1
  rw[f1']
  refine ed (fun b=>b=true->∃txt,Simple x.code x.val txt) (Fine.start w1 _) rfl (fun β w2 hb2 _ _=>?_) (fun b w2 bs hb hb2 hbs=>?_)
  ·exact yz _ _ _ _ _ B w2 (f2.below (hb2.mono hB1) (Nat.le_refl _)) (Nat.le_trans hB1 hb2.size) f3
  ·have hf:∀objs,Fine w0 (SS.mk objs [] true w2 bs):=fun objs=>Fine.mk' (hb0.trans (hb2.mono hb0.size)) (fun b hb=>Nat.le_trans hb0.size (hbs b hb))
   have hnext:∀β:Nat->Nat,b=true->(x.code=400->i+1=n)->∃y,n-y<n-i/\ae β [(.xs (some ad) n c),(.xs (some ad) n c),(.int .i64 (n:Int) false),(.int .i64 (i64.wrap ((i:Int)+1)) false)]=ae id [.xs (some ad) n c,.xs (some ad) n c,.int .i64 n false,.int .i64 (y:Nat) false]/\y<=n/\∃L:List CT,L.map (·.c)=l.take y/\∀(j:Nat) (x:CT),L[j]?=some x->(an x.c.code).path=true->j+1=n:=by
    intro β hbt h400
    obtain⟨txt,hs⟩:=hb hbt
    have hLl:=congrArg List.length hL
    rw[List.length_map,List.length_take]at hLl
    refine⟨i+1,by omega,?_,by omega,L++[⟨x,txt,hs⟩],?_,fun j y hj hp=>?_⟩
    ·rw[gz hlt' (by omega)];rfl
    ·rw[List.take_add_one,hx,List.map_append,hL]
     rfl
    ·by_cases hjl:j<L.length
     ·rw[List.getElem?_append_left hjl]at hj
      exact hpL j y hj hp
     ·rw[List.getElem?_append_right (by omega)]at hj
      have hj1:=(List.getElem?_eq_some_iff.1 hj).1
      simp only[List.length_cons,List.length_nil]at hj1
      have hj0:j-L.length=0:=by omega
      rw[hj0]at hj
      simp only[List.getElem?_cons_zero,Option.some.injEq]at hj
      subst hj
      have:=h400 (DI _ hs.tab hp)
      omega
   refine af (fun _=>cy (hf _) (by simp) fun β w' _ _=>.inl ⟨rfl,rfl⟩) (fun hnb=>?_)
   have hbt:b=true:=by simpa using hnb
   refine af (fun h4=>af (fun _=>cy (hf _) (by simp) fun β w' _ _=>.inl ⟨rfl,rfl⟩) (fun hge=>dM (hf _) fun β w' _ _=>hnext β hbt fun _=>?_)) (fun h4=>dM (hf _) fun β w' _ _=>hnext β hbt fun h=>?_)
   ·have hge':=of_decide_eq_false hge
    rw[ax (by omega) (by omega)]at hge'
    omega
   ·rw[h]at h4
    exact absurd h4 (by decide)
 ·intro β w0 hst hb
  exact⟨0,rfl,Nat.zero_le _,[],rfl,by simp⟩
 ·rintro β w0 hst hb e lv w' (⟨rfl,rfl⟩ |⟨rfl,rfl,hall⟩) hb0 hb1
  ·exact .inl ⟨(),rfl,rfl,fun g bs hbs=>aN (Fine.mk' hb1 hbs) fun β w' _ _=>⟨_,rfl,fun h=>Bool.noConfusion h⟩⟩
  ·refine .inr ⟨(),rfl,rfl,fun g bs hbs=>af (fun h1=>?_) (fun _=>aN (Fine.mk' hb1 hbs) fun β w' _ _=>⟨_,rfl,fun h=>Bool.noConfusion h⟩)⟩
   obtain⟨L,hL,hok⟩:=hall
   refine aN (Fine.mk' hb1 hbs) fun β w' _ _=>⟨_,rfl,fun h2=>⟨L,hL,hok,?_,?_⟩⟩
   ·have:=of_decide_eq_true h2;omega
   ·have:=of_decide_eq_true h1;omega
end
section
open Go Go.Rx Go.RowKit
def HW(l:List Comp):Prop:=l.length<=2147483647/\∀x∈l,x.val.length<=2147483647
theorem B3(A:Option Addr)(n c:Nat)(l:List Comp)(B:Nat)(w:World)(h:CompsAt w B A n l)(hB:B<=w.heap.size)(hn:(n:Int)<2^63):Calls Tryz.prog 21 #[.slice A n c] w (bF (f7 fun b=>b=true->HW l) w):=by
 have hlen:=h.1
 refine aH (hk:=o8) (n:=1000) (args:=[.xs A n c]) ⟨trivial,trivial⟩ ?_
 refine ah (t5 A n c w) ?_
 refine af (fun _=>aN (Fine.start _ _) fun β w' _ _=>⟨_,rfl,fun h=>Bool.noConfusion h⟩) (fun hbig=>?_)
 have hbig':n<=2147483647:=by
  have:=of_decide_eq_false hbig
  omega
 refine fm (Fine.start _ _) Lr (α:=Nat) (fun i=>[.xs A n c,.int .i64 n false,.int .i64 i false]) (fun i=>n-i) (fun _ i _=>i<=n/\∀x∈l.take i,x.val.length<=2147483647)
  (fun _ e lv _=>(e=.ret/\lv=[.bool false])∨(e=.exit 0/\lv=[]/\HW l)) (fun _=>au) 1000 (by simp) (by simp[Lr]) (by simp[Lr]) (fun _=>⟨trivial,trivial,trivial,trivial⟩) rfl rfl rfl
  (by simp) (by simp) (fun _=>⟨trivial,trivial⟩) (fun _=>trivial) ?_ ?_ ?_
 ·rintro w0 i w1 g _ ⟨hi,hall⟩ hb0 hbw
  refine ah (r5 A n c i w1 g) ?_
  refine af (fun hlt=>?_) (fun hge=>cy (Fine.nil hb0) (by simp) fun β w' _ _=>.inr ⟨rfl,rfl,?_⟩)
  rotate_left
  ·have:¬i<n:=by simpa using hge
   rw[List.take_of_length_le (by omega)]at hall
   exact⟨by omega,hall⟩
  have hlt':i<n:=by simpa using hlt
  obtain⟨ad,x,rfl,had,hx,hR⟩:=(h.below (hbw.mono hB) (Nat.le_refl _)).get hlt'
  obtain⟨f1,f2,f3⟩:=hR.facts
  have f2l:=f2.1
  refine aa (by omega) (aa rfl (aa (hR.canRead (Nat.le_trans hB hbw.size) (by simp)) ?_))
  refine af (fun _=>cy (Fine.nil hb0) (by simp) fun β w' _ _=>.inl ⟨rfl,rfl⟩) (fun hno=>dM (Fine.nil hb0) fun β w' _ _=>⟨i+1,by omega,?_,by omega,?_⟩)
  ·rw[gz hlt' hn];rfl
  ·intro y hy
   rw[List.take_add_one,hx]at hy
   rcases List.mem_append.1 hy with hy |hy
   ·exact hall y hy
   ·simp at hy
    subst hy
    have h3:¬((2147483647:Int)<((iO w1 ((ad.add (i*2)).add 1):Nat):Int)):=of_decide_eq_false hno
    omega
 ·intro β w0 hst hb
  exact⟨0,rfl,Nat.zero_le _,by simp⟩
 ·rintro β w0 hst hb e lv w' (⟨rfl,rfl⟩ |⟨rfl,rfl,hf⟩) hb0 hb1
  ·exact .inl ⟨(),rfl,rfl,fun g bs hbs=>aN (Fine.mk' hb1 hbs) fun β w' _ _=>⟨_,rfl,fun h=>Bool.noConfusion h⟩⟩
  ·exact .inr ⟨(),rfl,rfl,fun g bs hbs=>aN (Fine.mk' hb1 hbs) fun β w' _ _=>⟨_,rfl,fun _=>hf⟩⟩
end
section
open Go Go.Rx Go.RowKit
def JC:SE->List Nat
 | .normal=>[0,1,11,12,13]
 | .ret=>[4]
 |_=>[]
def C7:LoopHook:=bK 27 Unit .ret [4] (fun _=>[.bool false true]) Unit (.exit 0) [] (fun _=>[])
def dW:Hooks:={ calls:=fun f=>none,loops:=fun f k=>some C7 }
noncomputable abbrev AX(A:Option Addr)(n c:Nat)(A':Option Addr)(n' c':Nat):List SV:=([(.xs A n c),(.xs A' n' c'),(.tup []),(.tup []),(.bool false true),(.tup []),(.xs A n c),(.int .i64 ((↑n:Int)) false),(.xs A' n' c'),(.int .i64 ((↑n':Int)) false),(.bool false true),(.xs A n c),(.int .i64 ((↑n:Int)) false),(.int .i64 0 true)]++List.replicate 13 aA)
theorem Lo(A:Option Addr)(n c:Nat)(A':Option Addr)(n' c':Nat)(w:World):am Tryz.prog dW 1000 11 [.xs A n c,.xs A' n' c'] (SS.at w) =
(.split ((↑n:Int) != (↑n':Int)) (.leaf .ret [(.bool false true)] (SS.mk [] [] true w [])) (.loop 11 (ar Tryz.prog 11 5) (AX A n c A' n' c') (SS.mk [] [] true w []) (LoopHook.X (C7)) (LoopHook.out (C7) (AX A n c A' n' c') (SS.mk [] [] true w [])) (fun x0 w0 b0=>(.leaf .ret [(.bool false true)] (SS.mk [] [] true w0 b0))) (LoopHook.Y (C7)) (LoopHook.out' (C7) (AX A n c A' n' c') (SS.mk [] [] true w [])) (fun x0 w0 b0=>(.leaf .ret [(.bool true true)] (SS.mk [] [] true w0 b0))))):=by kernel_rfl
theorem P9(A:Option Addr)(n c:Nat)(A':Option Addr)(n' c':Nat)(w:World):(by have h:=Lo A n c A' n' c' w;unfold AX at h;exact type_of% h):=Lo A n c A' n' c' w
noncomputable abbrev sG(w:World)(A:Option Addr)(i:Nat):Option Addr:=(kD w (((A.getD default).add ((↑i:Int).toNat*2)).add 1))
noncomputable abbrev sH(w:World)(A:Option Addr)(i:Nat):Nat:=(iO w (((A.getD default).add ((↑i:Int).toNat*2)).add 1))
noncomputable abbrev rz(w:World)(A:Option Addr)(i:Nat):SObj:=(.cells [(.int .i64 (ai w (((A.getD default).add ((↑i:Int).toNat*2)).add 0)) false),(.xs (sG w A i) (sH w A i) (m8 w (((A.getD default).add ((↑i:Int).toNat*2)).add 1)))] 2 31 0 0)
noncomputable abbrev EN(w:World)(A:Option Addr)(i:Nat):Prop:=(canRead w [] ((A.getD default).add ((↑i:Int).toNat*2)) [SV.int i64 (ai w (((A.getD default).add ((↑i:Int).toNat*2)).add 0)) false,SV.xs (sG w A i) (sH w A i) (m8 w (((A.getD default).add ((↑i:Int).toNat*2)).add 1))])
noncomputable abbrev EO(w:World)(A:Option Addr)(i:Nat):Prop:=(canBytes w [] (sG w A i) (sH w A i))
theorem K5(A:Option Addr)(n c:Nat)(A':Option Addr)(n' c' i:Nat)(w:World)(g:Nat->Value):aK Tryz.prog au 1000 11 (ar Tryz.prog 11 5) (az ((JC .normal).zip [.xs A n c,.xs A' n' c',.xs A n c,.int .i64 n false,.int .i64 i false]) g 27 0) (fun e a s=>.leaf e (ep JC e a) s) (SS.at w) =
(.split (decide ((↑i:Int)<(↑n:Int))) (.need ((0:Int)<=(↑i:Int)/\(↑i:Int)<(↑n:Int)) (.need (A.isSome=true) (.need (EN w A i) (.need ((0:Int)<=(↑i:Int)/\(↑i:Int)<(↑n':Int)) (.need (A'.isSome=true) (.need (EN w A' i) (.split (ai w (((A.getD default).add ((↑i:Int).toNat*2)).add 0) == ai w (((A'.getD default).add ((↑i:Int).toNat*2)).add 0)) (.need (EO w A i) (.need (EO w A' i) (.split (!(bytesAt w (sG w A i) (sH w A i)).toList == (bytesAt w (sG w A' i) (sH w A' i)).toList) (.leaf .ret [(.bool false true)] (SS.mk [(rz w A i),(rz w A' i)] [] true w [])) (.leaf .normal [(.xs A n c),(.xs A' n' c'),(.xs A n c),(.int .i64 ((↑n:Int)) false),(.int .i64 (i64.wrap ((↑i:Int)+(1:Int))) false)] (SS.mk [(rz w A i),(rz w A' i)] [] true w []))))) (.leaf .ret [(.bool false true)] (SS.mk [(rz w A i),(rz w A' i)] [] true w []))))))))) (.leaf (.exit 0) [] (SS.mk [] [] true w []))):=by kernel_rfl
theorem PW(A:Option Addr)(n c:Nat)(A':Option Addr)(n' c' i:Nat)(w:World)(g:Nat->Value):(by have h:=K5 A n c A' n' c' i w g;unfold EO EN rz sH sG at h;exact type_of% h):=K5 A n c A' n' c' i w g
def N3(l:List Comp):List Int:=l.map (·.code)
theorem se(A:Option Addr)(n c:Nat)(A':Option Addr)(n' c':Nat)(l:List Comp)(B:Nat)(w:World)(h:CompsAt w B A n l)(h':CompsAt w B A' n' l)(hB:B<=w.heap.size)(hn:(n:Int)<2^48) :
  Calls Tryz.prog 11 #[.slice A n c,.slice A' n' c'] w (bF (f7 fun b=>b=true) w):=by
 have hnn:n=n':=by rw[h.1,h'.1]
 subst hnn
 refine aH (hk:=dW) (n:=1000) (args:=[.xs A n c,.xs A' n c']) ⟨trivial,trivial,trivial⟩ ?_
 rw[P9]
 refine af (fun hne=>by simp at hne) (fun heq=>?_)
 refine fm (Fine.start _ _) JC (α:=Nat) (fun i=>[.xs A n c,.xs A' n c',.xs A n c,.int .i64 n false,.int .i64 i false]) (fun i=>n-i) (fun _ i _=>i<=n)
  (fun _ e lv _=>e=.exit 0/\lv=[]) (fun _=>au) 1000 (by simp) (by simp[JC]) (by simp[JC]) (fun _=>⟨trivial,trivial,trivial,trivial,trivial,trivial⟩) rfl rfl rfl
  (by simp) (by simp) (fun _=>⟨trivial,trivial⟩) (fun _=>trivial) ?_ ?_ ?_
 ·rintro w0 i w1 g _ hi hb0 hbw
  refine ah (PW A n c A' n c' i w1 g) ?_
  refine af (fun hlt=>?_) (fun hge=>cy (Fine.nil hb0) (by simp) fun β w' _ _=>⟨rfl,rfl⟩)
  have hlt':i<n:=by simpa using hlt
  have hB1:B<=w1.heap.size:=Nat.le_trans hB hbw.size
  obtain⟨ad,x,rfl,had,hx,hR⟩:=(h.below (hbw.mono hB) (Nat.le_refl _)).get hlt'
  obtain⟨ad',x',rfl,had',hx',hR'⟩:=(h'.below (hbw.mono hB) (Nat.le_refl _)).get hlt'
  rw[hx]at hx'
  cases hx'
  obtain⟨f1,f2,f3⟩:=hR.facts
  obtain⟨f1',f2',f3'⟩:=hR'.facts
  refine aa (by omega) (aa rfl (aa (hR.canRead hB1 (by simp)) (aa (by omega) (aa rfl (aa (hR'.canRead hB1 (by simp)) ?_)))))
  have e1:ai w1 ((((some ad).getD default).add ((i:Int).toNat*2)).add 0)=x.code:=f1
  have e2:ai w1 ((((some ad').getD default).add ((i:Int).toNat*2)).add 0)=x.code:=f1'
  rw[e1,e2]
  refine af (fun _=>aa (f2.canBytes hB1 (by simp)) (aa (f2'.canBytes hB1 (by simp)) ?_)) (fun hne=>by simp at hne)
  have e3:=f2.bytesAt
  have e4:=f2'.bytesAt
  refine af (fun hne=>?_) (fun _=>dM (Fine.nil hb0) fun β w' _ _=>⟨i+1,by omega,?_,by omega⟩)
  ·exfalso
   have:bytesAt w1 (kD w1 ((ad.add (i*2)).add 1)) (iO w1 ((ad.add (i*2)).add 1))=bytesAt w1 (kD w1 ((ad'.add (i*2)).add 1)) (iO w1 ((ad'.add (i*2)).add 1)):=by rw[e3,e4]
   have h2:(!(bytesAt w1 (kD w1 ((ad.add (i*2)).add 1)) (iO w1 ((ad.add (i*2)).add 1))).toList == (bytesAt w1 (kD w1 ((ad'.add (i*2)).add 1)) (iO w1 ((ad'.add (i*2)).add 1))).toList)=true:=hne
   rw[this]at h2
   simp at h2
  ·rw[gz hlt' (by omega)];rfl
 ·intro β w0 hst hb
  exact⟨0,rfl,Nat.zero_le _⟩
 ·rintro β w0 hst hb e lv w' ⟨rfl,rfl⟩ hb0 hb1
  exact .inr ⟨(),rfl,rfl,fun g bs hbs=>aN (Fine.mk' hb1 hbs) fun β w' _ _=>⟨_,rfl,rfl⟩⟩
end
section
open Go Go.Rx Go.RowKit
def RL(w:World)(bs:List Nat)(A:Option Addr)(n:Nat)(l:List Comp):Prop:=∃X Y,Y<=w.heap.size/\(∀b∈bs,b<X∨Y<=b)/\RowAt CompR 2 (only w fun b=>X<=b/\b<Y) Y A n l
theorem RL.start{wc w:World}{bs bs0:List Nat}{m:Nat}{A:Option Addr}{n:Nat}{l:List Comp}(h:RowAt CompR 2 (Rx.since wc w) w.heap.size A n l)(hb:∀b∈bs,(b∈bs0∨m<=b)/\b<wc.heap.size):RL w bs A n l:=
 ⟨wc.heap.size,w.heap.size,Nat.le_refl _,fun b h=>.inl (hb b h).2,h.sub CompR.lasts ⟨fun a v hb hx=>by
  rw[cu]at hx
  rw[bH]
  exact⟨⟨hx.1,hb⟩,hx.2⟩,fun b cs e fz hb hx=>by
  rw[cZ]at hx
  rw[cG]
  exact⟨⟨hx.1,hb⟩,hx.2⟩⟩ (Nat.le_refl _)⟩
theorem RL.next{w w':World}{bs bs':List Nat}{m:Nat}{A:Option Addr}{n:Nat}{l:List Comp}(h:RL w bs A n l)(hk:Keep bs w w')(hb:∀b∈bs',(b∈bs∨w.heap.size<=b)/\b<m):RL w' bs' A n l:=by
 obtain⟨X,Y,hY,hbs,hr⟩:=h
 have key:∀b,(X<=b/\b<Y)->w'.heap[b]?=w.heap[b]?:=fun b hb=>hk.block b (by omega) fun hm=>by
  have:=hbs _ hm
  omega
 refine⟨X,Y,Nat.le_trans hY hk.size,fun b hb'=>(hb b hb').1.elim (hbs b) (fun h=>.inr (Nat.le_trans hY h)),hr.sub CompR.lasts ⟨fun a v hb hx=>?_,fun b cs e fz hb hx=>?_⟩ (Nat.le_refl _)⟩
 ·rw[bH]at hx ⊢
  exact⟨hx.1,by rw[World.cell?_of_block (w:=w) (key _ hx.1)];exact hx.2⟩
 ·rw[cG]at hx ⊢
  exact⟨hx.1,by rw[key _ hx.1];exact hx.2⟩
theorem RL.comps{w:World}{bs:List Nat}{A:Option Addr}{n:Nat}{l:List Comp}(h:RL w bs A n l)(hl:∀x∈l,(x.val.length:Int)<2^48):CompsAt w w.heap.size A n l:=by
 obtain⟨X,Y,hY,hbs,hr⟩:=h
 refine yi (hr.sub CompR.lasts ⟨fun a v hb hx=>?_,fun b cs e fz hb hx=>?_⟩ hY) hl
 ·exact((bH _ _ _ _).1 hx).2
 ·exact((cG _ _ _ _ _ _).1 hx).2
def CcAt(w:World)(B:Nat)(A:Option Addr)(n:Nat)(l:List Comp):Prop:=SeqAt (fun a x=>CompAt w B a x/\iO w (a.add 1)<=m8 w (a.add 1)/\(kD w (a.add 1)=none->m8 w (a.add 1)=0)) 2 B A n l
theorem CcAt.comps{w:World}{B:Nat}{A:Option Addr}{n:Nat}{l:List Comp}(h:CcAt w B A n l):CompsAt w B A n l:=h.imp (Nat.le_refl _) fun a x _ hx=>hx.1
theorem CcAt.cts{w:World}{B:Nat}{A:Option Addr}{n:Nat}{L:List CT}(h:CcAt w B A n (L.map (·.c))):CTsAt w B A n L:=by
 refine⟨by rw[h.1,List.length_map],fun h0=>?_⟩
 obtain⟨a,ha,hb,hx⟩:=h.2 h0
 exact⟨a,ha,hb,fun i x hi=>hx i x.c (by rw[List.getElem?_map,hi];rfl)⟩
theorem E5{k:Int}{val txt:List UInt8}(hs:Simple k val txt)(hl:val.length<=2147483647):(cW k txt).length<=3000000000:=by
 have h1:=BH k hs.tab
 have h2:(cW k txt).length<=22+txt.length:=by
  unfold cW
  split <;> simp <;> omega
 have h3:txt.length<=2147483647+2000000:=by
  cases hs with
  |N=>simp
  |P _ _ _ _ a b=>have:=te 20 _ (show a.toNat*256+b.toNat<10^20 by have:=a.toNat_lt;have:=b.toNat_lt;omega);omega
  |F _ _ _ _ a b c d=>have:=ke a b c d;omega
  |S _ _ _ _ l hl16=>have:=FG val;omega
  |C _ _ _ _ a=>have:=te 20 _ (show a.toNat<10^20 by have:=a.toNat_lt;omega);rw[kL a.toNat_lt];omega
  |M _ _ _ _ a b c d e f g h=>
   have h8:=yE [a,b,c,d,e,f,g,h]
   rw[Gl]at h8
   have h9:(256:Nat) ^ [a,b,c,d,e,f,g,h].length<10^20:=by show(256:Nat)^8<10^20;decide
   have:=te 20 _ (show fc a b c d e f g h<10^20 by omega)
   omega
  |D=>omega
  |Z=>omega
  |U=>omega
 omega
theorem zU:∀L:List CT,(∀x∈L,x.c.val.length<=2147483647)->(aR L).length<=L.length*3000000000
 |[],_=>by simp[aR]
 |x :: L,h=>by
  have h1:=zU L fun y hy=>h y (List.mem_cons_of_mem _ hy)
  have h2:=E5 x.hs (h x (by simp))
  rw[gV,List.length_append,List.length_cons]
  omega
theorem wI:∀L:List CT,(∀x∈L,x.c.val.length<=2147483647)->(aj L).length<=L.length*3000000000
 |[],_=>by simp[aj]
 |x :: L,h=>by
  have h1:=wI L fun y hy=>h y (List.mem_cons_of_mem _ hy)
  have h2:=h x (by simp)
  have h3:=Ad x.hs.tab h2
  have e:aj (x :: L)=cg x.c.code x.c.val++x.c.val++aj L:=rfl
  rw[e,List.length_append,List.length_append,List.length_cons]
  omega
theorem Dv{w:World}{b c:Nat}{l:List UInt8}{L:List Int}{e:TypeId}{fr:Nat×Nat}(h:w.heap[b]?=some (.cells (L.map (Value.int .u8)).toArray e fr))(hL:L=l.map (fun b=>(b.toNat:Int))++List.replicate (c-l.length) (0:Int))(hb:b<w.heap.size):Bts w w.heap.size (some ⟨b,0,none⟩) l.length l:=by
 have hb':=cp (k:=l.length) h (fun v hv=>?_) (by rw[hL];simp) hb
 ·refine cast ?_ hb'
  congr 1
  rw[hL]
  simp[Function.comp_def]
 ·rw[hL]at hv
  rcases List.mem_append.1 hv with h |h
  ·obtain⟨b,_,rfl⟩:=List.mem_map.1 h
   have:=b.toNat_lt
   omega
  ·have:=List.eq_of_mem_replicate h
   omega
theorem th(A:Option Addr)(n c:Nat)(l:List Comp)(B:Nat)(w:World)(h:CcAt w B A n l)(hB:B<=w.heap.size)(hnn:(n:Int)<2^48)(ht:Tens w) :
  Calls Tryz.prog 5 #[.slice A n c] w (bF (f7 fun b=>b=true) w):=by
 have hC:=h.comps
 have htl:=ht.lt
 have hw:∀ {w':World},Below w.heap.size w w'->CompsAt w' B A n l:=fun hb=>hC.below (hb.mono hB) (Nat.le_refl _)
 have hsz:∀ {w':World},Below w.heap.size w w'->B<=w'.heap.size:=fun hb=>Nat.le_trans hB hb.size
 have htw:∀ {w':World},Below w.heap.size w w'->Tens w':=fun hb=>ht.below hb htl
 refine aH (hk:=Ka) (n:=1000) (args:=[.xs A n c]) ⟨trivial,trivial⟩ ?_
 refine ah (Qq A n c w) ?_
 refine ed (fun b=>b=true->HW l) (Fine.start w _) rfl (fun β w1 hb1 _ _=>B3 A n c l B w1 (hw hb1) (hsz hb1) (by omega)) (fun b0 w0 bs0 hfit hb0 hbs0=>?_)
 refine af (fun _=>aN (Fine.mk' hb0 hbs0) fun β w' _ _=>⟨_,rfl,rfl⟩) (fun hb0t=>?_)
 obtain⟨_,hfit⟩:=hfit (by simpa using hb0t)
 refine ed (w:=w) (fun b=>b=true->∃L:List CT,L.map (·.c)=l/\OkL L/\n<=12/\1<=n) (Fine.mk' hb0 hbs0) rfl (fun β w1 hb1 _ _=>xj A n c l B w1 (hw hb1) (hsz hb1) hnn) (fun b1 w1 bs1 hadr hb1 hbs1=>?_)
 refine af (fun _=>ed (fun b=>b=true) (Fine.mk' hb1 hbs1) rfl (fun β w2 hb2 _ _=>sf w2 (htw hb2)) (fun b w2 bs2 hR hb2 hbs2=>aN (Fine.mk' hb2 hbs2) fun β w' _ _=>⟨_,rfl,hR⟩)) (fun hb1t=>?_)
 obtain⟨L,rfl,hok,hn12,hn1⟩:=hadr (by simpa using hb1t)
 have hL:CTsAt w B A n L:=h.cts
 have hLl:=hL.1
 have hv:∀x∈L,x.c.val.length<=2147483647:=fun x hx=>hfit x.c (List.mem_map.2 ⟨x,hx,rfl⟩)
 have hv':∀x∈L.map (·.c),(x.val.length:Int)<2^48:=fun x hx=>by have:=hfit x hx;omega
 have hT:=zU L hv
 have hY:=wI L hv
 have hne:L≠[]:=fun e=>by rw[e]at hLl;simp at hLl;omega
 have hcts:∀ {w':World},Below w.heap.size w w'->CTsAt w' B A n L:=fun hb=>hL.below (hb.mono hB) (Nat.le_refl _)
 obtain⟨ad,rfl,_,_⟩:=hL.2 (by omega)
 refine fK (aR L) (Fine.mk' hb1 hbs1) rfl (fun β w4 hb4 _ _=>Dq _ n c L B w4 (hcts hb4) (hsz hb4) hnn (by omega)) (fun w2 bs2 hb2 hbs2=>?_)
 refine dJ (w:=w) (R:=fun(u:UV) wc w'=>Bts w' w'.heap.size u.A u.k (aj L)/\(0<u.k->∀a,u.A=some a->wc.heap.size<=a.block)) (Fine.mk' hb2 hbs2) (fun y=>⟨rfl,trivial⟩) (fun β we hst ho hbe=>?_) ?_
 ·refine(BE ad n c L B we (hcts hbe) (hsz hbe) (by omega) (by omega)).mono ?_
  rintro e w' ⟨v,rfl,⟨uA,uk,uc,rfl,h1,h2⟩,hb'⟩
  exact⟨⟨uA,uk,uc⟩,rfl,hb',h1,h2⟩
 rintro⟨bA,bk,bc⟩ we w3 b3 hbe ⟨hu1,hu2⟩ hbe3 hb3 hbs3
 dsimp only at hu1 hu2
 have hge3:∀b∈b3,w.heap.size<=b:=fun b hb=>(hbs3 b hb).1
 have S3:Loose w3 b3 bA bk (aj L):=Loose.fresh (bs0:=[]) (m:=w.heap.size) hu1 hu2 fun b hb=>⟨.inr (hbs3 b hb).1,(hbs3 b hb).2⟩
 have hby3:=S3.1.bytesAt
 have hby3':List.map (fun i=>UInt8.ofNat (ai w3 ((bA.getD default).add i)).toNat) (List.range bk)=aj L:=by
  have:=congrArg (fun x:ByteArray=>x.data.toList) hby3
  simpa [bytesAt] using this
 refine aa S3.can ?_
 dsimp only
 rw[hby3,hby3']
 clear hu1 hu2
 refine dI (w:=w3) (bs:=b3) (R:=fun(y:M2) wc w'=>Bts w' w'.heap.size y.A y.k (aR L)/\Bts w' w'.heap.size y.A' y.k' (aj L)/\(0<y.k->∀a,y.A=some a->wc.heap.size<=a.block)/\(0<y.k'->∀a,y.A'=some a->wc.heap.size<=a.block)) ⟨rfl,Keep.refl _ _,fun b hb=>.inl hb⟩ (fun y=>⟨rfl,trivial,trivial,trivial,trivial⟩) (fun β wc hst ho hkc=>?_) ?_
 ·have hbc:=hkc.below hb3 (Nat.le_refl _) hge3
  refine(xn _ n c L B wc (hcts hbc) hne (hsz hbc) (htw hbc) (by omega) hv (by omega) (by omega)).mono ?_
  rintro e w' ⟨v,rfl,⟨A1,k1,c1,A2,k2,c2,rfl,h1,h2,h3,h4⟩,hb'⟩
  exact⟨⟨A1,k1,c1,A2,k2,c2⟩,rfl,hb',h1,h2,h3,h4⟩
 rintro⟨tA,tk,tc,cA,ck,cc⟩ wc w4 b4 hkc ⟨hy1,hy2,hf1,hf2⟩ hbc4 hk34 hbs4
 dsimp only at hy1 hy2 hf1 hf2
 have hb4:=hk34.below hb3 (Nat.le_refl _) hge3
 have hge4:∀b∈b4,w.heap.size<=b:=fun b hb=>(hbs4 b hb).1.elim (hge3 b) (fun h=>Nat.le_trans hb3.size h)
 have T4:=Loose.fresh hy1 hf1 hbs4
 have C4:=Loose.fresh hy2 hf2 hbs4
 clear hy1 hy2 hf1 hf2
 refine aE ?_
 rintro c5 ⟨t5,hc5⟩
 have hs2:ByteArray.size ⟨(aR L).toArray⟩=(aR L).length:=aB _
 have hs3:ByteArray.size ⟨(aj L).toArray⟩=(aj L).length:=aB _
 rw[hs2,hs3]
 refine dI (w:=w4) (bs:=b4) (R:=fun(y:UV) wc w'=>RowAt CompR 2 (Rx.since wc w') w'.heap.size y.A y.k (L.map (·.c))) ⟨rfl,Keep.refl _ _,fun b hb=>.inl hb⟩ (fun y=>⟨rfl,trivial,trivial,trivial⟩) (fun β wd hst ho hkd=>?_) ?_
 ·have hbd:=hkd.below hb4 (Nat.le_refl _) hge4
  have hnb:=Dv (l:=aR L) (hst.at_ 0 _ rfl) rfl (hst.lt 0 (by simp[SS.n]))
  refine(yC (some ⟨β 0,0,none⟩) (aR L).length c5 L hok hne wd.heap.size wd hnb (Nat.le_refl _) (by omega) (by omega) hv (by omega) (htw hbd)).mono ?_
  rintro e w' ⟨v,rfl,⟨A',k',c',rfl,h1⟩,hb'⟩
  exact⟨⟨A',k',c'⟩,rfl,hb',h1⟩
 rintro⟨xA,xk,xc⟩ wd w6 b6 hkd hx hbd6 hk46 hbs6
 dsimp only at hx
 have hb6:=hk46.below hb4 (Nat.le_refl _) hge4
 have hge6:∀b∈b6,w.heap.size<=b:=fun b hb=>(hbs6 b hb).1.elim (hge4 b) (fun h=>Nat.le_trans hb4.size h)
 have T6:=T4.next hk46 hbs6
 have C6:=C4.next hk46 hbs6
 have X6:=RL.start hx hbs6
 clear hx
 refine aE ?_
 rintro c7 ⟨t7,hc7⟩
 have hc7':(aj L).length<=c7:=by rw[hc7];exact bd
 refine dI (w:=w6) (bs:=b6) (R:=fun(y:UV) wc w'=>RowAt CompR 2 (Rx.since wc w') w'.heap.size y.A y.k (L.map (·.c))) ⟨rfl,Keep.refl _ _,fun b hb=>.inl hb⟩ (fun y=>⟨rfl,trivial,trivial,trivial⟩) (fun β we hst ho hke=>?_) ?_
 ·have hbe:=hke.below hb6 (Nat.le_refl _) hge6
  have hnb:=Dv (l:=aj L) (hst.at_ 1 _ rfl) rfl (hst.lt 1 (by simp[SS.n]))
  refine(BF (some ⟨β 1,0,none⟩) (aj L).length c7 L hok hne we.heap.size we hnb (Nat.le_refl _) hc7' (by omega) hv (by omega) (htw hbe)).mono ?_
  rintro e w' ⟨v,rfl,⟨A',k',c',rfl,h1⟩,hb'⟩
  exact⟨⟨A',k',c'⟩,rfl,hb',h1⟩
 rintro⟨yA,yk,yc⟩ we' w8 b8 hke hy hbe8 hk68 hbs8
 dsimp only at hy
 have hb8:=hk68.below hb6 (Nat.le_refl _) hge6
 have hge8:∀b∈b8,w.heap.size<=b:=fun b hb=>(hbs8 b hb).1.elim (hge6 b) (fun h=>Nat.le_trans hb6.size h)
 have T8:=T6.next hk68 hbs8
 have C8:=C6.next hk68 hbs8
 have X8:=X6.next hk68 hbs8
 have Y8:=RL.start hy hbs8
 clear hy
 refine dI (w:=w8) (bs:=b8) (R:=fun(b:Bool) _ _=>b=true) ⟨rfl,Keep.refl _ _,fun b hb=>.inl hb⟩ (fun y=>⟨rfl,trivial⟩) (fun β wd hst ho hkd=>?_) ?_
 ·refine(sf wd (htw (hkd.below hb8 (Nat.le_refl _) hge8))).mono ?_
  rintro e w' ⟨v,rfl,⟨b,rfl,hb⟩,hb'⟩
  exact⟨b,rfl,hb',hb⟩
 rintro aw wf w9 b9 hkf rfl hbf9 hk89 hbs9
 have hb9:=hk89.below hb8 (Nat.le_refl _) hge8
 have hge9:∀b∈b9,w.heap.size<=b:=fun b hb=>(hbs9 b hb).1.elim (hge8 b) (fun h=>Nat.le_trans hb8.size h)
 have T9:=T8.next hk89 hbs9
 have C9:=C8.next hk89 hbs9
 have X9:=X8.next hk89 hbs9
 have Y9:=Y8.next hk89 hbs9
 refine af (fun _=>?_) (fun h=>absurd h (by simp))
 refine dI (w:=w9) (bs:=b9) (R:=fun(t:ByteArray) _ _=>t=⟨(aR L).toArray⟩) ⟨rfl,Keep.refl _ _,fun b hb=>.inl hb⟩ (fun y=>⟨rfl,trivial⟩) (fun β wd hst ho hkd=>?_) ?_
 ·have hbd:=hkd.below hb9 (Nat.le_refl _) hge9
  refine(yB (hcts hbd) hne (hsz hbd) (htw hbd) (by omega) hv (by omega)).mono ?_
  rintro e w' ⟨rfl,hb'⟩
  exact⟨_,rfl,hb',rfl⟩
 rintro tx wg w10 b10 hkg rfl hbg10 hk910 hbs10
 have hb10:=hk910.below hb9 (Nat.le_refl _) hge9
 have hge10:∀b∈b10,w.heap.size<=b:=fun b hb=>(hbs10 b hb).1.elim (hge9 b) (fun h=>Nat.le_trans hb9.size h)
 have T10:=T9.next hk910 hbs10
 have C10:=C9.next hk910 hbs10
 have X10:=X9.next hk910 hbs10
 have Y10:=Y9.next hk910 hbs10
 refine af (fun _=>?_) (fun h=>absurd h (by simp))
 refine dI (w:=w10) (bs:=b10) (R:=fun(u:UV) wc w'=>Bts w' w'.heap.size u.A u.k (aj L)/\(0<u.k->∀a,u.A=some a->wc.heap.size<=a.block)) ⟨rfl,Keep.refl _ _,fun b hb=>.inl hb⟩ (fun y=>⟨rfl,trivial⟩) (fun β wd hst ho hkd=>?_) ?_
 ·have hbd:=hkd.below hb10 (Nat.le_refl _) hge10
  refine(xl _ n c L B wd (hcts hbd) hne (hsz hbd) (by omega) hv (by omega)).mono ?_
  rintro e w' ⟨v,rfl,⟨uA,uk,uc,rfl,h1,h2⟩,hb'⟩
  exact⟨⟨uA,uk,uc⟩,rfl,hb',h1,h2⟩
 rintro⟨uA,uk,uc⟩ wh w11 b11 hkh ⟨hu1,hu2⟩ hbh11 hk1011 hbs11
 dsimp only at hu1 hu2
 have hb11:=hk1011.below hb10 (Nat.le_refl _) hge10
 have hge11:∀b∈b11,w.heap.size<=b:=fun b hb=>(hbs11 b hb).1.elim (hge10 b) (fun h=>Nat.le_trans hb10.size h)
 have T11:=T10.next hk1011 hbs11
 have C11:=C10.next hk1011 hbs11
 have X11:=X10.next hk1011 hbs11
 have Y11:=Y10.next hk1011 hbs11
 have U11:=Loose.fresh hu1 hu2 hbs11
 dsimp only
 rw[U11.1.bytesAt,T11.1.bytesAt,C11.1.bytesAt]
 refine aa U11.can (af (fun _=>af (fun _=>aa T11.can ?_) (fun h=>absurd h (by simp))) (fun h=>absurd h (by simp)))
 refine af (fun _=>aa C11.can (af (fun _=>af (fun _=>af (fun _=>?_) (fun h=>absurd h (by simp))) (fun h=>absurd h (by simp))) (fun h=>absurd h (by simp)))) (fun h=>absurd h (by simp))
 refine dI (w:=w11) (bs:=b11) (R:=fun(b:Bool) _ _=>b=true) ⟨rfl,Keep.refl _ _,fun b hb=>.inl hb⟩ (fun y=>⟨rfl,trivial⟩) (fun β wd hst ho hkd=>?_) ?_
 ·have hbd:=hkd.below hb11 (Nat.le_refl _) hge11
  have hX:=(X11.next (bs':=[]) (m:=0) hkd (by simp)).comps hv'
  have hxl:=hX.1
  rw[List.length_map]at hxl
  refine(se xA xk xc (some ad) n c _ wd.heap.size wd hX ((hw hbd).below (Below.refl _ _) (hsz hbd)) (Nat.le_refl _) (by omega)).mono ?_
  rintro e w' ⟨v,rfl,⟨b,rfl,hb⟩,hb'⟩
  exact⟨b,rfl,hb',hb⟩
 rintro al wi w12 b12 hki rfl hbi12 hk1112 hbs12
 have hb12:=hk1112.below hb11 (Nat.le_refl _) hge11
 have hge12:∀b∈b12,w.heap.size<=b:=fun b hb=>(hbs12 b hb).1.elim (hge11 b) (fun h=>Nat.le_trans hb11.size h)
 have Y12:=Y11.next hk1112 hbs12
 refine af (fun _=>?_) (fun h=>absurd h (by simp))
 refine dI (w:=w12) (bs:=b12) (R:=fun(b:Bool) _ _=>b=true) ⟨rfl,Keep.refl _ _,fun b hb=>.inl hb⟩ (fun y=>⟨rfl,trivial⟩) (fun β wd hst ho hkd=>?_) ?_
 ·have hbd:=hkd.below hb12 (Nat.le_refl _) hge12
  have hX:=(Y12.next (bs':=[]) (m:=0) hkd (by simp)).comps hv'
  have hxl:=hX.1
  rw[List.length_map]at hxl
  refine(se yA yk yc (some ad) n c _ wd.heap.size wd hX ((hw hbd).below (Below.refl _ _) (hsz hbd)) (Nat.le_refl _) (by omega)).mono ?_
  rintro e w' ⟨v,rfl,⟨b,rfl,hb⟩,hb'⟩
  exact⟨b,rfl,hb',hb⟩
 rintro al wj w13 b13 hkj rfl hbj13 hk1213 hbs13
 exact aN (Fine.mk' (hk1213.below hb12 (Nat.le_refl _) hge12) (fun b hb=>(hbs13 b hb).1.elim (hge12 b) (fun h=>Nat.le_trans hb12.size h))) fun β w' _ _=>⟨_,rfl,rfl⟩
end
end Go.Proofs.YtnklanajebphpaaGreatDoor
