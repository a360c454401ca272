/- Joined texts: K46 K49. -/
import Derived.Test.YtnklanajebphpaaGreatDoorJ11
import Derived.Test.YtnklanajebphpaaGreatDoorJ10
set_option maxRecDepth 100000
set_option maxHeartbeats 4000000
set_option linter.unusedVariables false
set_option linter.unusedSimpArgs false
namespace Go.Proofs.YtnklanajebphpaaGreatDoor
open IntKind
section
open Go Go.Rx Go.RowKit
theorem Ci{w:World}{β:Nat->Nat}{k:Nat}{x:CT}{A:Option Addr}{n c:Nat}(h:SObj.At β (.cells [.int .i64 x.c.code false,.xs A n c] 2 31 0 0) w.heap[k]?)(hk:k<w.heap.size)
  (hb:Bts w w.heap.size A n x.c.val) (hl:(x.c.val.length:Int)<2^48) (hc:n<=c) (h0:A=none->c=0):CTsAt w w.heap.size (some ⟨k,0,none⟩) 1 [x]:=by
 obtain⟨r,h1,h2⟩:=h
 have hr:r=[]:=List.eq_nil_of_length_eq_zero (by have h2':2+r.length=2:=h2;omega)
 subst hr
 have e0:w.cell? ⟨k,0,none⟩=some (.int .i64 x.c.code):=by rw[Lib.cell_of_heap h1];rfl
 have e1:w.cell? ⟨k,1,none⟩=some (.slice A n c):=by rw[Lib.cell_of_heap h1];rfl
 refine⟨rfl,fun _=>⟨_,rfl,hk,fun i y hi=>?_⟩⟩
 match i,hi with
 |0,hi=>
  simp only[List.getElem?_cons_zero,Option.some.injEq]at hi
  subst hi
  refine⟨⟨hk,e0,⟨A,n,c,e1,hb⟩,hl⟩,?_⟩
  have e1':w.cell? ((Addr.add ⟨k,0,none⟩ (0*2)).add 1)=some (.slice A n c):=e1
  simp only[sA,pt,xo,e1']
  exact⟨hc,h0⟩
 |i+1,hi=>simp at hi
def Loose(w:World)(bs:List Nat)(A:Option Addr)(n:Nat)(l:List UInt8):Prop:=Bts w w.heap.size A n l/\(0<n->∀a,A=some a->a.block ∉ bs)
theorem Loose.can{w:World}{bs:List Nat}{A:Option Addr}{n:Nat}{l:List UInt8}(h:Loose w bs A n l):canBytes w bs A n:=by
 rcases Nat.eq_zero_or_pos n with h0 |h0
 ·subst h0
  exact .inl rfl
 ·exact h.1.canBytesN (Nat.le_refl _) (h.2 h0)
theorem Loose.next{w w':World}{bs bs':List Nat}{A:Option Addr}{n m:Nat}{l:List UInt8}(h:Loose w bs A n l)(hk:Keep bs w w')(hb:∀b∈bs',(b∈bs∨w.heap.size<=b)/\b<m):Loose w' bs' A n l:=by
 refine⟨⟨h.1.1,fun h0=>?_⟩,fun h0 a ha hm=>?_⟩
 ·obtain⟨a,ha,hab,_⟩:=h.1.2 h0
  have:=h.2 h0 a ha
  subst ha
  exact(bd h.1 hk this).2 h0
 ·obtain⟨a',ha',hab,_⟩:=h.1.2 h0
  rw[ha]at ha'
  cases ha'
  rcases(hb _ hm).1 with h1 |h1
  ·exact h.2 h0 a ha h1
  ·omega
theorem Loose.keep{w w':World}{bs:List Nat}{A:Option Addr}{n:Nat}{l:List UInt8}(h:Loose w bs A n l)(hk:Keep bs w w'):Bts w' w'.heap.size A n l:=
 (h.next (bs':=[]) (m:=0) hk (by simp)).1
theorem Loose.fresh{w wc:World}{bs bs0:List Nat}{A:Option Addr}{n:Nat}{l:List UInt8}{m:Nat}(h:Bts w w.heap.size A n l)(hf:0<n->∀a,A=some a->wc.heap.size<=a.block)(hb:∀b∈bs,(b∈bs0∨m<=b)/\b<wc.heap.size):Loose w bs A n l:=
 ⟨h,fun h0 a ha hm=>by
  have:=hf h0 a ha
  have:=(hb _ hm).2
  omega⟩
theorem Loose.since{w wc:World}{bs bs0:List Nat}{A:Option Addr}{n:Nat}{l:List UInt8}{m:Nat}(h:Bts (Rx.since wc w) w.heap.size A n l)(hb:∀b∈bs,(b∈bs0∨m<=b)/\b<wc.heap.size):Loose w bs A n l:=
 Loose.fresh (h.sub (CP _ _ _) (Nat.le_refl _)) (fun h0 a ha=>by
  obtain⟨a',ha',hab,hx⟩:=h.2 h0
  rw[ha]at ha'
  cases ha'
  have hl:=h.1
  have:=hx 0 (l[0]'(by omega)) (List.getElem?_eq_getElem _)
  exact((dd _ _ _ _).1 this).1) hb
theorem Loose.old{w:World}{B:Nat}{bs:List Nat}{A:Option Addr}{n:Nat}{l:List UInt8}(h:Bts w B A n l)(hB:B<=w.heap.size)(hb:∀b∈bs,B<=b):Loose w bs A n l:=
 ⟨h.mono hB,fun h0 a ha hm=>by
  obtain⟨a',ha',hab,_⟩:=h.2 h0
  rw[ha]at ha'
  cases ha'
  have:=hb _ hm
  omega⟩
theorem CG:∀k∈bc,(ai k).name.length<=20:=by decide
theorem tZ:∀(r n:Nat),n<10^r->(Lib.decDigits n).length<=r+1
 |0,n,h=>by rw[Lib.decDigits_one (by omega)];simp
 |r+1,n,h=>by
  by_cases h1:n<10
  ·rw[Lib.decDigits_one h1];simp
  ·rw[Lib.decDigits,dif_neg h1,List.length_append]
   have:=tZ r (n/10) (Nat.div_lt_of_lt_mul (by rw[Nat.pow_succ]at h;omega))
   simp only[List.length_cons,List.length_nil]
   omega
theorem sV:∀G:List Nat,(∀g∈G,g<65536)->(jn G).length<=G.length*65537
 |[],_=>by simp[jn]
 |[g],h=>by
  have:=cO g
  have:=h g (by simp)
  show(ax g).length<=_
  simp only[List.length_cons,List.length_nil]
  omega
 |g :: g' :: r,h=>by
  have e:jn (g :: g' :: r)=ax g++[58]++jn (g' :: r):=rfl
  have h1:=sV (g' :: r) (fun x hx=>h x (List.mem_cons_of_mem _ hx))
  have h2:=cO g
  have h3:=h g (by simp)
  rw[e]
  simp only[List.length_append,List.length_cons,List.length_nil]at h1 ⊢
  omega
theorem Gq(l:List UInt8):(pK l).length<=2000000:=by
 unfold pK
 split
 ·have:=kz (l.getD 12 0) (l.getD 13 0) (l.getD 14 0) (l.getD 15 0)
  rw[List.length_append]
  simp only[List.length_cons,List.length_nil]
  omega
 ·unfold jw gS
  have hj:∀a b,b<=8->(jn (lA l a b)).length<=8*65537:=fun a b hb=>Nat.le_trans (sV _ (uy l a b)) (by rw[kw];exact Nat.mul_le_mul_right _ (by omega))
  split
  ·have:=hj 0 8 (Nat.le_refl _)
   omega
  ·rename_i hne
   have hg:=qu l
   have hf:(bM l 8).1<=8:=by
    rcases hg with⟨h,_⟩ |h
    ·exact absurd h hne
    ·have h1:=h.1
     have h2:=h.2.1
     omega
   have h1:=hj 0 _ hf
   have h2:=hj (bM l 8).2 8 (Nat.le_refl _)
   simp only[List.length_append,List.length_cons,List.length_nil]
   omega
theorem Cg{k:Int}{val txt:List UInt8}(hs:Simple k val txt)(hl:val.length<=2147483647):(bz k txt).length<=140737488355328:=by
 have h1:=CG k hs.tab
 have h2:(bz k txt).length<=22+txt.length:=by
  unfold bz
  split <;> simp <;> omega
 have h3:txt.length<=2147483647+2000000:=by
  cases hs with
  |N=>simp
  |P _ _ _ _ a b=>have:=tZ 20 _ (show a.toNat*256+b.toNat<10^20 by have:=a.toNat_lt;have:=b.toNat_lt;omega);omega
  |F _ _ _ _ a b c d=>have:=kz a b c d;omega
  |S _ _ _ _ l hl16=>have:=Gq val;omega
  |C _ _ _ _ a=>have:=tZ 20 _ (show a.toNat<10^20 by have:=a.toNat_lt;omega);rw[jC a.toNat_lt];omega
  |M _ _ _ _ a b c d e f g h=>
   have h8:=zl [a,b,c,d,e,f,g,h]
   rw[G7]at h8
   have h9:(256:Nat) ^ [a,b,c,d,e,f,g,h].length<10^20:=by show(256:Nat)^8<10^20;decide
   have:=tZ 20 _ (show ft a b c d e f g h<10^20 by omega)
   omega
  |D=>omega
  |Z=>omega
  |U=>omega
 omega
theorem fO(x:CT):bN [x]=bz x.c.code x.txt:=by simp[bN]
theorem el(x:CT):am [x]=bW x.c.code x.c.val++x.c.val:=by simp[am,bg]
theorem pn(code:Int)(A:Option Addr)(n c:Nat)(l:List UInt8)(B:Nat)(w:World)(h:Bts w B A n l)(hB:B<=w.heap.size)(hc:n<=c)(hA0:A=none->c=0)(ht:Tens w)
  (haw:∀w1,Below w.heap.size w w1->Calls Tryz.prog 6 #[] w1 (bB (gv fun b=>b=true) w1)) :
  Calls Tryz.prog 4 #[.agg #[.int .i64 code,.slice A n c]] w (bB (gv fun b=>b=true) w):=by
 have hln:=h.1
 have htl:=ht.lt
 have hw:∀ {w':World},Below w.heap.size w w'->Bts w' B A n l:=fun hb=>h.below (hb.mono hB) (Nat.le_refl _)
 have hsz:∀ {w':World},Below w.heap.size w w'->B<=w'.heap.size:=fun hb=>Nat.le_trans hB hb.size
 have htw:∀ {w':World},Below w.heap.size w w'->Tens w':=fun hb=>ht.below hb htl
 refine aF (hk:=KJ) (n:=1000) (args:=[.agg [.int .i64 code false,.xs A n c]]) ⟨⟨trivial,trivial,trivial⟩,trivial⟩ ?_
 refine ah (Rg code A n c w) ?_
 refine ak (fun _=>aQ (Fine.start _ _) fun β w' _ _=>⟨_,rfl,rfl⟩) (fun hn=>?_)
 have hn':n<=2147483647:=by omega
 refine g7 (fun b=>b=true->∃txt,Simple code l txt) (Fine.start w _) rfl (fun β w1 hb1 _ _=>zg code A n c l B w1 (hw hb1) (hsz hb1) (by omega)) (fun b w1 bs1 hR hb1 hbs1=>?_)
 refine ae (fun _=>g7 (fun b=>b=true) (Fine.mk' hb1 hbs1) rfl (fun β w2 hb2 _ _=>haw w2 hb2) (fun b w2 bs2 hR hb2 hbs2=>aQ (Fine.mk' hb2 hbs2) fun β w' _ _=>⟨_,rfl,hR⟩)) (fun hbt=>?_)
 obtain⟨txt,hs⟩:=hR (by simpa using hbt)
 have hk:=hs.tab
 let X:CT:=⟨⟨code,l⟩,txt,hs⟩
 refine iJ (Fine.mk' hb1 hbs1) rfl (fun px w2 bs2 hb2 hbs2 hpx hpx2=>?_)
 obtain⟨_,rfl⟩:=hpx (hpx2 hk)
 have hln1:(l.length:Int)<2^48:=by omega
 have hbyl:(bW code l++l).length<140737488355328:=by
  have:=A8 hk (show l.length<=2147483647 by omega)
  rw[List.length_append]
  omega
 have htx:(bz code txt).length<=140737488355328:=Cg hs (by omega)
 refine aY (w:=w2) (bs:=bs2) (R:=fun(y:MC) wc w'=>y.s=⟨(bz code txt).toArray⟩/\y.v=⟨txt.toArray⟩/\Bts w' w'.heap.size y.A y.k (bW code l++l)/\Bts w' w'.heap.size y.A' y.k' l/\Fresh wc y.A/\Fresh wc y.A') ⟨rfl,Keep.refl _ _,fun b hb=>.inl hb⟩ (fun y=>⟨rfl,trivial,trivial,trivial,trivial,trivial⟩) (fun β wc hst ho hkc=>?_) ?_
 ·have hbc:=hkc.below hb2 (Nat.le_refl _) hbs2
  refine(sG hs A n c B wc (hw hbc) (hsz hbc) (htw hbc) (by omega) htx).mono ?_
  rintro e w' ⟨v,rfl,⟨A1,n1,c1,A2,n2,c2,rfl,h1,h2,h3,h4⟩,hb'⟩
  exact⟨⟨_,_,A1,n1,c1,A2,n2,c2⟩,rfl,hb',rfl,rfl,h1,h2,h3,h4⟩
 rintro⟨ys,yv,yA,yk,yc,yA',yk',yc'⟩ wc w3 b3 hkc ⟨rfl,rfl,hy1,hy2,hf1,hf2⟩ hbc3 cz hbs3
 dsimp only at hy1 hy2 hf1 hf2
 have hb3:Below w.heap.size w w3:=cz.below hb2 (Nat.le_refl _) hbs2
 have hge3:∀b∈b3,w.heap.size<=b:=fun b hb=>(hbs3 b hb).1.elim (hbs2 b) (fun h=>Nat.le_trans hb2.size h)
 have L1:=Loose.fresh hy1 (fun _ a ha=>hf1 a ha) hbs3
 have L2:=Loose.fresh hy2 (fun _ a ha=>hf2 a ha) hbs3
 clear hy1 hy2 hf1 hf2
 have hname:(⟨(ai code).name.toArray⟩:ByteArray)=⟨(ai code).name.toArray⟩:=rfl
 refine⟨aa rfl (aa ⟨rfl,rfl,rfl⟩ (aa rfl ?_)),?_⟩
 ·refine aY (w:=w3) (bs:=b3) (R:=fun(t:ByteArray) _ _=>t=⟨txt.toArray⟩) ⟨rfl,Keep.refl _ _,fun b hb=>.inl hb⟩ (fun y=>⟨rfl,trivial⟩) (fun β wd hst ho hkd=>?_) ?_
  ·have hbd:=hkd.below hb3 (Nat.le_refl _) hge3
   refine(fR code A n c l txt B wd hs (hw hbd) hc (hsz hbd)).mono ?_
   rintro e w' ⟨v,rfl,rfl,hb'⟩
   exact⟨_,rfl,hb',rfl⟩
  rintro t wd w4 b4 hkd rfl hbd4 hk34 hbs4
  have hb4:=hk34.below hb3 (Nat.le_refl _) hge3
  have hge4:∀b∈b4,w.heap.size<=b:=fun b hb=>(hbs4 b hb).1.elim (hge3 b) (fun h=>Nat.le_trans hb3.size h)
  have M1:=L1.next hk34 hbs4
  have M2:=L2.next hk34 hbs4
  refine aa rfl ?_
  refine aY (w:=w4) (bs:=b4) (R:=fun(z:MN) wc w'=>z.cd=code/\z.ok=true/\Bts (Rx.since wc w') w'.heap.size z.A z.k l) ⟨rfl,Keep.refl _ _,fun b hb=>.inl hb⟩ (fun y=>⟨rfl,⟨trivial,trivial,trivial⟩,trivial,trivial⟩) (fun β we hst ho hke=>?_) ?_
  ·have hbe:=hke.below hb4 (Nat.le_refl _) hge4
   refine(ez hs (by omega) we (htw hbe)).mono ?_
   rintro e w' ⟨v,rfl,⟨zA,zk,zc,rfl,h1⟩,hb'⟩
   exact⟨⟨code,zA,zk,zc,true⟩,rfl,hb',rfl,rfl,h1⟩
  rintro⟨zcd,zA,zk,zc,zok⟩ we w5 b5 hke ⟨hzc,hzo,hz⟩ hbe5 hk45 hbs5
  dsimp only at hzc hzo hz
  subst zcd
  subst zok
  have hb5:=hk45.below hb4 (Nat.le_refl _) hge4
  have hge5:∀b∈b5,w.heap.size<=b:=fun b hb=>(hbs5 b hb).1.elim (hge4 b) (fun h=>Nat.le_trans hb4.size h)
  have N1:=M1.next hk45 hbs5
  have N2:=M2.next hk45 hbs5
  have Z:=Loose.since hz hbs5
  refine aY (w:=w5) (bs:=b5) (R:=fun(b:Bool) _ _=>b=true) ⟨rfl,Keep.refl _ _,fun b hb=>.inl hb⟩ (fun y=>⟨rfl,trivial⟩) (fun β wd hst ho hkd=>?_) ?_
  ·refine(haw wd (hkd.below hb5 (Nat.le_refl _) hge5)).mono ?_
   rintro e w' ⟨v,rfl,⟨b,rfl,hb⟩,hb'⟩
   exact⟨b,rfl,hb',hb⟩
  rintro aw wd w6 b6 hkd rfl hbd6 hk56 hbs6
  refine ae (fun _=>?_) (fun h=>absurd h (by simp))
  have hb6:=hk56.below hb5 (Nat.le_refl _) hge5
  have hge6:∀b∈b6,w.heap.size<=b:=fun b hb=>(hbs6 b hb).1.elim (hge5 b) (fun h=>Nat.le_trans hb5.size h)
  have O1:=N1.next hk56 hbs6
  have O2:=N2.next hk56 hbs6
  have OZ:=Z.next hk56 hbs6
  refine aY (w:=w6) (bs:=b6) (R:=fun(t:ByteArray) _ _=>t=⟨(bz code txt).toArray⟩) ⟨rfl,Keep.refl _ _,fun b hb=>.inl hb⟩ (fun y=>⟨rfl,trivial⟩) (fun β we hst ho hke=>?_) ?_
  ·have hbe:=hke.below hb6 (Nat.le_refl _) hge6
   have hX:=Ci (x:=X) (hst.at_ 4 _ rfl) (hst.lt 4 (by simp[SS.n])) ((hw hbe).mono (hsz hbe)) hln1 hc hA0
   refine(rc (some ⟨β 4,0,none⟩) 1 1 [X] _ we hX (Nat.le_refl _) (by omega) (by rw[fO];exact Nat.lt_of_le_of_lt htx (by decide))).mono ?_
   rintro e w' ⟨v,rfl,rfl,hb'⟩
   rw[fO]
   exact⟨_,rfl,hb',rfl⟩
  rintro tx we w7 b7 hke rfl hbe7 hk67 hbs7
  have hb7:=hk67.below hb6 (Nat.le_refl _) hge6
  have hge7:∀b∈b7,w.heap.size<=b:=fun b hb=>(hbs7 b hb).1.elim (hge6 b) (fun h=>Nat.le_trans hb6.size h)
  have P1:=O1.next hk67 hbs7
  have P2:=O2.next hk67 hbs7
  have PZ:=OZ.next hk67 hbs7
  refine ae (fun _=>?_) (fun h=>absurd h (by simp))
  refine aY (w:=w7) (bs:=b7) (R:=fun(t:ByteArray) _ _=>t=⟨txt.toArray⟩) ⟨rfl,Keep.refl _ _,fun b hb=>.inl hb⟩ (fun y=>⟨rfl,trivial⟩) (fun β wd hst ho hkd=>?_) ?_
  ·have hbd:=hkd.below hb7 (Nat.le_refl _) hge7
   refine(fR code A n c l txt B wd hs (hw hbd) hc (hsz hbd)).mono ?_
   rintro e w' ⟨v,rfl,rfl,hb'⟩
   exact⟨_,rfl,hb',rfl⟩
  rintro tv wf w8 b8 hkf rfl hbf8 hk78 hbs8
  have hb8:=hk78.below hb7 (Nat.le_refl _) hge7
  have hge8:∀b∈b8,w.heap.size<=b:=fun b hb=>(hbs8 b hb).1.elim (hge7 b) (fun h=>Nat.le_trans hb7.size h)
  have Q1:=P1.next hk78 hbs8
  have Q2:=P2.next hk78 hbs8
  have QZ:=PZ.next hk78 hbs8
  refine ae (fun _=>aa Q1.can ?_) (fun h=>absurd h (by simp))
  refine aY (w:=w8) (bs:=b8) (R:=fun(u:UV) wc w'=>Bts w' w'.heap.size u.A u.k (bW code l++l)/\(0<u.k->∀a,u.A=some a->wc.heap.size<=a.block)) ⟨rfl,Keep.refl _ _,fun b hb=>.inl hb⟩ (fun y=>⟨rfl,trivial⟩) (fun β we hst ho hke=>?_) ?_
  ·have hbe:=hke.below hb8 (Nat.le_refl _) hge8
   have hX:=Ci (x:=X) (hst.at_ 4 _ rfl) (hst.lt 4 (by simp[SS.n])) ((hw hbe).mono (hsz hbe)) hln1 hc hA0
   refine(nz ⟨β 4,0,none⟩ 1 1 [X] _ we hX (Nat.le_refl _) (by omega) (by rw[el];exact hbyl)).mono ?_
   rintro e w' ⟨v,rfl,⟨uA,uk,uc,rfl,h1,h2⟩,hb'⟩
   rw[el]at h1
   exact⟨⟨uA,uk,uc⟩,rfl,hb',h1,h2⟩
  rintro⟨uA,uk,uc⟩ we w9 b9 hkg ⟨hu1,hu2⟩ hbg9 hk89 hbs9
  dsimp only at hu1 hu2
  have hb9:=hk89.below hb8 (Nat.le_refl _) hge8
  have hge9:∀b∈b9,w.heap.size<=b:=fun b hb=>(hbs9 b hb).1.elim (hge8 b) (fun h=>Nat.le_trans hb8.size h)
  have R1:=Q1.next hk89 hbs9
  have R2:=Q2.next hk89 hbs9
  have RZ:=QZ.next hk89 hbs9
  have RU:=Loose.fresh hu1 hu2 hbs9
  have RA:Loose w9 b9 A n l:=Loose.old (hw hb9) (hsz hb9) (fun b hb=>Nat.le_trans hB (hge9 b hb))
  refine aa R1.can (aa (by rw[R1.1.bytesAt,Q1.1.bytesAt]) (aa RU.can ?_))
  refine ae (fun _=>aa R2.can (aa RA.can ?_)) (fun h=>absurd h (by rw[Q1.1.bytesAt,RU.1.bytesAt];simp))
  refine ae (fun _=>ae (fun _=>?_) (fun h=>absurd h (by simp))) (fun h=>absurd h (by rw[R2.1.bytesAt,RA.1.bytesAt];simp))
  refine aY (w:=w9) (bs:=b9) (R:=fun(b:Bool) _ _=>b=true) ⟨rfl,Keep.refl _ _,fun b hb=>.inl hb⟩ (fun y=>⟨rfl,trivial⟩) (fun β wd hst ho hkd=>?_) ?_
  ·have hbd:=hkd.below hb9 (Nat.le_refl _) hge9
   refine(ra code A n c zA zk zc l _ wd ((hw hbd).mono (hsz hbd)) (RZ.keep hkd) (Nat.le_refl _)).mono ?_
   rintro e w' ⟨v,rfl,⟨b,rfl,hb⟩,hb'⟩
   exact⟨b,rfl,hb',hb⟩
  rintro sm wh w10 b10 hkh rfl hbh hk910 hbs10
  exact aQ (Fine.mk' (hk910.below hb9 (Nat.le_refl _) hge9) (fun b hb=>(hbs10 b hb).1.elim (hge9 b) (fun h=>Nat.le_trans hb9.size h))) fun β w' _ _=>⟨_,rfl,rfl⟩
 ·refine aY (w:=w3) (bs:=b3) (R:=fun(t:ByteArray) _ _=>t=⟨txt.toArray⟩) ⟨rfl,Keep.refl _ _,fun b hb=>.inl hb⟩ (fun y=>⟨rfl,trivial⟩) (fun β wd hst ho hkd=>?_) ?_
  ·have hbd:=hkd.below hb3 (Nat.le_refl _) hge3
   refine(fR code A n c l txt B wd hs (hw hbd) hc (hsz hbd)).mono ?_
   rintro e w' ⟨v,rfl,rfl,hb'⟩
   exact⟨_,rfl,hb',rfl⟩
  rintro t wd w4 b4 hkd rfl hbd4 hk34 hbs4
  have hb4:=hk34.below hb3 (Nat.le_refl _) hge3
  have hge4:∀b∈b4,w.heap.size<=b:=fun b hb=>(hbs4 b hb).1.elim (hge3 b) (fun h=>Nat.le_trans hb3.size h)
  have M1:=L1.next hk34 hbs4
  have M2:=L2.next hk34 hbs4
  refine aa rfl ⟨aa rfl ?_,?_⟩
  ·refine aY (w:=w4) (bs:=b4) (R:=fun(z:MN) wc w'=>z.cd=code/\z.ok=true/\Bts (Rx.since wc w') w'.heap.size z.A z.k l) ⟨rfl,Keep.refl _ _,fun b hb=>.inl hb⟩ (fun y=>⟨rfl,⟨trivial,trivial,trivial⟩,trivial,trivial⟩) (fun β we hst ho hke=>?_) ?_
   ·have hbe:=hke.below hb4 (Nat.le_refl _) hge4
    refine(ez hs (by omega) we (htw hbe)).mono ?_
    rintro e w' ⟨v,rfl,⟨zA,zk,zc,rfl,h1⟩,hb'⟩
    exact⟨⟨code,zA,zk,zc,true⟩,rfl,hb',rfl,rfl,h1⟩
   rintro⟨zcd,zA,zk,zc,zok⟩ we w5 b5 hke ⟨hzc,hzo,hz⟩ hbe5 hk45 hbs5
   dsimp only at hzc hzo hz
   subst zcd
   subst zok
   have hb5:=hk45.below hb4 (Nat.le_refl _) hge4
   have hge5:∀b∈b5,w.heap.size<=b:=fun b hb=>(hbs5 b hb).1.elim (hge4 b) (fun h=>Nat.le_trans hb4.size h)
   have N1:=M1.next hk45 hbs5
   have N2:=M2.next hk45 hbs5
   have Z:=Loose.since hz hbs5
   refine aY (w:=w5) (bs:=b5) (R:=fun(b:Bool) _ _=>b=true) ⟨rfl,Keep.refl _ _,fun b hb=>.inl hb⟩ (fun y=>⟨rfl,trivial⟩) (fun β wd hst ho hkd=>?_) ?_
   ·refine(haw wd (hkd.below hb5 (Nat.le_refl _) hge5)).mono ?_
    rintro e w' ⟨v,rfl,⟨b,rfl,hb⟩,hb'⟩
    exact⟨b,rfl,hb',hb⟩
   rintro aw wd w6 b6 hkd rfl hbd6 hk56 hbs6
   refine ae (fun _=>?_) (fun h=>absurd h (by simp))
   have hb6:=hk56.below hb5 (Nat.le_refl _) hge5
   have hge6:∀b∈b6,w.heap.size<=b:=fun b hb=>(hbs6 b hb).1.elim (hge5 b) (fun h=>Nat.le_trans hb5.size h)
   have O1:=N1.next hk56 hbs6
   have O2:=N2.next hk56 hbs6
   have OZ:=Z.next hk56 hbs6
   refine aY (w:=w6) (bs:=b6) (R:=fun(t:ByteArray) _ _=>t=⟨(bz code txt).toArray⟩) ⟨rfl,Keep.refl _ _,fun b hb=>.inl hb⟩ (fun y=>⟨rfl,trivial⟩) (fun β we hst ho hke=>?_) ?_
   ·have hbe:=hke.below hb6 (Nat.le_refl _) hge6
    have hX:=Ci (x:=X) (hst.at_ 4 _ rfl) (hst.lt 4 (by simp[SS.n])) ((hw hbe).mono (hsz hbe)) hln1 hc hA0
    refine(rc (some ⟨β 4,0,none⟩) 1 1 [X] _ we hX (Nat.le_refl _) (by omega) (by rw[fO];exact Nat.lt_of_le_of_lt htx (by decide))).mono ?_
    rintro e w' ⟨v,rfl,rfl,hb'⟩
    rw[fO]
    exact⟨_,rfl,hb',rfl⟩
   rintro tx we w7 b7 hke rfl hbe7 hk67 hbs7
   have hb7:=hk67.below hb6 (Nat.le_refl _) hge6
   have hge7:∀b∈b7,w.heap.size<=b:=fun b hb=>(hbs7 b hb).1.elim (hge6 b) (fun h=>Nat.le_trans hb6.size h)
   have P1:=O1.next hk67 hbs7
   have P2:=O2.next hk67 hbs7
   have PZ:=OZ.next hk67 hbs7
   refine ae (fun _=>?_) (fun h=>absurd h (by simp))
   refine aY (w:=w7) (bs:=b7) (R:=fun(t:ByteArray) _ _=>t=⟨txt.toArray⟩) ⟨rfl,Keep.refl _ _,fun b hb=>.inl hb⟩ (fun y=>⟨rfl,trivial⟩) (fun β wd hst ho hkd=>?_) ?_
   ·have hbd:=hkd.below hb7 (Nat.le_refl _) hge7
    refine(fR code A n c l txt B wd hs (hw hbd) hc (hsz hbd)).mono ?_
    rintro e w' ⟨v,rfl,rfl,hb'⟩
    exact⟨_,rfl,hb',rfl⟩
   rintro tv wf w8 b8 hkf rfl hbf8 hk78 hbs8
   have hb8:=hk78.below hb7 (Nat.le_refl _) hge7
   have hge8:∀b∈b8,w.heap.size<=b:=fun b hb=>(hbs8 b hb).1.elim (hge7 b) (fun h=>Nat.le_trans hb7.size h)
   have Q1:=P1.next hk78 hbs8
   have Q2:=P2.next hk78 hbs8
   have QZ:=PZ.next hk78 hbs8
   refine ae (fun _=>aa Q1.can ?_) (fun h=>absurd h (by simp))
   refine aY (w:=w8) (bs:=b8) (R:=fun(u:UV) wc w'=>Bts w' w'.heap.size u.A u.k (bW code l++l)/\(0<u.k->∀a,u.A=some a->wc.heap.size<=a.block)) ⟨rfl,Keep.refl _ _,fun b hb=>.inl hb⟩ (fun y=>⟨rfl,trivial⟩) (fun β we hst ho hke=>?_) ?_
   ·have hbe:=hke.below hb8 (Nat.le_refl _) hge8
    have hX:=Ci (x:=X) (hst.at_ 4 _ rfl) (hst.lt 4 (by simp[SS.n])) ((hw hbe).mono (hsz hbe)) hln1 hc hA0
    refine(nz ⟨β 4,0,none⟩ 1 1 [X] _ we hX (Nat.le_refl _) (by omega) (by rw[el];exact hbyl)).mono ?_
    rintro e w' ⟨v,rfl,⟨uA,uk,uc,rfl,h1,h2⟩,hb'⟩
    rw[el]at h1
    exact⟨⟨uA,uk,uc⟩,rfl,hb',h1,h2⟩
   rintro⟨uA,uk,uc⟩ we w9 b9 hkg ⟨hu1,hu2⟩ hbg9 hk89 hbs9
   dsimp only at hu1 hu2
   have hb9:=hk89.below hb8 (Nat.le_refl _) hge8
   have hge9:∀b∈b9,w.heap.size<=b:=fun b hb=>(hbs9 b hb).1.elim (hge8 b) (fun h=>Nat.le_trans hb8.size h)
   have R1:=Q1.next hk89 hbs9
   have R2:=Q2.next hk89 hbs9
   have RZ:=QZ.next hk89 hbs9
   have RU:=Loose.fresh hu1 hu2 hbs9
   have RA:Loose w9 b9 A n l:=Loose.old (hw hb9) (hsz hb9) (fun b hb=>Nat.le_trans hB (hge9 b hb))
   refine aa R1.can (aa (by rw[R1.1.bytesAt,Q1.1.bytesAt]) (aa RU.can ?_))
   refine ae (fun _=>aa R2.can (aa RA.can ?_)) (fun h=>absurd h (by rw[Q1.1.bytesAt,RU.1.bytesAt];simp))
   refine ae (fun _=>ae (fun _=>?_) (fun h=>absurd h (by simp))) (fun h=>absurd h (by rw[R2.1.bytesAt,RA.1.bytesAt];simp))
   refine aY (w:=w9) (bs:=b9) (R:=fun(b:Bool) _ _=>b=true) ⟨rfl,Keep.refl _ _,fun b hb=>.inl hb⟩ (fun y=>⟨rfl,trivial⟩) (fun β wd hst ho hkd=>?_) ?_
   ·have hbd:=hkd.below hb9 (Nat.le_refl _) hge9
    refine(ra code A n c zA zk zc l _ wd ((hw hbd).mono (hsz hbd)) (RZ.keep hkd) (Nat.le_refl _)).mono ?_
    rintro e w' ⟨v,rfl,⟨b,rfl,hb⟩,hb'⟩
    exact⟨b,rfl,hb',hb⟩
   rintro sm wh w10 b10 hkh rfl hbh hk910 hbs10
   exact aQ (Fine.mk' (hk910.below hb9 (Nat.le_refl _) hge9) (fun b hb=>(hbs10 b hb).1.elim (hge9 b) (fun h=>Nat.le_trans hb9.size h))) fun β w' _ _=>⟨_,rfl,rfl⟩
  ·refine aY (w:=w4) (bs:=b4) (R:=fun(z:MN) wc w'=>z.cd=code/\z.ok=true/\Bts (Rx.since wc w') w'.heap.size z.A z.k l) ⟨rfl,Keep.refl _ _,fun b hb=>.inl hb⟩ (fun y=>⟨rfl,⟨trivial,trivial,trivial⟩,trivial,trivial⟩) (fun β we hst ho hke=>?_) ?_
   ·have hbe:=hke.below hb4 (Nat.le_refl _) hge4
    refine(ez hs (by omega) we (htw hbe)).mono ?_
    rintro e w' ⟨v,rfl,⟨zA,zk,zc,rfl,h1⟩,hb'⟩
    exact⟨⟨code,zA,zk,zc,true⟩,rfl,hb',rfl,rfl,h1⟩
   rintro⟨zcd,zA,zk,zc,zok⟩ we w5 b5 hke ⟨hzc,hzo,hz⟩ hbe5 hk45 hbs5
   dsimp only at hzc hzo hz
   subst zcd
   subst zok
   have hb5:=hk45.below hb4 (Nat.le_refl _) hge4
   have hge5:∀b∈b5,w.heap.size<=b:=fun b hb=>(hbs5 b hb).1.elim (hge4 b) (fun h=>Nat.le_trans hb4.size h)
   have N1:=M1.next hk45 hbs5
   have N2:=M2.next hk45 hbs5
   have Z:=Loose.since hz hbs5
   refine aY (w:=w5) (bs:=b5) (R:=fun(b:Bool) _ _=>b=true) ⟨rfl,Keep.refl _ _,fun b hb=>.inl hb⟩ (fun y=>⟨rfl,trivial⟩) (fun β wd hst ho hkd=>?_) ?_
   ·refine(haw wd (hkd.below hb5 (Nat.le_refl _) hge5)).mono ?_
    rintro e w' ⟨v,rfl,⟨b,rfl,hb⟩,hb'⟩
    exact⟨b,rfl,hb',hb⟩
   rintro aw wd w6 b6 hkd rfl hbd6 hk56 hbs6
   refine ae (fun _=>?_) (fun h=>absurd h (by simp))
   have hb6:=hk56.below hb5 (Nat.le_refl _) hge5
   have hge6:∀b∈b6,w.heap.size<=b:=fun b hb=>(hbs6 b hb).1.elim (hge5 b) (fun h=>Nat.le_trans hb5.size h)
   have O1:=N1.next hk56 hbs6
   have O2:=N2.next hk56 hbs6
   have OZ:=Z.next hk56 hbs6
   refine aY (w:=w6) (bs:=b6) (R:=fun(t:ByteArray) _ _=>t=⟨(bz code txt).toArray⟩) ⟨rfl,Keep.refl _ _,fun b hb=>.inl hb⟩ (fun y=>⟨rfl,trivial⟩) (fun β we hst ho hke=>?_) ?_
   ·have hbe:=hke.below hb6 (Nat.le_refl _) hge6
    have hX:=Ci (x:=X) (hst.at_ 4 _ rfl) (hst.lt 4 (by simp[SS.n])) ((hw hbe).mono (hsz hbe)) hln1 hc hA0
    refine(rc (some ⟨β 4,0,none⟩) 1 1 [X] _ we hX (Nat.le_refl _) (by omega) (by rw[fO];exact Nat.lt_of_le_of_lt htx (by decide))).mono ?_
    rintro e w' ⟨v,rfl,rfl,hb'⟩
    rw[fO]
    exact⟨_,rfl,hb',rfl⟩
   rintro tx we w7 b7 hke rfl hbe7 hk67 hbs7
   have hb7:=hk67.below hb6 (Nat.le_refl _) hge6
   have hge7:∀b∈b7,w.heap.size<=b:=fun b hb=>(hbs7 b hb).1.elim (hge6 b) (fun h=>Nat.le_trans hb6.size h)
   have P1:=O1.next hk67 hbs7
   have P2:=O2.next hk67 hbs7
   have PZ:=OZ.next hk67 hbs7
   refine ae (fun _=>?_) (fun h=>absurd h (by simp))
   refine aY (w:=w7) (bs:=b7) (R:=fun(t:ByteArray) _ _=>t=⟨txt.toArray⟩) ⟨rfl,Keep.refl _ _,fun b hb=>.inl hb⟩ (fun y=>⟨rfl,trivial⟩) (fun β wd hst ho hkd=>?_) ?_
   ·have hbd:=hkd.below hb7 (Nat.le_refl _) hge7
    refine(fR code A n c l txt B wd hs (hw hbd) hc (hsz hbd)).mono ?_
    rintro e w' ⟨v,rfl,rfl,hb'⟩
    exact⟨_,rfl,hb',rfl⟩
   rintro tv wf w8 b8 hkf rfl hbf8 hk78 hbs8
   have hb8:=hk78.below hb7 (Nat.le_refl _) hge7
   have hge8:∀b∈b8,w.heap.size<=b:=fun b hb=>(hbs8 b hb).1.elim (hge7 b) (fun h=>Nat.le_trans hb7.size h)
   have Q1:=P1.next hk78 hbs8
   have Q2:=P2.next hk78 hbs8
   have QZ:=PZ.next hk78 hbs8
   refine ae (fun _=>aa Q1.can ?_) (fun h=>absurd h (by simp))
   refine aY (w:=w8) (bs:=b8) (R:=fun(u:UV) wc w'=>Bts w' w'.heap.size u.A u.k (bW code l++l)/\(0<u.k->∀a,u.A=some a->wc.heap.size<=a.block)) ⟨rfl,Keep.refl _ _,fun b hb=>.inl hb⟩ (fun y=>⟨rfl,trivial⟩) (fun β we hst ho hke=>?_) ?_
   ·have hbe:=hke.below hb8 (Nat.le_refl _) hge8
    have hX:=Ci (x:=X) (hst.at_ 4 _ rfl) (hst.lt 4 (by simp[SS.n])) ((hw hbe).mono (hsz hbe)) hln1 hc hA0
    refine(nz ⟨β 4,0,none⟩ 1 1 [X] _ we hX (Nat.le_refl _) (by omega) (by rw[el];exact hbyl)).mono ?_
    rintro e w' ⟨v,rfl,⟨uA,uk,uc,rfl,h1,h2⟩,hb'⟩
    rw[el]at h1
    exact⟨⟨uA,uk,uc⟩,rfl,hb',h1,h2⟩
   rintro⟨uA,uk,uc⟩ we w9 b9 hkg ⟨hu1,hu2⟩ hbg9 hk89 hbs9
   dsimp only at hu1 hu2
   have hb9:=hk89.below hb8 (Nat.le_refl _) hge8
   have hge9:∀b∈b9,w.heap.size<=b:=fun b hb=>(hbs9 b hb).1.elim (hge8 b) (fun h=>Nat.le_trans hb8.size h)
   have R1:=Q1.next hk89 hbs9
   have R2:=Q2.next hk89 hbs9
   have RZ:=QZ.next hk89 hbs9
   have RU:=Loose.fresh hu1 hu2 hbs9
   have RA:Loose w9 b9 A n l:=Loose.old (hw hb9) (hsz hb9) (fun b hb=>Nat.le_trans hB (hge9 b hb))
   refine aa R1.can (aa (by rw[R1.1.bytesAt,Q1.1.bytesAt]) (aa RU.can ?_))
   refine ae (fun _=>aa R2.can (aa RA.can ?_)) (fun h=>absurd h (by rw[Q1.1.bytesAt,RU.1.bytesAt];simp))
   refine ae (fun _=>ae (fun _=>?_) (fun h=>absurd h (by simp))) (fun h=>absurd h (by rw[R2.1.bytesAt,RA.1.bytesAt];simp))
   refine aY (w:=w9) (bs:=b9) (R:=fun(b:Bool) _ _=>b=true) ⟨rfl,Keep.refl _ _,fun b hb=>.inl hb⟩ (fun y=>⟨rfl,trivial⟩) (fun β wd hst ho hkd=>?_) ?_
   ·have hbd:=hkd.below hb9 (Nat.le_refl _) hge9
    refine(ra code A n c zA zk zc l _ wd ((hw hbd).mono (hsz hbd)) (RZ.keep hkd) (Nat.le_refl _)).mono ?_
    rintro e w' ⟨v,rfl,⟨b,rfl,hb⟩,hb'⟩
    exact⟨b,rfl,hb',hb⟩
   rintro sm wh w10 b10 hkh rfl hbh hk910 hbs10
   exact aQ (Fine.mk' (hk910.below hb9 (Nat.le_refl _) hge9) (fun b hb=>(hbs10 b hb).1.elim (hge9 b) (fun h=>Nat.le_trans hb9.size h))) fun β w' _ _=>⟨_,rfl,rfl⟩
end
section
open Go Go.Rx Go.RowKit
@[reducible] def Ec:Hook:={ X:=UV,out:=fun _ s x=>(.tup [.xs x.A x.k x.c,.one .nilIface rfl],s.objs) }
@[reducible] def EV:Hook:={ X:=UV,out:=fun _ s x=>(.tup [.xs x.A x.k x.c,.bool true false],s.objs) }
def KP:Hooks:={ calls:=fun f=>if f=29 then some Ec else if f=60 then some bn else none,loops:=fun _ _=>none }
def KH:Hooks:={ eager:=true,calls:=fun f=>if f=28 then some EV else none,loops:=fun _ _=>none }
theorem Rl(s:ByteArray)(w:World):al Tryz.prog KP 1000 28 [.str s false] (SS.mk [] [] true w []) =
 (.hc 29 [(.str s false)] (SS.mk [] [] true w []) (Ec) fun x0 w0 b0=>
 (.hc 60 [(.xs x0.A x0.k x0.c)] (SS.mk [] [] true w0 b0) (bn) fun x1 w1 b1=>
 (.leaf .ret [(.tup [(.xs x1.A x1.k x1.c),(.bool true true)])] (SS.mk [] [] true w1 b1)))):=by kernel_rfl
theorem Re(w:World):al Tryz.prog KH 1000 6 [] (SS.mk [] [] true w []) =
 (.hc 28 [(.str (ByteArray.mk #[47,105,112,52,47,49,46,50,46,51,46,52,47,116,99,112,47,53]) true)] (SS.mk [] [] true w []) (EV) fun x0 w0 b0=>
 (.split true
  (.need (canBytes w0 b0 x0.A x0.k)
  (.leaf .ret [(.bool ((bytesAt w0 x0.A x0.k).toList == (ByteArray.mk #[(4:UInt8),(1:UInt8),(2:UInt8),(3:UInt8),(4:UInt8),(6:UInt8),(0:UInt8),(5:UInt8)]).toList) false)] (SS.mk [] [] true w0 b0)))
  (.leaf .ret [(.bool false true)] (SS.mk [] [] true w0 b0)))):=by kernel_rfl
theorem Em{X:Nat}{w2 w3:World}(h:∀b,X<=b->w3.heap[b]?=w2.heap[b]?)(B:Nat):Sub B (only w2 fun b=>X<=b) (only w3 fun b=>X<=b):=
 ⟨fun a v hb hx=>by
  rw[dJ]at hx ⊢
  exact⟨hx.1,by rw[World.cell?_of_block (w:=w2) (h _ hx.1)];exact hx.2⟩,fun b cs e fz hb hx=>by
  rw[eu]at hx ⊢
  exact⟨hx.1,by rw[h b hx.1];exact hx.2⟩⟩
theorem Bt{X:Nat}{w w':World}(h:∀b,X<=b->w'.heap[b]?=w.heap[b]?)(B:Nat):Sub B (only w fun b=>X<=b) w':=
 ⟨fun a v hb hx=>by
  rw[dJ]at hx
  rw[World.cell?_of_block (w:=w) (h _ hx.1)]
  exact hx.2,fun b cs e fz hb hx=>by
  rw[eu]at hx
  rw[h b hx.1]
  exact hx.2⟩
theorem rx{w0 w:World}{X:Nat}(h:X<=w0.heap.size)(B:Nat):Sub B (Rx.since w0 w) (only w fun b=>X<=b):=
 ⟨fun a v hb hx=>by
  rw[dd]at hx
  rw[dJ]
  exact⟨Nat.le_trans h hx.1,hx.2⟩,fun b cs e fz hb hx=>by
  rw[ew]at hx
  rw[eu]
  exact⟨Nat.le_trans h hx.1,hx.2⟩⟩
def NmQ(l:List CT)(X:Nat)(A:Option Addr)(k c:Nat)(w':World):Prop:=RowAt MaX 3 (only w' fun b=>X<=b) w'.heap.size A k l/\k<=c
theorem NmQ.hR{l:List CT}{X:Nat}{w:World}(hX:w.heap.size<X):∀A' k c' (w2 w3:World),w3.heap.size=w2.heap.size->(∀b,b≠w.heap.size->w3.heap[b]?=w2.heap[b]?)->NmQ l X A' k c' w2->NmQ l X A' k c' w3:=by
 rintro A k c w2 w3 hs hb ⟨h,hk⟩
 exact⟨h.sub MaX.lasts (Em (fun b hb'=>hb b (by omega)) _) (by omega),hk⟩
theorem ul(l:List CT)(hok:OkL l)(h0:l≠[])(A:Option Addr)(n c B:Nat)(w:World)(h:Bts w B A n (am l))(hB:B<=w.heap.size)(hc:n<=c)(hn:(n:Int)<2^46)(hl:∀x∈l,x.c.val.length<=2147483647)(hll:l.length<2^40)(ht:Tens w) :
  Calls Tryz.prog 31 #[.slice A n c] w fun e w'=>∃A' k c',e=.returned (.tuple #[.slice A' k c',.nilIface])/\0<k/\Below w.heap.size w w'/\NmQ l (w.heap.size+1) A' k c' w':=by
 refine uj A n c w (NmQ l (w.heap.size+1)) (NmQ.hR (Nat.lt_succ_self _)) (fun w1 hb1 hs1=>?_)
 refine(EL l hok h0 A n c B w1 (h.below (hb1.mono hB) (Nat.le_refl _)) (Nat.le_trans hB hb1.size) hc hn hl hll (ht.below hb1 ht.lt)).mono ?_
 rintro e w' ⟨v,rfl,⟨A',k,c',rfl,hr,hk⟩,hb'⟩
 refine⟨A',k,c',rfl,?_,hb',hr.sub MaX.lasts (rx (by omega) _) (Nat.le_refl _),hk⟩
 rw[hr.1]
 exact List.length_pos_iff.2 h0
theorem Gh(l:List CT)(hok:OkL l)(h0:l≠[])(hlen:(bN l).length<2^40)(hby:(am l).length<2^40)(hl:∀x∈l,x.c.val.length<=2147483647)(hll:l.length<2^40)(w:World)(ht:Tens w) :
  Calls Tryz.prog 29 #[.string ⟨(bN l).toArray⟩] w fun e w'=>∃A k c,e=.returned (.tuple #[.slice A k c,.nilIface])/\0<k/\Below w.heap.size w w'/\NmQ l (w.heap.size+1) A k c w':=by
 refine Gg _ w (NmQ l (w.heap.size+1)) (fun w1 A n c w2=>n<=c/\Bts (Rx.since w1 w2) w2.heap.size A n (am l)) (NmQ.hR (Nat.lt_succ_self _)) (fun w1 hb1 hs1=>?_) (fun A n c w1 w2 w3 hb1 hs1 hb12 hS hs3 hb3 hblk=>?_)
 ·refine(pu l hok h0 hlen hby hl w1 (ht.below hb1 ht.lt)).mono ?_
  rintro e w' ⟨v,rfl,⟨A,n,c,rfl,hc,hb⟩,hb'⟩
  exact⟨A,n,c,rfl,hb',hc,hb⟩
 ·obtain⟨hc,hb⟩:=hS
  have hn:=hb.1
  have hb3':Bts w3 w3.heap.size A n (am l):=by
   refine hb.sub ((rx (w0:=w1) (X:=w.heap.size+1) (by omega) _).trans (Bt (fun b hb'=>hblk b (by omega)) _)) (by omega)
  refine(ul l hok h0 A n c w3.heap.size w3 hb3' (Nat.le_refl _) hc (by omega) hl hll (ht.below hb3 ht.lt)).mono ?_
  rintro e w' ⟨A',k,c',rfl,hk0,hb',hq,hkc⟩
  refine⟨A',k,c',rfl,hk0,hb',?_,hkc⟩
  have hsz:w.heap.size+1<=w3.heap.size+1:=Nat.succ_le_succ hb3.size
  refine hq.sub MaX.lasts ⟨fun a v hb hx=>?_,fun b cs e fz hb hx=>?_⟩ (Nat.le_refl _)
  ·rw[dJ]at hx ⊢
   exact⟨Nat.le_trans hsz hx.1,hx.2⟩
  ·rw[eu]at hx ⊢
   exact⟨Nat.le_trans hsz hx.1,hx.2⟩
def PA(l:List CT)(w:World)(v:Value)(w':World):Prop:=∃A k c,v=.tuple #[.slice A k c,.bool true]/\Bts w' w'.heap.size A k (am l)/\(0<k->∀a,A=some a->w.heap.size<=a.block)
theorem rb(l:List CT)(hok:OkL l)(h0:l≠[])(hlen:(bN l).length<2^40)(hby:(am l).length<128)(hl:∀x∈l,x.c.val.length<=2147483647)(hll:l.length<2^30)(w:World)(ht:Tens w) :
  Calls Tryz.prog 28 #[.string ⟨(bN l).toArray⟩] w (bB (PA l w) w):=by
 refine aF (hk:=KP) (n:=1000) (args:=[.str ⟨(bN l).toArray⟩ false]) ⟨trivial,trivial⟩ ?_
 refine ah (Rl _ w) ?_
 refine c7 (R:=fun(y:UV) wc w'=>0<y.k/\NmQ l (wc.heap.size+1) y.A y.k y.c w') (Fine.start w _) (fun y=>⟨rfl,trivial,trivial,trivial⟩) (fun β w0 hst ho hb=>?_) ?_
 ·refine(Gh l hok h0 hlen (by omega) hl (by omega) w0 (ht.below hb ht.lt)).mono ?_
  rintro e w' ⟨A,k,c,rfl,hk0,hb',hq⟩
  exact⟨⟨A,k,c⟩,rfl,hb',hk0,hq⟩
 rintro⟨A,k,c⟩ wc w1 b1 hbc ⟨hk0,hq,hkc⟩ hbc1 hb1 hbs1
 dsimp only at hk0 hq hkc ⊢
 have hkl:=hq.1
 obtain⟨ad,rfl,hadlt,_⟩:=hq.2 hk0
 have hq1:RowAt MaX 3 w1 w1.heap.size (some ad) k l:=hq.sub MaX.lasts (Bt (fun _ _=>rfl) _) (Nat.le_refl _)
 refine c7 (w:=w) (R:=fun(y:UV) wd w'=>Bts w' w'.heap.size y.A y.k (am l)/\(0<y.k->∀a,y.A=some a->wd.heap.size<=a.block)) (Fine.mk' hb1 fun i hi=>(hbs1 i hi).1) (fun y=>⟨rfl,trivial⟩) (fun β wd hst ho hb=>?_) ?_
 ·have hqd:RowAt MaX 3 wd w1.heap.size (some ad) k l:=hq.sub MaX.lasts ⟨fun a v hb hx=>?_,fun b cs e fz hb hx=>?_⟩ (Nat.le_refl _)
  ·refine(xV ad k c l w1.heap.size wd hqd ho.sz (by omega) (by omega) hby).mono ?_
   rintro e w' ⟨v,rfl,⟨A',n',c',rfl,h1,h2⟩,hb'⟩
   exact⟨⟨A',n',c'⟩,rfl,hb',h1,h2⟩
  ·rw[dJ]at hx
   rw[ho.cell hb fun hm=>by have:=(hbs1 _ hm).2;have:=hx.1;omega]
   exact hx.2
  ·rw[eu]at hx
   rw[ho.heap hb fun hm=>by have:=(hbs1 _ hm).2;have:=hx.1;omega]
   exact hx.2
 rintro⟨A',k',c'⟩ wd w2 b2 hbd ⟨h1,h2⟩ hbd2 hb2 hbs2
 dsimp only at h1 h2 ⊢
 refine aQ (Fine.mk' hb2 fun i hi=>(hbs2 i hi).1) fun β w3 hst hb3=>⟨A',k',c',rfl,?_,fun h0 a ha=>Nat.le_trans hbd.size (h2 h0 a ha)⟩
 have o:=hst.old rfl
 rcases Nat.eq_zero_or_pos k' with h0 |h0
 ·exact⟨h1.1,fun h=>by omega⟩
 ·exact(o.bts h1 (Nat.le_refl _) fun a ha hm=>by have:=(hbs2 _ hm).2;have:=h2 h0 a ha;omega).mono o.sz
def IY:List CT:=[⟨⟨4,[1,2,3,4]⟩,aE 1 2 3 4,.F (by decide) rfl rfl (fun _=>rfl) 1 2 3 4⟩,⟨⟨6,[0,5]⟩,Lib.decDigits 5,.P (by decide) rfl rfl (fun _=>rfl) 0 5⟩]
theorem Dh:bN IY=[47,105,112,52,47,49,46,50,46,51,46,52,47,116,99,112,47,53]:=by
 have h5:Lib.decDigits 5=[53]:=by rw[Lib.decDigits_one (by omega)];rfl
 show bz 4 (aE 1 2 3 4)++(bz 6 (Lib.decDigits 5)++[])=_
 rw[h5]
 rfl
theorem tM:am IY=[4,1,2,3,4,6,0,5]:=rfl
theorem CE(w:World)(ht:Tens w):Calls Tryz.prog 6 #[] w (bB (gv fun b=>b=true) w):=by
 refine aF (hk:=KH) (n:=1000) (args:=[]) trivial ?_
 refine ah (Re w) ?_
 refine c7 (R:=fun(y:UV) wc w'=>Bts w' w'.heap.size y.A y.k (am IY)/\(0<y.k->∀a,y.A=some a->wc.heap.size<=a.block)) (Fine.start w _) (fun y=>⟨rfl,trivial,trivial,trivial⟩) (fun β w0 hst ho hb=>?_) ?_
 ·have h:=rb IY ⟨fun h=>absurd h (by decide),fun h=>absurd h (by decide),trivial⟩ (by simp[IY]) (by rw[Dh];decide) (by rw[tM];decide) (by intro x hx;simp only[IY,List.mem_cons,List.not_mem_nil,or_false]at hx;rcases hx with rfl |rfl <;> simp) (by simp[IY]) w0 (ht.below hb ht.lt)
  rw[Dh]at h
  refine h.mono ?_
  rintro e w' ⟨v,rfl,⟨A,k,c,rfl,h1,h2⟩,hb'⟩
  exact⟨⟨A,k,c⟩,rfl,hb',h1,h2⟩
 rintro⟨A,k,c⟩ wc w1 b1 hbc ⟨h1,h2⟩ hbc1 hb1 hbs1
 dsimp only at h1 h2 ⊢
 refine ae (fun _=>aa (h1.canBytesN (Nat.le_refl _) fun a ha hm=>?_) ?_) (fun h=>by cases h)
 ·have hk:=h1.1
  rw[tM]at hk
  have:=(hbs1 _ hm).2
  have:=h2 (by rw[hk];decide) a ha
  omega
 ·refine aQ (Fine.mk' hb1 fun i hi=>(hbs1 i hi).1) fun β w3 hst hb3=>⟨_,rfl,?_⟩
  rw[h1.bytesAt,tM]
  exact beq_self_eq_true _
theorem mj(code:Int)(A:Option Addr)(n c:Nat)(l:List UInt8)(B:Nat)(w:World)(h:Bts w B A n l)(hB:B<=w.heap.size)(hc:n<=c)(hA0:A=none->c=0)(ht:Tens w) :
  Calls Tryz.prog 4 #[.agg #[.int .i64 code,.slice A n c]] w (bB (gv fun b=>b=true) w):=
 pn code A n c l B w h hB hc hA0 ht fun w1 hb=>CE w1 (ht.below hb ht.lt)
end
end Go.Proofs.YtnklanajebphpaaGreatDoor
