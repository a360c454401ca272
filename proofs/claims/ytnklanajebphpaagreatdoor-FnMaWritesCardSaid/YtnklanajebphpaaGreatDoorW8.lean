/- Joined texts: M42 K10 K11 K2 K4 K5 S2 K12 K5N K13N K5P K13P K5F K13F K5S K13S S3 K5C K13C K5M K13M K5D K13D K5Z K13Z. -/
import Derived.Test.YtnklanajebphpaaGreatDoorW7
import Derived.Test.YtnklanajebphpaaGreatDoorW6
import Derived.Test.YtnklanajebphpaaGreatDoorW3
import Derived.Test.YtnklanajebphpaaGreatDoorW4
import Derived.Test.YtnklanajebphpaaGreatDoorChecked
import Derived.Test.YtnklanajebphpaaGreatDoorW2
import Derived.WalkKit
set_option maxRecDepth 100000
set_option maxHeartbeats 4000000
set_option linter.unusedVariables false
set_option linter.unusedSimpArgs false
namespace Go.Proofs.YtnklanajebphpaaGreatDoor
open IntKind
section
open Go Go.Rx Go.RowKit
def HS(w:World)(k:Nat)(lb:List UInt8):Prop:=∃q:Nat->Int,(∀j,j<16->q j=((lb.getD j 0).toNat:Int))/\w.heap[k]?=some (.cells (ae id (cq q)).toArray 188 (0,0))
theorem iZ{w w':World}{bs:List Nat}{k:Nat}{lb:List UInt8}(h:HS w k lb)(hk:Keep bs w w')(hlt:k<w.heap.size)(hn:k ∉ bs):HS w' k lb:=by
 obtain⟨q,h1,h2⟩:=h
 exact⟨q,h1,by rw[hk.block k hlt hn];exact h2⟩
theorem oW{w:World}{k B:Nat}{lb:List UInt8}(hlb:lb.length=16)(h:HS w k lb)(hB:k<B):Bts w B (some ⟨k,0,none⟩) 16 lb:=by
 obtain⟨q,hz,h1⟩:=h
 have hL:ae id (cq q)=(lb.map fun x=>(x.toNat:Int)).map (Value.int .u8):=by
  have e:lb.map (fun x=>(x.toNat:Int))=[q 0,q 1,q 2,q 3,q 4,q 5,q 6,q 7,q 8,q 9,q 10,q 11,q 12,q 13,q 14,q 15]:=by
   apply List.ext_getElem
   ·simp[hlb]
   ·intro i h1 h2
    have hi:i<16:=by simpa [hlb] using h1
    have e1:(lb.map fun x=>(x.toNat:Int))[i]=q i:=by
     rw[hz i hi]
     simp[List.getD,hlb,hi]
    rw[e1]
    clear e1 h1
    match i,hi,h2 with
    |0,_,_ |1,_,_ |2,_,_ |3,_,_ |4,_,_ |5,_,_ |6,_,_ |7,_,_ |8,_,_ |9,_,_ |10,_,_ |11,_,_ |12,_,_ |13,_,_ |14,_,_ |15,_,_=>rfl
    |n+16,h,_=>exact absurd h (by omega)
  rw[e]
  rfl
 rw[hL]at h1
 have hb16:=cp (k:=16) h1 (by
  intro v hv
  obtain⟨x,_,rfl⟩:=List.mem_map.1 hv
  have:=x.toNat_lt
  omega) (by simp[hlb]) hB
 have e2:(((lb.map fun x=>(x.toNat:Int)).take 16).map fun v=>UInt8.ofNat v.toNat)=lb:=by
  rw[List.take_of_length_le (by simp[hlb]),List.map_map]
  refine(List.map_congr_left (g:=id) fun x _=>?_).trans (List.map_id lb)
  simp
 rw[e2]at hb16
 exact hb16
theorem sj(T lb:List UInt8)(m:Nat)(hA:pA T m (fun z=>∀j,j<16->z.q j=((lb.getD j 0).toNat:Int)))(w:World) :
  Calls Tryz.prog 205 #[.string ⟨T.toArray⟩] w (bF (fun v w'=>∃k,v=.slice (some ⟨k,0,none⟩) 16 16/\HS w' k lb/\w.heap.size<=k/\k<w'.heap.size) w):=by
 refine aH (hk:=F9) (n:=500) (args:=[.str ⟨T.toArray⟩ false]) ⟨trivial,trivial⟩ ?_
 refine ah (NH ⟨T.toArray⟩ w) ?_
 refine eK (R:=fun(z:QV) _ _=>∀j,j<16->z.q j=((lb.getD j 0).toNat:Int)) (Fine.start w _) (fun z=>⟨rfl,⟨ip _ _,trivial,trivial,trivial⟩⟩) (fun β wc hst o hb=>?_) ?_
 ·refine(xw T m _ hA wc).mono ?_
  rintro e w' ⟨v,rfl,⟨z,hz,rfl⟩,hb'⟩
  exact⟨z,rfl,hb',hz⟩
 ·rintro z wc w1 b1 hwc hz hb1 hw1 hbs1
  refine aN (Fine.mk' hw1 hbs1) fun β w' hst hb=>?_
  obtain⟨rest,h1,h2⟩:=hst.at_ 0 _ rfl
  have hr:rest=[]:=List.eq_nil_of_length_eq_zero (by have h2':16+rest.length=16:=h2;omega)
  subst hr
  have hlt:=hst.lt 0 (by simp[SS.n])
  have hfr:=(Fine.mk' hw1 hbs1).new (hst.old rfl) 0 (by simp[SS.n])
  rw[List.append_nil]at h1
  exact⟨β 0,rfl,⟨z.q,hz,h1⟩,hfr,hlt⟩
def Mh(w:World)(off n:Nat)(lb:List UInt8)(v:Value)(w':World):Prop:=∃k,v=.tuple #[.slice (some ⟨k,off,none⟩) n n,.nilIface]/\HS w' k lb/\w.heap.size<=k/\k<w'.heap.size
theorem CK(a b c d:UInt8)(w:World):Calls Tryz.prog 163 #[.string ⟨(aF a b c d).toArray⟩] w (bF (Mh w 12 4 [0,0,0,0,0,0,0,0,0,0,255,255,a,b,c,d]) w):=by
 refine aH (hk:=Ae) (n:=500) (args:=[.str ⟨(aF a b c d).toArray⟩ false]) ⟨trivial,trivial⟩ ?_
 refine ah (ND ⟨(aF a b c d).toArray⟩ w) ?_
 obtain⟨m,hA⟩:=H5 a b c d
 refine dJ (R:=fun(p:Addr) wc w'=>∃k,p=⟨k,0,none⟩/\HS w' k [0,0,0,0,0,0,0,0,0,0,255,255,a,b,c,d]/\wc.heap.size<=k/\k<w'.heap.size) (Fine.start w _) (fun x=>⟨rfl,trivial⟩) (fun β wc hst o hb=>?_) ?_
 ·refine(sj _ _ m hA wc).mono ?_
  rintro e w' ⟨v,rfl,⟨k,rfl,h1,h2,h3⟩,hb'⟩
  exact⟨⟨k,0,none⟩,rfl,hb',k,rfl,h1,h2,h3⟩
 rintro p wc w1 bs hb0 ⟨k,rfl,hblk,hfr,hlt⟩ hb1 hw1 hbs
 have hn:k ∉ bs:=fun hm=>by have:=(hbs _ hm).2;omega
 refine bZ (w:=w1) (bs:=bs) (R:=fun(x:UV) _ _=>x=⟨some (Addr.add ⟨k,0,none⟩ 12),4,4⟩) ⟨rfl,Keep.refl _ _,fun b hb=>.inl hb⟩ (fun x=>⟨rfl,trivial⟩) (fun β w2 hst o hk=>?_) ?_
 ·have hbt:=oW rfl (iZ hblk hk hlt hn) (Nat.lt_of_lt_of_le hlt hk.size)
  refine(tR (some ⟨k,0,none⟩) 16 16 _ w2.heap.size w2 hbt (Nat.le_refl _) (Nat.le_refl _)).mono ?_
  rintro e w' ⟨v,rfl,hv,hb'⟩
  rcases hv with⟨h,_⟩ |⟨_,_,q,hq,rfl⟩ |⟨_,h,_⟩
  ·omega
  ·cases hq
   exact⟨⟨some (Addr.add ⟨k,0,none⟩ 12),4,4⟩,rfl,hb',rfl⟩
  ·exact absurd (show ct [0,0,0,0,0,0,0,0,0,0,255,255,a,b,c,d] from rfl) (h rfl)
 rintro x w2 w3 bs3 dW rfl hb23 hk13 hbs3
 refine af (fun h=>by simp at h) (fun _=>?_)
 have hge:∀b∈bs3,w.heap.size<=b:=fun b hb=>by
  have:=hw1.size
  rcases hbs3 b hb with h |h
  ·exact(hbs b h).1
  ·omega
 have hn3:k ∉ bs3:=fun hm=>by
  rcases hbs3 _ hm with h |h
  ·exact hn h
  ·omega
 have hw3:Below w.heap.size w w3:=hk13.below hw1 (Nat.le_refl _) fun b hb=>(hbs b hb).1
 refine aM (w:=w3) (bs:=bs3) ⟨rfl,Keep.refl _ _,fun b hb=>.inl hb⟩ fun β' w4 hst hk34=>⟨_,rfl,⟨k,rfl,?_,?_,?_⟩,hk34.below hw3 (Nat.le_refl _) hge⟩
 ·exact iZ (iZ hblk hk13 hlt hn) hk34 (Nat.lt_of_lt_of_le hlt hk13.size) hn3
 ·have:=hb0.size
  omega
 ·exact Nat.lt_of_lt_of_le hlt (Nat.le_trans hk13.size hk34.size)
theorem wX{l:List UInt8}(hl:l.length=16){T:List UInt8}{m:Nat}(hA:pA T m (fun z=>∀j,j<16->z.q j=((l.getD j 0).toNat:Int)))(w:World):Calls Tryz.prog 170 #[.string ⟨T.toArray⟩] w (bF (Mh w 0 16 l) w):=by
 refine aH (hk:=Ae) (n:=500) (args:=[.str ⟨T.toArray⟩ false]) ⟨trivial,trivial⟩ ?_
 refine ah (NF ⟨T.toArray⟩ w) ?_
 refine dJ (R:=fun(p:Addr) wc w'=>∃k,p=⟨k,0,none⟩/\HS w' k l/\wc.heap.size<=k/\k<w'.heap.size) (Fine.start w _) (fun x=>⟨rfl,trivial⟩) (fun β wc hst o hb=>?_) ?_
 ·refine(sj _ _ m hA wc).mono ?_
  rintro e w' ⟨v,rfl,⟨k,rfl,h1,h2,h3⟩,hb'⟩
  exact⟨⟨k,0,none⟩,rfl,hb',k,rfl,h1,h2,h3⟩
 rintro p wc w1 bs hb0 ⟨k,rfl,hblk,hfr,hlt⟩ hb1 hw1 hbs
 have hn:k ∉ bs:=fun hm=>by have:=(hbs _ hm).2;omega
 refine bZ (w:=w1) (bs:=bs) (R:=fun(x:UV) _ _=>x=⟨some ⟨k,0,none⟩,16,16⟩) ⟨rfl,Keep.refl _ _,fun b hb=>.inl hb⟩ (fun x=>⟨rfl,trivial⟩) (fun β w2 hst o hk=>?_) ?_
 ·refine(Jb (some ⟨k,0,none⟩) 16 16 w2 (by omega)).mono ?_
  rintro e w' ⟨v,rfl,hv,hb'⟩
  rcases hv with⟨_,rfl⟩ |⟨h,_⟩
  ·exact⟨⟨some ⟨k,0,none⟩,16,16⟩,rfl,hb',rfl⟩
  ·exact absurd rfl h
 rintro x w2 w3 bs3 dW rfl hb23 hk13 hbs3
 refine af (fun h=>by simp at h) (fun _=>?_)
 have hge:∀b∈bs3,w.heap.size<=b:=fun b hb=>by
  have:=hw1.size
  rcases hbs3 b hb with h |h
  ·exact(hbs b h).1
  ·omega
 have hn3:k ∉ bs3:=fun hm=>by
  rcases hbs3 _ hm with h |h
  ·exact hn h
  ·omega
 have hw3:Below w.heap.size w w3:=hk13.below hw1 (Nat.le_refl _) fun b hb=>(hbs b hb).1
 refine aM (w:=w3) (bs:=bs3) ⟨rfl,Keep.refl _ _,fun b hb=>.inl hb⟩ fun β' w4 hst hk34=>⟨_,rfl,⟨k,rfl,?_,?_,?_⟩,hk34.below hw3 (Nat.le_refl _) hge⟩
 ·exact iZ (iZ hblk hk13 hlt hn) hk34 (Nat.lt_of_lt_of_le hlt hk13.size) hn3
 ·have:=hb0.size
  omega
 ·exact Nat.lt_of_lt_of_le hlt (Nat.le_trans hk13.size hk34.size)
theorem CO{l:List UInt8}(hl:l.length=16){f t:Nat}(hg:Good l f t)(w:World):Calls Tryz.prog 170 #[.string ⟨(gB l f t).toArray⟩] w (bF (Mh w 0 16 l) w):=by
 obtain⟨m,hA⟩:=H6 hg
 exact wX hl hA w
end
section
open Go Go.Rx Go.RowKit
theorem CJ(A:Option Addr)(n c:Nat)(p0 p1 p2 p3:UInt8)(B:Nat)(w:World)(h:Bts w B A n [p0,p1,p2,p3])(hc:n<=c)(hB:B<=w.heap.size)(ht:Tens w):Calls Tryz.prog 164 #[.slice A n c] w (bF (BQ (aF p0 p1 p2 p3)) w):=by
 have hn:n=4:=h.1
 refine aH (hk:=Af) (n:=500) (args:=[.xs A n c]) ⟨trivial,trivial⟩ ?_
 refine ah (t164 A n c w) ?_
 refine gL (R:=fun(s:ByteArray) _ _=>s=⟨(aF p0 p1 p2 p3).toArray⟩) (fun x=>⟨rfl,trivial⟩) (fun β wc hb=>?_) ?_
 ·refine(rY A n c _ p0 p1 p2 p3 B wc (h.below (hb.mono hB) (Nat.le_refl _)) hc (Nat.le_trans hB hb.size) (ht.below hb ht.lt) (.inl ⟨hn,rfl⟩)).mono ?_
  rintro e w' ⟨v,rfl,rfl,hb'⟩
  exact⟨_,rfl,hb',rfl⟩
 ·rintro s wc w1 hwc rfl hb
  exact aN (Fine.mk' (hwc.trans (hb.mono hwc.size)) (by simp)) fun β w' _ _=>rfl
def ph(l:List UInt8):List UInt8:=if ct l then[58,58,102,102,102,102,58]++aF (l.getD 12 0) (l.getD 13 0) (l.getD 14 0) (l.getD 15 0) else iY l
theorem ke(a b c d:UInt8):(aF a b c d).length<=15:=by
 have h1:=bj a.toNat
 have h2:=bj b.toNat
 have h3:=bj c.toNat
 have h4:=bj d.toNat
 simp only[aF,List.length_append,List.length_cons,List.length_nil]
 omega
theorem C2{l:List UInt8}(hl:l.length=16):l.drop 12=[l.getD 12 0,l.getD 13 0,l.getD 14 0,l.getD 15 0]:=by
 match l,hl with
 |[a0,a1,a2,a3,a4,a5,a6,a7,a8,a9,a10,a11,a12,a13,a14,a15],_=>rfl
theorem CL(A:Option Addr)(n c:Nat)(l:List UInt8)(B:Nat)(w:World)(h:Bts w B A n l)(hl:l.length=16)(hc:n<=c)(hB:B<=w.heap.size)(ht:Tens w):Calls Tryz.prog 171 #[.slice A n c] w (bF (BQ (ph l)) w):=by
 have hn:n=16:=by have:=h.1;omega
 subst hn
 refine aH (hk:=Af) (n:=500) (args:=[.xs A 16 c]) ⟨trivial,trivial⟩ ?_
 refine ah (NG A 16 c w) ?_
 refine gL (R:=fun(x:UV) _ _=>(ct l/\∃a,A=some a/\x=⟨some (a.add 12),4,c-12⟩)∨(¬ct l/\x.A.isNone=true)) (fun x=>⟨rfl,trivial⟩) (fun β wc hb=>?_) ?_
 ·refine(tR A 16 c l B wc (h.below (hb.mono hB) (Nat.le_refl _)) hc (Nat.le_trans hB hb.size)).mono ?_
  rintro e w' ⟨v,rfl,hv,hb'⟩
  rcases hv with⟨h1,_⟩ |⟨_,h2,a,ha,rfl⟩ |⟨_,h2,rfl⟩
  ·omega
  ·exact⟨⟨some (a.add 12),4,c-12⟩,rfl,hb',.inl ⟨h2,a,ha,rfl⟩⟩
  ·exact⟨⟨none,0,0⟩,rfl,hb',.inr ⟨h2 rfl,rfl⟩⟩
 rintro x wc w0 hwc hx hb0
 have hw0:Below w.heap.size w w0:=hwc.trans (hb0.mono hwc.size)
 rcases hx with⟨hm,a,rfl,rfl⟩ |⟨hm,hx⟩
 ·refine af (fun _=>?_) (fun hs=>by cases hs)
  refine gL (R:=fun(s:ByteArray) _ _=>s=⟨(aF (l.getD 12 0) (l.getD 13 0) (l.getD 14 0) (l.getD 15 0)).toArray⟩) (fun x=>⟨rfl,trivial⟩) (fun β wc hb=>?_) ?_
  ·have hw:=hw0.trans (hb.mono hw0.size)
   have hd:=lK (h.below (hw.mono hB) (Nat.le_refl _)) (show 12<=16 by omega)
   rw[C2 hl]at hd
   refine(rY (some (a.add 12)) 4 (c-12) _ _ _ _ _ B wc hd (by omega) (Nat.le_trans hB hw.size) (ht.below hw ht.lt) (.inl ⟨rfl,rfl⟩)).mono ?_
   rintro e w' ⟨v,rfl,rfl,hb'⟩
   exact⟨_,rfl,hb',rfl⟩
  ·rintro s wc1 w1 hwc1 rfl hb
   have hw1:=hw0.trans ((hwc1.trans (hb.mono hwc1.size)).mono hw0.size)
   refine aa ?_ (aN (Fine.mk' hw1 (by simp)) fun β w' _ _=>?_)
   ·rw[aB,be]
    have:=ke (l.getD 12 0) (l.getD 13 0) (l.getD 14 0) (l.getD 15 0)
    omega
   ·unfold BQ ph
    rw[if_pos hm]
    show Value.tuple #[.string ((⟨[58,58,102,102,102,102,58].toArray⟩:ByteArray)++⟨(aF (l.getD 12 0) (l.getD 13 0) (l.getD 14 0) (l.getD 15 0)).toArray⟩),.nilIface]=_
    rw[dg]
 ·refine af (fun hs=>by rw[hx]at hs;cases hs) (fun _=>?_)
  refine gL (R:=fun(s:ByteArray) _ _=>s=⟨(iY l).toArray⟩) (fun x=>⟨rfl,trivial⟩) (fun β wc hb=>?_) ?_
  ·have hw:=hw0.trans (hb.mono hw0.size)
   refine(Bt A c l B wc (h.below (hw.mono hB) (Nat.le_refl _)) hc (Nat.le_trans hB hw.size) hm).mono ?_
   rintro e w' ⟨v,rfl,rfl,hb'⟩
   exact⟨_,rfl,hb',rfl⟩
  ·rintro s wc1 w1 hwc1 rfl hb
   refine aN (Fine.mk' (hw0.trans ((hwc1.trans (hb.mono hwc1.size)).mono hw0.size)) (by simp)) fun β w' _ _=>?_
   unfold BQ ph
   rw[if_neg hm]
   rfl
theorem IC(a b c d:UInt8)(w:World):Calls Tryz.prog 163 #[.string ⟨(aF a b c d).toArray⟩] w (bF (SQ [a,b,c,d] w) w):=by
 refine(CK a b c d w).mono ?_
 rintro e w' ⟨v,rfl,⟨k,rfl,h1,h2,h3⟩,hb⟩
 have:=lK (oW rfl h1 h3) (show 12<=16 by omega)
 rw[Rx.add_plain]at this
 exact⟨_,rfl,⟨k,12,4,rfl,Nat.le_refl _,this,h2⟩,hb⟩
theorem pI(l:List UInt8):Good l (bE l 8).1 (bE l 8).2:=eJ l 8 (Nat.le_refl _)
theorem IE{l:List UInt8}(hl:l.length=16)(hm:¬ct l)(w:World):Calls Tryz.prog 170 #[.string ⟨(ph l).toArray⟩] w (bF (SQ l w) w):=by
 unfold ph
 rw[if_neg hm]
 refine(CO hl (pI l) w).mono ?_
 rintro e w' ⟨v,rfl,⟨k,rfl,h1,h2,h3⟩,hb⟩
 have:=oW hl h1 h3
 rw[<- hl]at this
 exact⟨_,rfl,⟨k,0,16,by rw[hl],by omega,this,h2⟩,hb⟩
theorem xq{l:List UInt8}(hl:l.length=16)(hm:ct l):l=I1 [l.getD 12 0,l.getD 13 0,l.getD 14 0,l.getD 15 0]:=by
 have h:=List.take_append_drop 12 l
 rw[C2 hl,show l.take 12=AD from hm]at h
 exact h.symm
theorem CM{l:List UInt8}(hl:l.length=16)(w:World):Calls Tryz.prog 170 #[.string ⟨(ph l).toArray⟩] w (bF (SQ l w) w):=by
 by_cases hm:ct l
 ·obtain⟨m,hA⟩:=E2 (l.getD 12 0) (l.getD 13 0) (l.getD 14 0) (l.getD 15 0)
  rw[<- xq hl hm]at hA
  unfold ph
  rw[if_pos hm]
  refine(wX hl hA w).mono ?_
  rintro e w' ⟨v,rfl,⟨k,rfl,h1,h2,h3⟩,hb⟩
  have:=oW hl h1 h3
  rw[<- hl]at this
  exact⟨_,rfl,⟨k,0,16,by rw[hl],by omega,this,h2⟩,hb⟩
 ·exact IE hl hm w
end
section
open Go Go.Rx Go.RowKit
structure VN where
 x:Nat
 n:Nat
@[reducible] def Ei:Hook:={ X:=VN,out:=fun _ s z=>(.tup [.int .u64 z.x false,.int .i64 z.n false,.one .nilIface rfl],s.objs) }
def Ke:Hooks:={ calls:=fun f=>if f=142 then some Ei else none,loops:=fun _ _=>none }
noncomputable abbrev ud(w:World)(A:Option Addr):Int:=(u64.wrap (↑(BitVec.ofInt 64 (0:Int) |||BitVec.ofInt 64 (u64.wrap (u64.wrap (u8.wrap (↑(BitVec.ofInt 8 (ai w (((A.getD default).add 0).add 0)) &&& BitVec.ofInt 8 (127:Int)).toNat:Int))*(2:Int)^0))).toNat:Int))
noncomputable abbrev tZ(w:World)(A:Option Addr):Int:=(u64.wrap (↑(BitVec.ofInt 64 (ud w A) |||BitVec.ofInt 64 (u64.wrap (u64.wrap (u8.wrap (↑(BitVec.ofInt 8 (ai w (((A.getD default).add 1).add 0)) &&& BitVec.ofInt 8 (127:Int)).toNat:Int))*(2:Int)^7))).toNat:Int))
noncomputable abbrev t8(w:World)(A:Option Addr):Int:=(u64.wrap (↑(BitVec.ofInt 64 (tZ w A) |||BitVec.ofInt 64 (u64.wrap (u64.wrap (u8.wrap (↑(BitVec.ofInt 8 (ai w (((A.getD default).add 2).add 0)) &&& BitVec.ofInt 8 (127:Int)).toNat:Int))*(2:Int)^14))).toNat:Int))
noncomputable abbrev yY(w:World)(A:Option Addr):Int:=(u64.wrap (↑(BitVec.ofInt 64 (t8 w A) |||BitVec.ofInt 64 (u64.wrap (u64.wrap (u8.wrap (↑(BitVec.ofInt 8 (ai w (((A.getD default).add 3).add 0)) &&& BitVec.ofInt 8 (127:Int)).toNat:Int))*(2:Int)^21))).toNat:Int))
noncomputable abbrev fM(w:World):T:=(.need (canRead w [] (Addr.mk 4 0 none) [SV.one (dX w ((Addr.mk 4 0 none).add 0)).val (dX w ((Addr.mk 4 0 none).add 0)).property]) (.leaf .ret [(.tup [(.int .u64 0 true),(.int .i64 0 true),(.one (dX w ((Addr.mk 4 0 none).add 0)).1 (dX w ((Addr.mk 4 0 none).add 0)).2)])] (SS.mk [] [] true w [])))
noncomputable abbrev iv(w:World):T:=(.need (canRead w [] (Addr.mk 3 0 none) [SV.one (dX w ((Addr.mk 3 0 none).add 0)).val (dX w ((Addr.mk 3 0 none).add 0)).property]) (.leaf .ret [(.tup [(.int .u64 0 true),(.int .i64 0 true),(.one (dX w ((Addr.mk 3 0 none).add 0)).1 (dX w ((Addr.mk 3 0 none).add 0)).2)])] (SS.mk [] [] true w [])))
noncomputable abbrev mw:Int:=(i64.wrap ((0:Int)+(1:Int))+(1:Int))
noncomputable abbrev gk:Int:=(i64.wrap mw+(1:Int))
noncomputable abbrev jF:Int:=(i64.wrap (i64.wrap gk+(1:Int))+(1:Int))
noncomputable abbrev Eu(w:World)(A:Option Addr):Int:=(u8.wrap (↑(BitVec.ofInt 8 (ai w (((A.getD default).add 4).add 0)) &&& BitVec.ofInt 8 (127:Int)).toNat:Int))
noncomputable abbrev Ev(w:World)(A:Option Addr):Int:=(u64.wrap (u64.wrap (u8.wrap (↑(BitVec.ofInt 8 (ai w (((A.getD default).add 5).add 0)) &&& BitVec.ofInt 8 (127:Int)).toNat:Int))*(2:Int)^35))
noncomputable abbrev yZ(w:World):T:=(.need (canRead w [] (Addr.mk 2 0 none) [SV.one (dX w ((Addr.mk 2 0 none).add 0)).val (dX w ((Addr.mk 2 0 none).add 0)).property]) (.leaf .ret [(.tup [(.int .u64 0 true),(.int .i64 0 true),(.one (dX w ((Addr.mk 2 0 none).add 0)).1 (dX w ((Addr.mk 2 0 none).add 0)).2)])] (SS.mk [] [] true w [])))
noncomputable abbrev y4(w:World)(A:Option Addr):T:=(.leaf .ret [(.tup [(.int .u64 (u64.wrap (↑(BitVec.ofInt 64 (0:Int) |||BitVec.ofInt 64 (u64.wrap (u64.wrap (ai w (((A.getD default).add 0).add 0))*(2:Int)^0))).toNat:Int)) false),(.int .i64 1 true),(.one .nilIface rfl)])] (SS.mk [] [] true w []))
noncomputable abbrev y5(w:World)(A:Option Addr):Int:=(u64.wrap (u64.wrap (u8.wrap (↑(BitVec.ofInt 8 (ai w (((A.getD default).add 6).add 0)) &&& BitVec.ofInt 8 (127:Int)).toNat:Int))*(2:Int)^42))
noncomputable abbrev gj:Int:=(i64.wrap (i64.wrap jF+(1:Int))+(1:Int))
noncomputable abbrev ue(w:World)(A:Option Addr):Int:=(u64.wrap (↑(BitVec.ofInt 64 (yY w A) |||BitVec.ofInt 64 (u64.wrap (u64.wrap (Eu w A)*(2:Int)^28))).toNat:Int))
noncomputable abbrev pk(w:World)(A:Option Addr):Int:=(u64.wrap (↑(BitVec.ofInt 64 (ue w A) |||BitVec.ofInt 64 (Ev w A)).toNat:Int))
noncomputable abbrev pl:Int:=(i64.wrap (i64.wrap gj+(1:Int))+(1:Int))
theorem Kt(A:Option Addr)(n c:Nat)(w:World):am Tryz.prog au 6000 142 [.xs A n c] (SS.mk [] [] true w []) =
(.split (decide ((0:Int)<(↑n:Int))) (.need ((0:Int)<=(0:Int)/\(0:Int)<(↑n:Int)) (.need (A.isSome=true) (.need (canRead w [] ((A.getD default).add 0) [SV.int u8 (ai w (((A.getD default).add 0).add 0)) false]) (.split (decide (ai w (((A.getD default).add 0).add 0)<(128:Int))) (.split (ai w (((A.getD default).add 0).add 0) == (0:Int)) (y4 w A) (y4 w A)) (.split (decide (i64.wrap ((0:Int)+(1:Int))<(↑n:Int))) (.need ((0:Int)<=i64.wrap ((0:Int)+(1:Int))/\i64.wrap ((0:Int)+(1:Int))<(↑n:Int)) (.need (A.isSome=true) (.need (canRead w [] ((A.getD default).add 1) [SV.int u8 (ai w (((A.getD default).add 1).add 0)) false]) (.split (decide (ai w (((A.getD default).add 1).add 0)<(128:Int))) (.split (ai w (((A.getD default).add 1).add 0) == (0:Int)) (iv w) (.leaf .ret [(.tup [(.int .u64 (u64.wrap (↑(BitVec.ofInt 64 (ud w A) |||BitVec.ofInt 64 (u64.wrap (u64.wrap (ai w (((A.getD default).add 1).add 0))*(2:Int)^7))).toNat:Int)) false),(.int .i64 2 true),(.one .nilIface rfl)])] (SS.mk [] [] true w []))) (.split (decide (i64.wrap mw<(↑n:Int))) (.need ((0:Int)<=i64.wrap mw/\i64.wrap mw<(↑n:Int)) (.need (A.isSome=true) (.need (canRead w [] ((A.getD default).add 2) [SV.int u8 (ai w (((A.getD default).add 2).add 0)) false]) (.split (decide (ai w (((A.getD default).add 2).add 0)<(128:Int))) (.split (ai w (((A.getD default).add 2).add 0) == (0:Int)) (iv w) (.leaf .ret [(.tup [(.int .u64 (u64.wrap (↑(BitVec.ofInt 64 (tZ w A) |||BitVec.ofInt 64 (u64.wrap (u64.wrap (ai w (((A.getD default).add 2).add 0))*(2:Int)^14))).toNat:Int)) false),(.int .i64 3 true),(.one .nilIface rfl)])] (SS.mk [] [] true w []))) (.split (decide (i64.wrap gk<(↑n:Int))) (.need ((0:Int)<=i64.wrap gk/\i64.wrap gk<(↑n:Int)) (.need (A.isSome=true) (.need (canRead w [] ((A.getD default).add 3) [SV.int u8 (ai w (((A.getD default).add 3).add 0)) false]) (.split (decide (ai w (((A.getD default).add 3).add 0)<(128:Int))) (.split (ai w (((A.getD default).add 3).add 0) == (0:Int)) (iv w) (.leaf .ret [(.tup [(.int .u64 (u64.wrap (↑(BitVec.ofInt 64 (t8 w A) |||BitVec.ofInt 64 (u64.wrap (u64.wrap (ai w (((A.getD default).add 3).add 0))*(2:Int)^21))).toNat:Int)) false),(.int .i64 4 true),(.one .nilIface rfl)])] (SS.mk [] [] true w []))) (.split (decide (i64.wrap (i64.wrap gk+(1:Int))<(↑n:Int))) (.need ((0:Int)<=i64.wrap (i64.wrap gk+(1:Int))/\i64.wrap (i64.wrap gk+(1:Int))<(↑n:Int)) (.need (A.isSome=true) (.need (canRead w [] ((A.getD default).add 4) [SV.int u8 (ai w (((A.getD default).add 4).add 0)) false]) (.split (decide (ai w (((A.getD default).add 4).add 0)<(128:Int))) (.split (ai w (((A.getD default).add 4).add 0) == (0:Int)) (iv w) (.leaf .ret [(.tup [(.int .u64 (u64.wrap (↑(BitVec.ofInt 64 (yY w A) |||BitVec.ofInt 64 (u64.wrap (u64.wrap (ai w (((A.getD default).add 4).add 0))*(2:Int)^28))).toNat:Int)) false),(.int .i64 5 true),(.one .nilIface rfl)])] (SS.mk [] [] true w []))) (.split (decide (i64.wrap jF<(↑n:Int))) (.need ((0:Int)<=i64.wrap jF/\i64.wrap jF<(↑n:Int)) (.need (A.isSome=true) (.need (canRead w [] ((A.getD default).add 5) [SV.int u8 (ai w (((A.getD default).add 5).add 0)) false]) (.split (decide (ai w (((A.getD default).add 5).add 0)<(128:Int))) (.split (ai w (((A.getD default).add 5).add 0) == (0:Int)) (iv w) (.leaf .ret [(.tup [(.int .u64 (u64.wrap (↑(BitVec.ofInt 64 (ue w A) |||BitVec.ofInt 64 (u64.wrap (u64.wrap (ai w (((A.getD default).add 5).add 0))*(2:Int)^35))).toNat:Int)) false),(.int .i64 6 true),(.one .nilIface rfl)])] (SS.mk [] [] true w []))) (.split (decide (i64.wrap (i64.wrap jF+(1:Int))<(↑n:Int))) (.need ((0:Int)<=i64.wrap (i64.wrap jF+(1:Int))/\i64.wrap (i64.wrap jF+(1:Int))<(↑n:Int)) (.need (A.isSome=true) (.need (canRead w [] ((A.getD default).add 6) [SV.int u8 (ai w (((A.getD default).add 6).add 0)) false]) (.split (decide (ai w (((A.getD default).add 6).add 0)<(128:Int))) (.split (ai w (((A.getD default).add 6).add 0) == (0:Int)) (iv w) (.leaf .ret [(.tup [(.int .u64 (u64.wrap (↑(BitVec.ofInt 64 (pk w A) |||BitVec.ofInt 64 (u64.wrap (u64.wrap (ai w (((A.getD default).add 6).add 0))*(2:Int)^42))).toNat:Int)) false),(.int .i64 7 true),(.one .nilIface rfl)])] (SS.mk [] [] true w []))) (.split (decide (i64.wrap gj<(↑n:Int))) (.need ((0:Int)<=i64.wrap gj/\i64.wrap gj<(↑n:Int)) (.need (A.isSome=true) (.need (canRead w [] ((A.getD default).add 7) [SV.int u8 (ai w (((A.getD default).add 7).add 0)) false]) (.split (decide (ai w (((A.getD default).add 7).add 0)<(128:Int))) (.split (ai w (((A.getD default).add 7).add 0) == (0:Int)) (iv w) (.leaf .ret [(.tup [(.int .u64 (u64.wrap (↑(BitVec.ofInt 64 (u64.wrap (↑(BitVec.ofInt 64 (pk w A) |||BitVec.ofInt 64 (y5 w A)).toNat:Int)) |||BitVec.ofInt 64 (u64.wrap (u64.wrap (ai w (((A.getD default).add 7).add 0))*(2:Int)^49))).toNat:Int)) false),(.int .i64 8 true),(.one .nilIface rfl)])] (SS.mk [] [] true w []))) (.split (decide (i64.wrap (i64.wrap gj+(1:Int))<(↑n:Int))) (.need ((0:Int)<=i64.wrap (i64.wrap gj+(1:Int))/\i64.wrap (i64.wrap gj+(1:Int))<(↑n:Int)) (.need (A.isSome=true) (.need (canRead w [] ((A.getD default).add 8) [SV.int u8 (ai w (((A.getD default).add 8).add 0)) false]) (.split (decide (ai w (((A.getD default).add 8).add 0) ≥ (128:Int))) (yZ w) (.split (decide (ai w (((A.getD default).add 8).add 0)<(128:Int))) (.split (ai w (((A.getD default).add 8).add 0) == (0:Int)) (iv w) (.leaf .ret [(.tup [(.int .u64 (u64.wrap (↑(BitVec.ofInt 64 (u64.wrap (↑(BitVec.ofInt 64 (u64.wrap (↑(BitVec.ofInt 64 (pk w A) |||BitVec.ofInt 64 (y5 w A)).toNat:Int)) |||BitVec.ofInt 64 (u64.wrap (u64.wrap (u8.wrap (↑(BitVec.ofInt 8 (ai w (((A.getD default).add 7).add 0)) &&& BitVec.ofInt 8 (127:Int)).toNat:Int))*(2:Int)^49))).toNat:Int)) |||BitVec.ofInt 64 (u64.wrap (u64.wrap (ai w (((A.getD default).add 8).add 0))*(2:Int)^56))).toNat:Int)) false),(.int .i64 9 true),(.one .nilIface rfl)])] (SS.mk [] [] true w []))) (.split (decide (i64.wrap pl<(↑n:Int))) (.need ((0:Int)<=i64.wrap pl/\i64.wrap pl<(↑n:Int)) (.need (A.isSome=true) (.need (canRead w [] ((A.getD default).add 9) [SV.int u8 (ai w (((A.getD default).add 9).add 0)) false]) (yZ w)))) (fM w))))))) (fM w)))))) (fM w)))))) (fM w)))))) (fM w)))))) (fM w)))))) (fM w)))))) (fM w)))))) (fM w)))))) (fM w)):=by kernel_rfl
theorem Ks(A:Option Addr)(n c:Nat)(w:World):(by have h:=Kt A n c w;unfold pl pk ue gj y5 y4 yZ Ev Eu jF gk mw iv fM yY t8 tZ ud at h;exact type_of% h):=Kt A n c w
theorem Ps(A:Option Addr)(n c:Nat)(w:World):am Tryz.prog Ke 6000 96 [.xs A n c] (SS.mk [] [] true w []) =
 (.hc 142 [(.xs A n c)] (SS.mk [] [] true w []) (Ei) fun x0 w0 b0=>
 (.split (decide ((↑x0.x:Int) > (2147483647:Int)))
  (.need (canRead w0 b0 (Addr.mk (2:Nat) (0:Nat) none) [SV.one (dX w0 ((Addr.mk (2:Nat) (0:Nat) none).add (0:Nat))).val (dX w0 ((Addr.mk (2:Nat) (0:Nat) none).add (0:Nat))).property])
  (.leaf .ret [(.tup [(.int .i64 0 true),(.int .i64 0 true),(.one (dX w0 ((Addr.mk (2:Nat) (0:Nat) none).add (0:Nat))).1 (dX w0 ((Addr.mk (2:Nat) (0:Nat) none).add (0:Nat))).2)])] (SS.mk [] [] true w0 b0)))
  (.leaf .ret [(.tup [(.int .i64 (i64.wrap (↑x0.x:Int)) false),(.int .i64 ((↑x0.n:Int)) false),(.one .nilIface rfl)])] (SS.mk [] [] true w0 b0)))):=by kernel_rfl
theorem H4:∀m:Fin 128,u8.wrap (((BitVec.ofInt 8 (((m.val+128:Nat)):Int) &&& BitVec.ofInt 8 (127:Int)).toNat:Nat):Int)=((m.val:Nat):Int):=by decide +kernel
theorem ex{b:Int}{m:Nat}(hb:b=((m+128:Nat):Int))(hm:m<128):u8.wrap (((BitVec.ofInt 8 b &&& BitVec.ofInt 8 (127:Int)).toNat:Nat):Int)=(m:Int):=by
 subst hb
 exact H4 ⟨m,hm⟩
theorem yF{m:Nat}(h:m<256):(UInt8.ofNat m).toNat=m:=by
 rw[UInt8.toNat_ofNat']
 omega
theorem OU(A:Option Addr)(n c k:Nat)(rest:List UInt8)(B:Nat)(w:World)(h:Bts w B A n (uv k++rest))(hB:B<=w.heap.size)(hk:k<128) :
  Calls Tryz.prog 142 #[.slice A n c] w (bF (fun v _=>v=.tuple #[.int .u64 k,.int .i64 (uv k).length,.nilIface]) w):=by
 have hl:=h.1
 rw[cb hk]at h hl ⊢
 simp only[List.length_append,List.length_cons,List.length_nil]at hl
 obtain⟨a0,r0,v0⟩:=bm (bs:=[]) h hB (Below.refl _ _) (by simp) 0 (by omega)
 have v0':ai w (((A.getD default).add 0).add 0)=(k:Int):=by rw[v0];show((UInt8.ofNat k).toNat:Int)=_;rw[yF (by omega)]
 refine aH (hk:=au) (n:=6000) (args:=[.xs A n c]) ⟨trivial,trivial⟩ ?_
 refine ah (Ks A n c w) (ak (fun _=>?_) (fun h=>absurd (show(0:Int)<n by omega) h))
 refine aa (by omega) (aa a0 (aa r0 (ak (fun _=>?_) (fun h=>absurd (show ai w (((A.getD default).add 0).add 0)<128 by omega) h))))
 have e:=fZ (s:=0) (x:=0) (y:=k) (X:=0) rfl v0' (by omega) (by omega) (by omega)
 have hv:u64.wrap (((BitVec.ofInt 64 (0:Int) |||BitVec.ofInt 64 (u64.wrap (u64.wrap (ai w (((A.getD default).add 0).add 0))*(2:Int)^0))).toNat:Nat):Int)=(k:Int):=by rw[e];simp
 rw[hv]
 exact af (fun _=>aN (Fine.start _ _) fun β w' _ _=>rfl) (fun _=>aN (Fine.start _ _) fun β w' _ _=>rfl)
theorem OV(A:Option Addr)(n c k:Nat)(rest:List UInt8)(B:Nat)(w:World)(h:Bts w B A n (uv k++rest))(hB:B<=w.heap.size)(h1:¬k<128)(hl:k/128<128) :
  Calls Tryz.prog 142 #[.slice A n c] w (bF (fun v _=>v=.tuple #[.int .u64 k,.int .i64 (uv k).length,.nilIface]) w):=by
 have hn:=h.1
 rw[cI h1,cb hl]at h hn ⊢
 simp only[List.length_append,List.length_cons,List.length_nil]at hn
 obtain⟨a0,r0,v0⟩:=bm (bs:=[]) h hB (Below.refl _ _) (by simp) 0 (by omega)
 have w0:ai w (((A.getD default).add 0).add 0)=((k%128+128:Nat):Int):=by rw[v0];show((UInt8.ofNat (k%128+128)).toNat:Int)=_;rw[yF (by omega)]
 obtain⟨a1,r1,v1⟩:=bm (bs:=[]) h hB (Below.refl _ _) (by simp) 1 (by omega)
 have w1:ai w (((A.getD default).add 1).add 0)=((k/128:Nat):Int):=by rw[v1];show((UInt8.ofNat (k/128)).toNat:Int)=_;rw[yF (by omega)]
 have e1:i64.wrap ((0:Int)+(1:Int))=1:=by decide
 have o0:=fZ (s:=0) (y:=k%128) (x:=0) (X:=0) rfl (ex w0 (by omega)) (by omega) (by omega) (by omega)
 have o1:=fZ (s:=7) (y:=k/128) o0 w1 (by omega) (by omega) (by omega)
 refine aH (hk:=au) (n:=6000) (args:=[.xs A n c]) ⟨trivial,trivial⟩ ?_
 refine ah (Ks A n c w) ?_
 refine ak (fun _=>?_) (fun h=>absurd (show(0:Int)<(n:Int) by omega) h)
 refine aa (by omega) (aa a0 (aa r0 ?_))
 refine ak (fun h=>absurd h (by rw[w0];omega)) (fun _=>?_)
 refine ak (fun _=>?_) (fun h=>absurd (show i64.wrap ((0:Int)+(1:Int))<(n:Int) by rw[e1];omega) h)
 refine aa (by rw[e1];omega) (aa a1 (aa r1 ?_))
 refine ak (fun _=>?_) (fun h=>absurd (show ai w (((A.getD default).add 1).add 0)<128 by rw[w1];omega) h)
 refine af (fun h=>?_) (fun _=>?_)
 ·rw[w1]at h
  have:=eq_of_beq h
  omega
 rw[o1]
 refine aN (Fine.start _ _) fun β w' _ _=>?_
 rw[show k/128*2^7+(k%128*2^0+0)=k by omega]
 rfl
theorem OW(A:Option Addr)(n c k:Nat)(rest:List UInt8)(B:Nat)(w:World)(h:Bts w B A n (uv k++rest))(hB:B<=w.heap.size)(h1:¬k<128)(h2:¬k/128<128)(hl:k/128/128<128) :
  Calls Tryz.prog 142 #[.slice A n c] w (bF (fun v _=>v=.tuple #[.int .u64 k,.int .i64 (uv k).length,.nilIface]) w):=by
 have hn:=h.1
 rw[cI h1,cI h2,cb hl]at h hn ⊢
 simp only[List.length_append,List.length_cons,List.length_nil]at hn
 obtain⟨a0,r0,v0⟩:=bm (bs:=[]) h hB (Below.refl _ _) (by simp) 0 (by omega)
 have w0:ai w (((A.getD default).add 0).add 0)=((k%128+128:Nat):Int):=by rw[v0];show((UInt8.ofNat (k%128+128)).toNat:Int)=_;rw[yF (by omega)]
 obtain⟨a1,r1,v1⟩:=bm (bs:=[]) h hB (Below.refl _ _) (by simp) 1 (by omega)
 have w1:ai w (((A.getD default).add 1).add 0)=((k/128%128+128:Nat):Int):=by rw[v1];show((UInt8.ofNat (k/128%128+128)).toNat:Int)=_;rw[yF (by omega)]
 have e1:i64.wrap ((0:Int)+(1:Int))=1:=by decide
 obtain⟨a2,r2,v2⟩:=bm (bs:=[]) h hB (Below.refl _ _) (by simp) 2 (by omega)
 have w2:ai w (((A.getD default).add 2).add 0)=((k/128/128:Nat):Int):=by rw[v2];show((UInt8.ofNat (k/128/128)).toNat:Int)=_;rw[yF (by omega)]
 have e2:i64.wrap (i64.wrap ((0:Int)+(1:Int))+(1:Int))=2:=by decide
 have o0:=fZ (s:=0) (y:=k%128) (x:=0) (X:=0) rfl (ex w0 (by omega)) (by omega) (by omega) (by omega)
 have o1:=fZ (s:=7) (y:=k/128%128) o0 (ex w1 (by omega)) (by omega) (by omega) (by omega)
 have o2:=fZ (s:=14) (y:=k/128/128) o1 w2 (by omega) (by omega) (by omega)
 refine aH (hk:=au) (n:=6000) (args:=[.xs A n c]) ⟨trivial,trivial⟩ ?_
 refine ah (Ks A n c w) ?_
 refine ak (fun _=>?_) (fun h=>absurd (show(0:Int)<(n:Int) by omega) h)
 refine aa (by omega) (aa a0 (aa r0 ?_))
 refine ak (fun h=>absurd h (by rw[w0];omega)) (fun _=>?_)
 refine ak (fun _=>?_) (fun h=>absurd (show i64.wrap ((0:Int)+(1:Int))<(n:Int) by rw[e1];omega) h)
 refine aa (by rw[e1];omega) (aa a1 (aa r1 ?_))
 refine ak (fun h=>absurd h (by rw[w1];omega)) (fun _=>?_)
 refine ak (fun _=>?_) (fun h=>absurd (show i64.wrap (i64.wrap ((0:Int)+(1:Int))+(1:Int))<(n:Int) by rw[e2];omega) h)
 refine aa (by rw[e2];omega) (aa a2 (aa r2 ?_))
 refine ak (fun _=>?_) (fun h=>absurd (show ai w (((A.getD default).add 2).add 0)<128 by rw[w2];omega) h)
 refine af (fun h=>?_) (fun _=>?_)
 ·rw[w2]at h
  have:=eq_of_beq h
  omega
 rw[o2]
 refine aN (Fine.start _ _) fun β w' _ _=>?_
 rw[show k/128/128*2^14+(k/128%128*2^7+(k%128*2^0+0))=k by omega]
 rfl
theorem OX(A:Option Addr)(n c k:Nat)(rest:List UInt8)(B:Nat)(w:World)(h:Bts w B A n (uv k++rest))(hB:B<=w.heap.size)(h1:¬k<128)(h2:¬k/128<128)(h3:¬k/128/128<128)(hl:k/128/128/128<128) :
  Calls Tryz.prog 142 #[.slice A n c] w (bF (fun v _=>v=.tuple #[.int .u64 k,.int .i64 (uv k).length,.nilIface]) w):=by
 have hn:=h.1
 rw[cI h1,cI h2,cI h3,cb hl]at h hn ⊢
 simp only[List.length_append,List.length_cons,List.length_nil]at hn
 obtain⟨a0,r0,v0⟩:=bm (bs:=[]) h hB (Below.refl _ _) (by simp) 0 (by omega)
 have w0:ai w (((A.getD default).add 0).add 0)=((k%128+128:Nat):Int):=by rw[v0];show((UInt8.ofNat (k%128+128)).toNat:Int)=_;rw[yF (by omega)]
 obtain⟨a1,r1,v1⟩:=bm (bs:=[]) h hB (Below.refl _ _) (by simp) 1 (by omega)
 have w1:ai w (((A.getD default).add 1).add 0)=((k/128%128+128:Nat):Int):=by rw[v1];show((UInt8.ofNat (k/128%128+128)).toNat:Int)=_;rw[yF (by omega)]
 have e1:i64.wrap ((0:Int)+(1:Int))=1:=by decide
 obtain⟨a2,r2,v2⟩:=bm (bs:=[]) h hB (Below.refl _ _) (by simp) 2 (by omega)
 have w2:ai w (((A.getD default).add 2).add 0)=((k/128/128%128+128:Nat):Int):=by rw[v2];show((UInt8.ofNat (k/128/128%128+128)).toNat:Int)=_;rw[yF (by omega)]
 have e2:i64.wrap (i64.wrap ((0:Int)+(1:Int))+(1:Int))=2:=by decide
 obtain⟨a3,r3,v3⟩:=bm (bs:=[]) h hB (Below.refl _ _) (by simp) 3 (by omega)
 have w3:ai w (((A.getD default).add 3).add 0)=((k/128/128/128:Nat):Int):=by rw[v3];show((UInt8.ofNat (k/128/128/128)).toNat:Int)=_;rw[yF (by omega)]
 have e3:i64.wrap (i64.wrap (i64.wrap ((0:Int)+(1:Int))+(1:Int))+(1:Int))=3:=by decide
 have o0:=fZ (s:=0) (y:=k%128) (x:=0) (X:=0) rfl (ex w0 (by omega)) (by omega) (by omega) (by omega)
 have o1:=fZ (s:=7) (y:=k/128%128) o0 (ex w1 (by omega)) (by omega) (by omega) (by omega)
 have o2:=fZ (s:=14) (y:=k/128/128%128) o1 (ex w2 (by omega)) (by omega) (by omega) (by omega)
 have o3:=fZ (s:=21) (y:=k/128/128/128) o2 w3 (by omega) (by omega) (by omega)
 refine aH (hk:=au) (n:=6000) (args:=[.xs A n c]) ⟨trivial,trivial⟩ ?_
 refine ah (Ks A n c w) ?_
 refine ak (fun _=>?_) (fun h=>absurd (show(0:Int)<(n:Int) by omega) h)
 refine aa (by omega) (aa a0 (aa r0 ?_))
 refine ak (fun h=>absurd h (by rw[w0];omega)) (fun _=>?_)
 refine ak (fun _=>?_) (fun h=>absurd (show i64.wrap ((0:Int)+(1:Int))<(n:Int) by rw[e1];omega) h)
 refine aa (by rw[e1];omega) (aa a1 (aa r1 ?_))
 refine ak (fun h=>absurd h (by rw[w1];omega)) (fun _=>?_)
 refine ak (fun _=>?_) (fun h=>absurd (show i64.wrap (i64.wrap ((0:Int)+(1:Int))+(1:Int))<(n:Int) by rw[e2];omega) h)
 refine aa (by rw[e2];omega) (aa a2 (aa r2 ?_))
 refine ak (fun h=>absurd h (by rw[w2];omega)) (fun _=>?_)
 refine ak (fun _=>?_) (fun h=>absurd (show i64.wrap (i64.wrap (i64.wrap ((0:Int)+(1:Int))+(1:Int))+(1:Int))<(n:Int) by rw[e3];omega) h)
 refine aa (by rw[e3];omega) (aa a3 (aa r3 ?_))
 refine ak (fun _=>?_) (fun h=>absurd (show ai w (((A.getD default).add 3).add 0)<128 by rw[w3];omega) h)
 refine af (fun h=>?_) (fun _=>?_)
 ·rw[w3]at h
  have:=eq_of_beq h
  omega
 rw[o3]
 refine aN (Fine.start _ _) fun β w' _ _=>?_
 rw[show k/128/128/128*2^21+(k/128/128%128*2^14+(k/128%128*2^7+(k%128*2^0+0)))=k by omega]
 rfl
theorem OY(A:Option Addr)(n c k:Nat)(rest:List UInt8)(B:Nat)(w:World)(h:Bts w B A n (uv k++rest))(hB:B<=w.heap.size)(h1:¬k<128)(h2:¬k/128<128)(h3:¬k/128/128<128)(h4:¬k/128/128/128<128)(hl:k/128/128/128/128<128) :
  Calls Tryz.prog 142 #[.slice A n c] w (bF (fun v _=>v=.tuple #[.int .u64 k,.int .i64 (uv k).length,.nilIface]) w):=by
 have hn:=h.1
 rw[cI h1,cI h2,cI h3,cI h4,cb hl]at h hn ⊢
 simp only[List.length_append,List.length_cons,List.length_nil]at hn
 obtain⟨a0,r0,v0⟩:=bm (bs:=[]) h hB (Below.refl _ _) (by simp) 0 (by omega)
 have w0:ai w (((A.getD default).add 0).add 0)=((k%128+128:Nat):Int):=by rw[v0];show((UInt8.ofNat (k%128+128)).toNat:Int)=_;rw[yF (by omega)]
 obtain⟨a1,r1,v1⟩:=bm (bs:=[]) h hB (Below.refl _ _) (by simp) 1 (by omega)
 have w1:ai w (((A.getD default).add 1).add 0)=((k/128%128+128:Nat):Int):=by rw[v1];show((UInt8.ofNat (k/128%128+128)).toNat:Int)=_;rw[yF (by omega)]
 have e1:i64.wrap ((0:Int)+(1:Int))=1:=by decide
 obtain⟨a2,r2,v2⟩:=bm (bs:=[]) h hB (Below.refl _ _) (by simp) 2 (by omega)
 have w2:ai w (((A.getD default).add 2).add 0)=((k/128/128%128+128:Nat):Int):=by rw[v2];show((UInt8.ofNat (k/128/128%128+128)).toNat:Int)=_;rw[yF (by omega)]
 have e2:i64.wrap (i64.wrap ((0:Int)+(1:Int))+(1:Int))=2:=by decide
 obtain⟨a3,r3,v3⟩:=bm (bs:=[]) h hB (Below.refl _ _) (by simp) 3 (by omega)
 have w3:ai w (((A.getD default).add 3).add 0)=((k/128/128/128%128+128:Nat):Int):=by rw[v3];show((UInt8.ofNat (k/128/128/128%128+128)).toNat:Int)=_;rw[yF (by omega)]
 have e3:i64.wrap (i64.wrap (i64.wrap ((0:Int)+(1:Int))+(1:Int))+(1:Int))=3:=by decide
 obtain⟨a4,r4,v4⟩:=bm (bs:=[]) h hB (Below.refl _ _) (by simp) 4 (by omega)
 have w4:ai w (((A.getD default).add 4).add 0)=((k/128/128/128/128:Nat):Int):=by rw[v4];show((UInt8.ofNat (k/128/128/128/128)).toNat:Int)=_;rw[yF (by omega)]
 have e4:i64.wrap (i64.wrap (i64.wrap (i64.wrap ((0:Int)+(1:Int))+(1:Int))+(1:Int))+(1:Int))=4:=by decide
 have o0:=fZ (s:=0) (y:=k%128) (x:=0) (X:=0) rfl (ex w0 (by omega)) (by omega) (by omega) (by omega)
 have o1:=fZ (s:=7) (y:=k/128%128) o0 (ex w1 (by omega)) (by omega) (by omega) (by omega)
 have o2:=fZ (s:=14) (y:=k/128/128%128) o1 (ex w2 (by omega)) (by omega) (by omega) (by omega)
 have o3:=fZ (s:=21) (y:=k/128/128/128%128) o2 (ex w3 (by omega)) (by omega) (by omega) (by omega)
 have o4:=fZ (s:=28) (y:=k/128/128/128/128) o3 w4 (by omega) (by omega) (by omega)
 refine aH (hk:=au) (n:=6000) (args:=[.xs A n c]) ⟨trivial,trivial⟩ ?_
 refine ah (Ks A n c w) ?_
 refine ak (fun _=>?_) (fun h=>absurd (show(0:Int)<(n:Int) by omega) h)
 refine aa (by omega) (aa a0 (aa r0 ?_))
 refine ak (fun h=>absurd h (by rw[w0];omega)) (fun _=>?_)
 refine ak (fun _=>?_) (fun h=>absurd (show i64.wrap ((0:Int)+(1:Int))<(n:Int) by rw[e1];omega) h)
 refine aa (by rw[e1];omega) (aa a1 (aa r1 ?_))
 refine ak (fun h=>absurd h (by rw[w1];omega)) (fun _=>?_)
 refine ak (fun _=>?_) (fun h=>absurd (show i64.wrap (i64.wrap ((0:Int)+(1:Int))+(1:Int))<(n:Int) by rw[e2];omega) h)
 refine aa (by rw[e2];omega) (aa a2 (aa r2 ?_))
 refine ak (fun h=>absurd h (by rw[w2];omega)) (fun _=>?_)
 refine ak (fun _=>?_) (fun h=>absurd (show i64.wrap (i64.wrap (i64.wrap ((0:Int)+(1:Int))+(1:Int))+(1:Int))<(n:Int) by rw[e3];omega) h)
 refine aa (by rw[e3];omega) (aa a3 (aa r3 ?_))
 refine ak (fun h=>absurd h (by rw[w3];omega)) (fun _=>?_)
 refine ak (fun _=>?_) (fun h=>absurd (show i64.wrap (i64.wrap (i64.wrap (i64.wrap ((0:Int)+(1:Int))+(1:Int))+(1:Int))+(1:Int))<(n:Int) by rw[e4];omega) h)
 refine aa (by rw[e4];omega) (aa a4 (aa r4 ?_))
 refine ak (fun _=>?_) (fun h=>absurd (show ai w (((A.getD default).add 4).add 0)<128 by rw[w4];omega) h)
 refine af (fun h=>?_) (fun _=>?_)
 ·rw[w4]at h
  have:=eq_of_beq h
  omega
 rw[o4]
 refine aN (Fine.start _ _) fun β w' _ _=>?_
 rw[show k/128/128/128/128*2^28+(k/128/128/128%128*2^21+(k/128/128%128*2^14+(k/128%128*2^7+(k%128*2^0+0))))=k by omega]
 rfl
theorem rG(A:Option Addr)(n c k:Nat)(rest:List UInt8)(B:Nat)(w:World)(h:Bts w B A n (uv k++rest))(hB:B<=w.heap.size)(hk:k<2^35) :
  Calls Tryz.prog 142 #[.slice A n c] w (bF (fun v _=>v=.tuple #[.int .u64 k,.int .i64 (uv k).length,.nilIface]) w):=by
 by_cases h1:k<128
 ·exact OU A n c k rest B w h hB h1
 by_cases h2:k/128<128
 ·exact OV A n c k rest B w h hB h1 h2
 by_cases h3:k/128/128<128
 ·exact OW A n c k rest B w h hB h1 h2 h3
 by_cases h4:k/128/128/128<128
 ·exact OX A n c k rest B w h hB h1 h2 h3 h4
 ·exact OY A n c k rest B w h hB h1 h2 h3 h4 (by omega)
theorem fG(A:Option Addr)(n c k:Nat)(rest:List UInt8)(B:Nat)(w:World)(h:Bts w B A n (uv k++rest))(hB:B<=w.heap.size)(hk:k<=2147483647) :
  Calls Tryz.prog 96 #[.slice A n c] w (bF (fun v _=>v=.tuple #[.int .i64 k,.int .i64 (uv k).length,.nilIface]) w):=by
 refine aH (hk:=Ke) (n:=6000) (args:=[.xs A n c]) ⟨trivial,trivial⟩ ?_
 refine ah (Ps A n c w) ?_
 refine gL (R:=fun(z:VN) _ _=>z=⟨k,(uv k).length⟩) (fun x=>⟨rfl,trivial,trivial,trivial,trivial⟩) (fun β wc hb=>?_) ?_
 ·refine(rG A n c k rest B wc (h.below (hb.mono hB) (Nat.le_refl _)) (Nat.le_trans hB hb.size) (by omega)).mono ?_
  rintro e w' ⟨v,rfl,rfl,hb'⟩
  exact⟨⟨k,(uv k).length⟩,rfl,hb',rfl⟩
 ·rintro z wc w1 hwc rfl hb
  refine ak (fun h=>absurd (show(k:Int) > 2147483647 from h) (by omega)) (fun _=>?_)
  refine aN (Fine.nil (hwc.trans (hb.mono hwc.size))) fun β w' _ _=>?_
  show Value.tuple #[.int .i64 (i64.wrap (k:Int)),_,_]=_
  rw[ax (by omega) (by omega)]
  rfl
end
section
open Go Go.Rx Go.RowKit
theorem pg{Q:SE->List Value->World->Prop}{s:SS}{w:World}{f:FuncId}{key:Int}{lit:Bool}{s0:SS}{k:PV->World->List Nat->T}(hf:Fine w s)(hs0:s0.objs=s.objs)
  (hc:∀w0,Below w.heap.size w w0->Calls Tryz.prog f #[.int .i64 key] w0 (bF (Jy key w0) w0))
  (hk:∀x w0 w' bs,x.Is key->Fresh w0 x.A->Bts w' w'.heap.size x.A x.n (an key).vc->Below w.heap.size w w0->Below w0.heap.size w0 w'->Below w.heap.size w w'->(∀b∈bs,w.heap.size<=b/\b<w0.heap.size)->(k x w' bs).holds (cS Tryz.prog Q)) :
  (T.call f [.int .i64 key lit] s (Hook.X ba) (Hook.out ba [.int .i64 key lit] s0) k).holds (cS Tryz.prog Q):=by
 refine dJ (Γ:=cS Tryz.prog Q) (R:=fun(x:PV) w0 w'=>x.Is key/\Fresh w0 x.A/\Bts w' w'.heap.size x.A x.n (an key).vc) hf (fun x=>⟨hs0,trivial,trivial,trivial,trivial,trivial,trivial,trivial⟩) (fun β w0 hst ho hb=>?_)
  (fun x w0 w' bs hb0 hr hb1 hb hbs=>hk x w0 w' bs hr.1 hr.2.1 hr.2.2 hb0 hb1 hb hbs)
 refine(hc w0 hb).mono ?_
 rintro e w' ⟨v,rfl,⟨x,rfl,h1⟩,hb'⟩
 exact⟨x,rfl,hb',h1⟩
theorem AE(k:Int)(hk:k∈aY)(w:World):Calls Tryz.prog 67 #[.int .i64 k] w (bF (Jy k w) w):=by
 refine aH (hk:=Fj) (n:=200) (args:=[.int .i64 k false]) ⟨trivial,trivial⟩ ?_
 rw[Qi]
 refine pg (Fine.start _ _) rfl (fun w0 _=>z8 k hk w0) fun x w0 w' bs h1 h3 h4 hb0 hb1 hb hbs=>?_
 refine aN (Fine.mk' hb fun b hb=>(hbs b hb).1) fun β w2 hst hb2=>⟨x,rfl,h1,h3.mono hb0.size,?_⟩
 have o:=hst.old rfl
 exact(o.bts h4 (Nat.le_refl _) (h3.notin fun b hb=>(hbs b hb).2)).mono o.sz
def ProtB(w:World)(B b:Nat)(k:Int):Prop:=b<B/\∃A c,w.heap[b]?=some (.cells #[.string ⟨(an k).name.toArray⟩,.int .i64 k,.slice A (an k).vc.length c,.int .i64 (an k).size,.bool (an k).path,(an k).tr] 88 (0,0)) /\
 Bts w B A (an k).vc.length (an k).vc/\(an k).vc.length<=c
theorem ProtB.below{w w':World}{B B' b:Nat}{k:Int}(h:ProtB w B b k)(hb:Below B w w')(hB:B<=B'):ProtB w' B' b k:=by
 obtain⟨h1,A,c,h2,h3,h4⟩:=h
 exact⟨by omega,A,c,by rw[hb.block b h1];exact h2,h3.below hb hB,h4⟩
theorem ProtB.old{β:Nat->Nat}{s:SS}{w:World}{B b:Nat}{k:Int}(o:Old β s w)(h:ProtB s.w0 B b k)(hB:B<=s.w0.heap.size)(hn:∀i∈s.pre,i≠b/\(∀A c,s.w0.heap[b]?=some (.cells #[.string ⟨(an k).name.toArray⟩,.int .i64 k,.slice A (an k).vc.length c,.int .i64 (an k).size,.bool (an k).path,(an k).tr] 88 (0,0))->∀a,A=some a->a.block≠i)):ProtB w B b k:=by
 obtain⟨h1,A,c,h2,h3,h4⟩:=h
 refine⟨h1,A,c,?_,o.bts h3 hB fun a ha hm=>(hn _ hm).2 A c h2 a ha rfl,h4⟩
 rw[o.heap (Nat.lt_of_lt_of_le h1 hB) fun hm=>(hn _ hm).1 rfl]
 exact h2
def ProtN(w:World)(b:Nat)(k:Int)(w':World):Prop:=w.heap.size<=b/\b<w'.heap.size/\∃A c,w'.heap[b]?=some (.cells #[.string ⟨(an k).name.toArray⟩,.int .i64 k,.slice A (an k).vc.length c,.int .i64 (an k).size,.bool (an k).path,(an k).tr] 88 (0,0)) /\
 Bts w' w'.heap.size A (an k).vc.length (an k).vc/\(an k).vc.length<=c/\Fresh w A
theorem ProtN.b{w w':World}{b:Nat}{k:Int}(h:ProtN w b k w'):ProtB w' w'.heap.size b k:=by
 obtain⟨_,h1,A,c,h2,h3,h4,_⟩:=h
 exact⟨h1,A,c,h2,h3,h4⟩
theorem ProtN.old{β:Nat->Nat}{s:SS}{w0 w:World}{b:Nat}{k:Int}(o:Old β s w)(h:ProtN w0 b k s.w0)(hp:∀i∈s.pre,i<w0.heap.size):ProtN w0 b k w:=by
 obtain⟨h0,h1,A,c,h2,h3,h4,h5⟩:=h
 refine⟨h0,Nat.lt_of_lt_of_le h1 o.sz,A,c,?_,(o.bts h3 (Nat.le_refl _) fun a ha hm=>?_).mono o.sz,h4,h5⟩
 ·rw[o.heap h1 fun hm=>by have:=hp _ hm;omega]
  exact h2
 ·have:=hp _ hm
  have:=h5 a ha
  omega
theorem ProtN.from{w w1 w':World}{b:Nat}{k:Int}(h:ProtN w1 b k w')(hz:w.heap.size<=w1.heap.size):ProtN w b k w':=by
 obtain⟨h0,h1,A,c,h2,h3,h4,h5⟩:=h
 exact⟨by omega,h1,A,c,h2,h3,h4,h5.mono hz⟩
theorem GS(k:Int)(hk:k∈aY)(w:World):Calls Tryz.prog 85 #[.int .i64 k] w (bF (fun v w'=>∃b,v=.pointer (some ⟨b,0,none⟩)/\ProtN w b k w') w):=by
 refine aH (hk:=Fj) (n:=200) (args:=[.int .i64 k false]) ⟨trivial,trivial⟩ ?_
 rw[Qk]
 refine pg (Fine.start _ _) rfl (fun w0 _=>z8 k hk w0) fun x w0 w' bs hx h3 h4 hb0 hb1 hb hbs=>?_
 have hbs':∀b∈bs,w.heap.size<=b:=fun b hb=>(hbs b hb).1
 refine af (fun h0=>?_) (fun _=>aN (Fine.mk' hb hbs') fun β w2 hst hb2=>?_)
 ·have:k=0:=by simpa using h0
  subst this
  exact absurd hk (by decide)
 ·have o:=hst.old rfl
  obtain⟨rest,e1,e2⟩:=hst.at_ 0 _ rfl
  have hr:rest=[]:=by simpa using e2
  subst hr
  have hn:=h4.1
  refine⟨β 0,rfl,(Fine.mk' hb hbs').new o 0 (by simp[SS.n]),hst.lt 0 (by simp[SS.n]),x.A,x.c,?_,?_,?_,h3.mono hb0.size⟩
  ·rw[e1]
   simp only[ae,SV.den,hx.name,hx.size,hx.path,hx.tr,hn]
   rfl
  ·rw[<- hn]
   exact(o.bts h4 (Nat.le_refl _) (h3.notin fun b hb=>(hbs b hb).2)).mono o.sz
  ·rw[<- hn]
   exact hx.cap
def cg(k:Int)(val:List UInt8):List UInt8:=(an k).vc++(if(an k).size<0 then uv val.length else[])
def FW(k:Int)(val:List UInt8)(w:World)(v:Value)(w':World):Prop:=
 ∃b,v=.agg #[.string ⟨(cg k val++val).toArray⟩,.pointer (some ⟨b,0,none⟩),.int .i64 ((cg k val).length:Int)]/\ProtN w b k w'
theorem Bn{w w1:World}{bs:List Nat}{k:Int}{val pre:List UInt8}{objs:List SObj}{objs':Addr->List SObj}{L:List Value}{N M N':Nat}{lit:Bool}(hk:k∈aY)(hh:cg k val=pre)(hb:Below w.heap.size w w1)(hbs:∀b∈bs,w.heap.size<=b)
  (hM:N<=M) (hL:L=(pre++val).map HP) (hN:N'=pre.length) :
  (T.need (k=k) (T.need (N<=M/\bX L) (T.call 85 [.int .i64 k lit] (SS.mk objs [] true w1 bs) Addr (fun x=>(.xp x,objs)) fun x3 w3 b3=>
   (.leaf .ret [.agg [.str (bytesOf (List.map bT L)) false,.xp x3,.int .i64 (N':Int) false]] (SS.mk (objs' x3) [] true w3 b3))))).holds (cS Tryz.prog (bC fun v w'=>FW k val w v w'/\Below w.heap.size w w')):=by
 subst hL hN
 refine aa rfl (aa ⟨hM,sS _⟩ ?_)
 refine dJ (Γ:=cS Tryz.prog _) (R:=fun p w0 w'=>∃b,p=⟨b,0,none⟩/\ProtN w0 b k w') (Fine.mk' hb hbs) (fun x=>⟨rfl,trivial⟩) (fun β w0 hst ho hb=>?_) (fun p w0 w' bs' hb0 hr hb1 hb2 hbs'=>?_)
 ·refine(GS k hk w0).mono ?_
  rintro e w' ⟨v,rfl,⟨b,rfl,h1⟩,hb'⟩
  exact⟨⟨b,0,none⟩,rfl,hb',b,rfl,h1⟩
 ·obtain⟨b,rfl,h1⟩:=hr
  refine aN (Fine.mk' hb2 fun b hb=>(hbs' b hb).1) fun β w2 hst hb3=>⟨b,?_,?_⟩
  ·rw[sT,hh];rfl
  ·exact(h1.old (hst.old rfl) fun i hi=>(hbs' i hi).2).from hb0.size
theorem FM{Q:SE->List Value->World->Prop}{s:SS}{w:World}{n:Nat}{lit:Bool}{a0:List SV}{s0:SS}{k:UV->World->List Nat->T}(hf:Fine w s)(hs0:s0.objs=s.objs)(hn:n<2^63)
  (hk:∀x w0 w' bs,Fresh w0 x.A->Bts w' w'.heap.size x.A x.k (uv n)->Below w.heap.size w w0->Below w0.heap.size w0 w'->Below w.heap.size w w'->(∀b∈bs,w.heap.size<=b/\b<w0.heap.size)->(k x w' bs).holds (cS Tryz.prog Q)) :
  (T.call 69 [.int .u64 (u64.wrap (n:Int)) lit] s (Hook.X aW) (Hook.out aW a0 s0) k).holds (cS Tryz.prog Q):=by
 have e:u64.wrap (n:Int)=n:=by
  simp[IntKind.wrap,IntKind.bits,IntKind.signed]
  omega
 refine dJ (Γ:=cS Tryz.prog Q) (R:=fun(x:UV) w0 w'=>Fresh w0 x.A/\Bts w' w'.heap.size x.A x.k (uv n)) hf (fun x=>⟨hs0,trivial⟩) (fun β w0 hst ho hb=>?_)
  (fun x w0 w' bs hb0 hr hb1 hb hbs=>hk x w0 w' bs hr.1 hr.2 hb0 hb1 hb hbs)
 rw[e]
 refine(BX n w0 (by omega)).mono ?_
 rintro e w' ⟨v,rfl,⟨A,kk,c,rfl,_,h1,h2⟩,hb'⟩
 exact⟨⟨A,kk,c⟩,rfl,hb',h2,h1⟩
theorem Ii(k:Int)(hk:k∈aY)(A:Option Addr)(n c:Nat)(val:List UInt8)(B:Nat)(w:World)(h:Bts w B A n val)(hB:B<=w.heap.size)(hn:(n:Int)<2^46) :
  Calls Tryz.prog 39 #[.agg #[.int .i64 k,.slice A n c]] w (bF (FW k val w) w):=by
 have hn':=h.1
 subst hn'
 refine aH (hk:=J2) (n:=500) (args:=[.agg [.int .i64 k false,.xs A val.length c]]) ⟨⟨trivial,trivial,trivial⟩,trivial⟩ ?_
 rw[Qg]
 refine pg (Fine.start _ _) rfl (fun w0 _=>AE k hk w0) fun x w0 w1 bs hx h3 h4 hb0 hb1 hb hbs=>?_
 have hn0:=h4.1
 have hsz:=hx.size
 obtain⟨h1,h2⟩:=iL k hk
 obtain⟨nm,A0,n0,c0,sz,pth,tr⟩:=x
 dsimp only at *
 subst hn0 hsz
 have hd1:(an k).size<0->cg k val=(an k).vc++uv val.length:=fun h=>by unfold cg;rw[if_pos h]
 have hd2:¬(an k).size<0->cg k val=(an k).vc:=fun h=>by unfold cg;rw[if_neg h,List.append_nil]
 generalize (an k).vc=l0 at *
 have hbs':∀b∈bs,w.heap.size<=b:=fun b hb=>(hbs b hb).1
 have hA:Bts w1 B A val.length val:=h.below (hb.mono hB) (Nat.le_refl _)
 have hcA:canBytes w1 bs A val.length:=hA.canBytes (Nat.le_trans hB hb.size) fun b hb=>Nat.le_trans hB (hbs' b hb)
 rw[h4.vals,hA.vals]
 refine af (fun h0=>?_) fun _=>aa (h4.canBytesN (Nat.le_refl _) (h3.notin fun b hb=>(hbs b hb).2)) (ak (fun h0=>by omega) fun _=>aa ?_ (aE ?_))
 ·have:k=0:=by simpa using h0
  subst this
  exact absurd hk (by decide)
 ·exact⟨Nat.le_refl _,wM (by omega) (by omega),by rw[be];omega⟩
 intro c1 _
 refine af (fun hneg=>?_) (fun hneg=>aa hcA (ak (fun hc=>aa ?_ ?_) (fun hc=>aa ?_ (aE ?_))))
 ·have hd1:=hd1 (by simpa using hneg)
  refine FM (a0:=[]) (Fine.mk' hb hbs') rfl (by omega) fun y w2 w3 bs2 g2 g3 gb0 gb1 gb2 gbs=>?_
  have hn1:=g3.1
  have g1:=jw 9 val.length (by omega)
  generalize uv val.length=l1 at *
  obtain⟨A1,n1,c1'⟩:=y
  dsimp only at *
  subst hn1
  have gbs':∀b∈bs2,w.heap.size<=b:=fun b hb=>(gbs b hb).1
  have gA:Bts w3 B A val.length val:=h.below (gb2.mono hB) (Nat.le_refl _)
  have gcA:canBytes w3 bs2 A val.length:=gA.canBytes (Nat.le_trans hB gb2.size) fun b hb=>Nat.le_trans hB (gbs' b hb)
  rw[g3.vals,gA.vals]
  refine aa (g3.canBytesN (Nat.le_refl _) (g2.notin fun b hb=>(gbs b hb).2)) (ak (fun hc=>aa ?_ (aa gcA (ak (fun hd=>aa ?_ ?_) (fun hd=>aa ?_ (aE ?_))))) (fun hc=>aa ?_ (aE ?_)))
  ·(refine⟨?_,?_,?_⟩ <;> (first |(simp[c9,ae,ap,List.take_of_length_le,Nat.add_assoc];done) |(simp[c9,ae,ap,List.take_of_length_le,Nat.add_assoc] <;> omega)))
  ·(refine⟨?_,?_,?_⟩ <;> (first |(simp[c9,ae,ap,List.take_of_length_le,Nat.add_assoc];done) |(simp[c9,ae,ap,List.take_of_length_le,Nat.add_assoc] <;> omega)))
  ·exact Bn (pre:=l0++l1) hk hd1 gb2 gbs' (by (first |(simp[c9,ae,ap,List.take_of_length_le,Nat.add_assoc];done) |(simp[c9,ae,ap,List.take_of_length_le,Nat.add_assoc] <;> omega))) (by (first |(simp[c9,ae,ap,List.take_of_length_le,Nat.add_assoc];done) |(simp[c9,ae,ap,List.take_of_length_le,Nat.add_assoc] <;> omega))) (by (first |(simp[c9,ae,ap,List.take_of_length_le,Nat.add_assoc];done) |(simp[c9,ae,ap,List.take_of_length_le,Nat.add_assoc] <;> omega)))
  ·exact⟨by (first |(simp[c9,ae,ap,List.take_of_length_le,Nat.add_assoc];done) |(simp[c9,ae,ap,List.take_of_length_le,Nat.add_assoc] <;> omega)),wM hd (by omega),by rw[be];omega⟩
  ·intro c3 _
   exact Bn (pre:=l0++l1) hk hd1 gb2 gbs' (by (first |(simp[c9,ae,ap,List.take_of_length_le,Nat.add_assoc];done) |(simp[c9,ae,ap,List.take_of_length_le,Nat.add_assoc] <;> omega))) (by (first |(simp[c9,ae,ap,List.take_of_length_le,Nat.add_assoc];done) |(simp[c9,ae,ap,List.take_of_length_le,Nat.add_assoc] <;> omega))) (by (first |(simp[c9,ae,ap,List.take_of_length_le,Nat.add_assoc];done) |(simp[c9,ae,ap,List.take_of_length_le,Nat.add_assoc] <;> omega)))
  ·exact⟨by (first |(simp[c9,ae,ap,List.take_of_length_le,Nat.add_assoc];done) |(simp[c9,ae,ap,List.take_of_length_le,Nat.add_assoc] <;> omega)),wM hc (by omega),by rw[be];omega⟩
  ·intro c3 _
   refine aa gcA (ak (fun hd=>aa ?_ ?_) (fun hd=>aa ?_ (aE ?_)))
   ·(refine⟨?_,?_,?_⟩ <;> (first |(simp[c9,ae,ap,List.take_of_length_le,Nat.add_assoc];done) |(simp[c9,ae,ap,List.take_of_length_le,Nat.add_assoc] <;> omega)))
   ·exact Bn (pre:=l0++l1) hk hd1 gb2 gbs' (by (first |(simp[c9,ae,ap,List.take_of_length_le,Nat.add_assoc];done) |(simp[c9,ae,ap,List.take_of_length_le,Nat.add_assoc] <;> omega))) (by (first |(simp[c9,ae,ap,List.take_of_length_le,Nat.add_assoc];done) |(simp[c9,ae,ap,List.take_of_length_le,Nat.add_assoc] <;> omega))) (by (first |(simp[c9,ae,ap,List.take_of_length_le,Nat.add_assoc];done) |(simp[c9,ae,ap,List.take_of_length_le,Nat.add_assoc] <;> omega)))
   ·exact⟨by (first |(simp[c9,ae,ap,List.take_of_length_le,Nat.add_assoc];done) |(simp[c9,ae,ap,List.take_of_length_le,Nat.add_assoc] <;> omega)),wM hd (by omega),by rw[be];omega⟩
   ·intro c4 _
    exact Bn (pre:=l0++l1) hk hd1 gb2 gbs' (by (first |(simp[c9,ae,ap,List.take_of_length_le,Nat.add_assoc];done) |(simp[c9,ae,ap,List.take_of_length_le,Nat.add_assoc] <;> omega))) (by (first |(simp[c9,ae,ap,List.take_of_length_le,Nat.add_assoc];done) |(simp[c9,ae,ap,List.take_of_length_le,Nat.add_assoc] <;> omega))) (by (first |(simp[c9,ae,ap,List.take_of_length_le,Nat.add_assoc];done) |(simp[c9,ae,ap,List.take_of_length_le,Nat.add_assoc] <;> omega)))
 ·(refine⟨?_,?_,?_⟩ <;> (first |(simp[c9,ae,ap,List.take_of_length_le,Nat.add_assoc];done) |(simp[c9,ae,ap,List.take_of_length_le,Nat.add_assoc] <;> omega)))
 ·exact Bn (pre:=l0) hk (hd2 (by simpa using hneg)) hb hbs' (by (first |(simp[c9,ae,ap,List.take_of_length_le,Nat.add_assoc];done) |(simp[c9,ae,ap,List.take_of_length_le,Nat.add_assoc] <;> omega))) (by (first |(simp[c9,ae,ap,List.take_of_length_le,Nat.add_assoc];done) |(simp[c9,ae,ap,List.take_of_length_le,Nat.add_assoc] <;> omega))) (by (first |(simp[c9,ae,ap,List.take_of_length_le,Nat.add_assoc];done) |(simp[c9,ae,ap,List.take_of_length_le,Nat.add_assoc] <;> omega)))
 ·exact⟨by (first |(simp[c9,ae,ap,List.take_of_length_le,Nat.add_assoc];done) |(simp[c9,ae,ap,List.take_of_length_le,Nat.add_assoc] <;> omega)),wM hc (by omega),by rw[be];omega⟩
 ·intro c2 _
  exact Bn (pre:=l0) hk (hd2 (by simpa using hneg)) hb hbs' (by (first |(simp[c9,ae,ap,List.take_of_length_le,Nat.add_assoc];done) |(simp[c9,ae,ap,List.take_of_length_le,Nat.add_assoc] <;> omega))) (by (first |(simp[c9,ae,ap,List.take_of_length_le,Nat.add_assoc];done) |(simp[c9,ae,ap,List.take_of_length_le,Nat.add_assoc] <;> omega))) (by (first |(simp[c9,ae,ap,List.take_of_length_le,Nat.add_assoc];done) |(simp[c9,ae,ap,List.take_of_length_le,Nat.add_assoc] <;> omega)))
end
section
open Go Go.Rx Go.RowKit
structure PU where
 r:Nat
 l:List Int
end
section
open Go Go.Rx Go.RowKit
@[reducible] def Ec:SV:=.one .nilIface rfl
@[reducible] def Cc:SV:=.ifc 147 (.agg [.fn (.func 165) [] [],.fn (.func 166) [] [],.one .nilFunc rfl])
@[reducible] def Ca:SV:=.ifc 147 (.agg [.fn (.func 163) [] [],.fn (.func 164) [] [],.one .nilFunc rfl])
@[reducible] def Cd:SV:=.ifc 147 (.agg [.fn (.func 170) [] [],.fn (.func 171) [] [],.one .nilFunc rfl])
@[reducible] def B9:SV:=.ifc 147 (.agg [.fn (.func 175) [] [],.fn (.func 176) [] [],.fn (.func 177) [] []])
@[reducible] def Cb:SV:=.ifc 147 (.agg [.fn (.func 202) [] [],.fn (.func 203) [] [],.fn (.func 204) [] []])
@[reducible] def Ee:SV:=.ifc 147 (.agg [.fn (.func 172) [] [],.fn (.func 173) [] [],.fn (.func 174) [] []])
@[reducible] def Eb:SV:=.ifc 147 (.agg [.fn (.func 167) [] [],.fn (.func 168) [] [],.fn (.func 169) [] []])
@[reducible] def Ed:SV:=.ifc 147 (.agg [.fn (.func 199) [] [],.fn (.func 200) [] [],.fn (.func 201) [] []])
@[reducible] def vO(s:ByteArray)(off:Nat)(x:PV)(k:Int)(size:Int)(tr:SV):List SObj:=[.cells [.str s false,.ptr 1 0,.int .i64 off false] 3 64 0 0,.cells [.str x.name false,.int .i64 k false,.xs x.A x.n x.c,.int .i64 size true,.bool x.path false,tr] 6 88 0 0]
@[reducible] def cV:Hook:={ X:=ByteArray,out:=fun _ s x=>(.tup [.str x false,.one .nilIface rfl],s.objs) }
structure RV where
 size:Nat
 n:Nat
@[reducible] def tK:Hook:={ X:=RV,out:=fun _ s x=>(.tup [.int .i64 x.size false,.int .i64 x.n false,.one .nilIface rfl],s.objs) }
def iW:Hooks:={ calls:=fun f=>if f=166∨f=164∨f=171∨f=176∨f=203∨f=173∨f=168∨f=200 then some cV else if f=391 then some dN else if f=96 then some tK else none,loops:=fun _ _=>none }
structure NC where
 s:ByteArray
 p:Addr
 i:Nat
end
section
open Go Go.RowKit
theorem KI(w:World):(binOp BinOp.eql 80 Value.nilFunc Value.nilFunc).run Tryz.prog w=.ok (.bool true) w:=by
 rfl
theorem es(f g:Fn)(v:Value)(w:World):Calls Tryz.prog 391 #[.agg #[.func f #[] #[],.func g #[] #[],.nilFunc],v] w fun e w'=>e=.returned .nilIface/\Below w.heap.size w w':=by
 have hal:=Below.alloc (Below.refl w.heap.size w) (Nat.le_refl _) (Obj.cells #[Value.func f #[] #[],Value.func g #[] #[],Value.nilFunc] 147)
 go_enter Tryz.func391,Tryz.ntmps391
 go_wp2
 rw[KI]
 go_wp2
 simp[bodyPost,results,Tryz.results391,go_sem]
 exact hal
end
section
open Go Go.Rx Go.RowKit
def Fg:SObj->Prop
 | .cells cs tot _ _ _=>cs.length=tot
 | .ints ..=>True
 | .other _=>True
 |_=>False
theorem E3{β:Nat->Nat}{o:SObj}(h:Fg o){x y:Option Obj}(hx:o.At β x)(hy:o.At β y):x=y:=by
 cases o with
 |cells cs tot e lo hi=>
  obtain⟨r1,h1,h2⟩:=hx
  obtain⟨r2,h3,h4⟩:=hy
  have hl:cs.length=tot:=h
  have e1:r1=[]:=List.eq_nil_of_length_eq_zero (by omega)
  have e2:r2=[]:=List.eq_nil_of_length_eq_zero (by omega)
  subst e1 e2
  rw[h1,h3]
 |ints k l e lo hi=>exact Eq.trans hx (Eq.symm hy)
 |other ob=>exact Eq.trans hx (Eq.symm hy)
 |unk=>exact h.elim
 |vals l tot e lo hi=>exact h.elim
theorem br{β:Nat->Nat}{objs:List SObj}{w w':World}{m:Nat}(hk:Keep (ac β m) w w')(ha:aJ β objs w)(hb:aJ β objs w')(hl:objs.length=m)(hf:∀o∈objs,Fg o):Below w.heap.size w w':=by
 refine⟨hk.os,hk.tape,hk.output,hk.size,fun b hlt=>?_⟩
 by_cases hm:b∈ac β m
 ·simp only[ac,List.mem_map,List.mem_range]at hm
  obtain⟨i,hi,rfl⟩:=hm
  have hi':i<objs.length:=by omega
  exact E3 (hf _ (List.getElem_mem hi')) (hb i _ (List.getElem?_eq_getElem hi')) (ha i _ (List.getElem?_eq_getElem hi'))
 ·exact hk.block b hlt hm
theorem jf(L:List UInt8)(i j p q r:Nat):List.map (fun b:UInt8=>(b.toNat:Int)) ((#[]:Array UInt8).extract p q++L.toArray.extract i j++(#[]:Array UInt8).extract r 0).toList=((L.take j).drop i).map fun b=>(b.toNat:Int):=by
 simp[List.drop_take]
theorem jg(L:List UInt8)(i j:Nat):((⟨L.toArray⟩:ByteArray).extract i j).size=min j L.length-i:=by
 simp[ByteArray.size_extract,ByteArray.size]
 omega
theorem dY(s:ByteArray)(off:Nat)(x:PV)(k size:Int)(tr:SV)(h1:tr.ok 2):(vO s off x k size tr).length=2/\(∀o∈vO s off x k size tr,o.ok 2)/\∀o∈vO s off x k size tr,Fg o:=by
 refine⟨rfl,fun o ho=>?_,fun o ho=>?_⟩
 all_goals
  simp only[List.mem_cons,List.mem_nil_iff,or_false]at ho
  rcases ho with rfl |rfl <;> simp[SObj.ok,bf,SV.ok,Fg,h1]
theorem fL(n:Nat):0<(uv n).length:=by
 by_cases h:n<128
 ·rw[cb h];simp
 ·rw[cI h];simp
theorem ia(L:List UInt8)(m:Nat):bytesOf (List.take L.length (List.map (fun b:UInt8=>(b.toNat:Int)) L++List.replicate m (0:Int)))=⟨L.toArray⟩:=by
 rw[ja,List.take_left' (by simp),List.map_map]
 congr 2
 refine(List.map_congr_left (g:=id) fun x _=>?_).trans (List.map_id L)
 simp
end
section
open Go Go.Rx Go.RowKit
noncomputable abbrev gG(x:PV)(k:Int):SObj:=(.cells [(.str x.name false),(.int .i64 k false),(.xs x.A x.n x.c),(.int .i64 0 true),(.bool x.path false),(.one .nilIface rfl)] 6 88 0 0)
noncomputable abbrev gH(s:ByteArray)(off:Nat):List SV:=[(.str s false),(.ptr 1 0),(.int .i64 ((↑off:Int)) false)]
noncomputable abbrev zu:ByteArray:=(ByteArray.mk #[99,111,109,112,111,110,101,110,116,32,115,105,122,101,32,109,105,115,109,97,116,99,104,58,32,33,61])
noncomputable abbrev rn(s:ByteArray)(x:PV)(c0:Nat):SObj:=(.ints .u8 (List.map (fun b=>(↑b.toNat:Int)) (#[].extract 0 0++s.data.extract 0 (0+((↑x.n:Int).toNat-0))++#[].extract (0+min ((↑x.n:Int).toNat-0) (s.data.size-0)) 0).toList++List.replicate (c0-(s.extract 0 (↑x.n:Int).toNat).size) (0:Int)) 5 c0 (c0+1))
theorem Oz(s:ByteArray)(off:Nat)(x:PV)(k:Int)(w:World)(bs:List Nat):am Tryz.prog iW 3000 91 [.ptr 0 0] (SS.mk (vO s off x k (0) Ec) [] true w bs) =
(.split (decide ((↑off:Int) > (↑s.size:Int))) (.leaf .ret [(.ifc 105 (.ptr 2 0))] (SS.mk [(.cells (gH s off) 3 64 0 0),(gG x k),(.cells [(.str (ByteArray.mk #[99,111,109,112,111,110,101,110,116,32,118,97,108,117,101,83,116,97,114,116,73,100,120,32,105,115,32,103,114,101,97,116,101,114,32,116,104,97,110,32,116,104,101,32,108,101,110,103,116,104,32,111,102,32,116,104,101,32,99,111,109,112,111,110,101,110,116,39,115,32,98,121,116,101,115]) true)] 1 107 0 0)] [] true w bs)) (.split ((↑x.n:Int) == (0:Int)) (.leaf .ret [(.ifc 105 (.ptr 2 0))] (SS.mk [(.cells (gH s off) 3 64 0 0),(gG x k),(.cells [(.str (ByteArray.mk #[67,111,109,112,111,110,101,110,116,32,105,115,32,109,105,115,115,105,110,103,32,105,116,115,32,112,114,111,116,111,99,111,108,39,115,32,86,67,111,100,101,32,102,105,101,108,100]) true)] 1 107 0 0)] [] true w bs)) (.split (decide ((↑s.size:Int)<(↑x.n:Int))) (.leaf .ret [(.ifc 105 (.ptr 2 0))] (SS.mk [(.cells (gH s off) 3 64 0 0),(gG x k),(.cells [(.str zu true)] 1 107 0 0)] [] true w bs)) (.need ((0:Int)<=(↑x.n:Int)/\(↑x.n:Int)<=(↑s.size:Int)) (.choose (.appendCap ((s.extract 0 (↑x.n:Int).toNat).size) 0 5) fun c0=>(.need (x.A=x.A/\x.n=x.n/\x.c=x.c) (.need (0=0) (.need (0+(s.extract 0 (↑x.n:Int).toNat).size<=(List.map (fun b=>(↑b.toNat:Int)) (#[].extract 0 0++s.data.extract 0 (0+((↑x.n:Int).toNat-0))++#[].extract (0+min ((↑x.n:Int).toNat-0) (s.data.size-0)) 0).toList++List.replicate (c0-(s.extract 0 (↑x.n:Int).toNat).size) (0:Int)).length) (.need (canBytes w bs x.A x.n) (.split (!(bytesOf (List.take (s.extract 0 (↑x.n:Int).toNat).size (List.drop 0 (List.map (fun b=>(↑b.toNat:Int)) (#[].extract 0 0++s.data.extract 0 (0+((↑x.n:Int).toNat-0))++#[].extract (0+min ((↑x.n:Int).toNat-0) (s.data.size-0)) 0).toList++List.replicate (c0-(s.extract 0 (↑x.n:Int).toNat).size) (0:Int))))).toList == (bytesAt w x.A x.n).toList) (.leaf .ret [(.ifc 105 (.ptr 3 0))] (SS.mk [(.cells (gH s off) 3 64 0 0),(gG x k),(rn s x c0),(.cells [(.str (ByteArray.mk #[99,111,109,112,111,110,101,110,116,39,115,32,86,67,111,100,101,32,102,105,101,108,100,32,105,115,32,105,110,118,97,108,105,100,58,32,33,61]) true)] 1 107 0 0)] [] true w bs)) (.need ((0:Int)<=(↑off:Int)/\(↑off:Int)<=(↑s.size:Int)) (.split (i64.wrap (Int.tdiv (0:Int) (8:Int)) != (↑(s.extract (↑off:Int).toNat s.size).size:Int)) (.leaf .ret [(.ifc 105 (.ptr 3 0))] (SS.mk [(.cells (gH s off) 3 64 0 0),(gG x k),(rn s x c0),(.cells [(.str (ByteArray.mk #[99,111,109,112,111,110,101,110,116,32,118,97,108,117,101,32,115,105,122,101,32,109,105,115,109,97,116,99,104,58,32,33,61]) true)] 1 107 0 0)] [] true w bs)) (.split (i64.wrap ((↑x.n:Int)+i64.wrap (Int.tdiv (0:Int) (8:Int))) != (↑s.size:Int)) (.leaf .ret [(.ifc 105 (.ptr 3 0))] (SS.mk [(.cells (gH s off) 3 64 0 0),(gG x k),(rn s x c0),(.cells [(.str zu true)] 1 107 0 0)] [] true w bs)) (.leaf .ret [(.one .nilIface rfl)] (SS.mk [(.cells (gH s off) 3 64 0 0),(gG x k),(rn s x c0)] [] true w bs))))))))))))))):=by kernel_rfl
theorem vN(s:ByteArray)(off:Nat)(x:PV)(k:Int)(w:World)(bs:List Nat):(by have h:=Oz s off x k w bs;unfold rn zu gH gG at h;exact type_of% h):=Oz s off x k w bs
theorem N9(s:ByteArray)(off:Nat)(x:PV)(k:Int)(w:World)(bs:List Nat):am Tryz.prog iW 3000 72 [.ptr 0 0] (SS.mk (vO s off x k (0) Ec) [] true w bs) =
(.leaf .ret [(.tup [(.str (ByteArray.mk #[]) true),(.one .nilIface rfl)])] (SS.mk [(.cells (gH s off) 3 64 0 0),(gG x k)] [] true w bs)):=by kernel_rfl
theorem eN(s:ByteArray)(off:Nat)(x:PV)(k:Int)(w:World)(bs:List Nat):(by have h:=N9 s off x k w bs;unfold gH gG at h;exact type_of% h):=N9 s off x k w bs
end
section
open Go Go.Rx Go.RowKit
theorem Jh{β:Nat->Nat}{w:World}(x:PV)(kn:Nat)(hx:x.n=(uv kn).length)(hk:(uv kn).length<20)(hat:aJ β (vO ⟨(uv kn++[]).toArray⟩ (uv kn).length x kn 0 Ec) w)(hlt:∀i,i<2->β i<w.heap.size)(hinj:∀i j,i<2->j<2->β i=β j->i=j)(hv:Bts w w.heap.size x.A x.n (uv kn))(hvn:∀ad,x.A=some ad->ad.block ∉ ac β 2)(ht:Tens w) :
  Calls Tryz.prog 91 #[.pointer (some ⟨β 0,0,none⟩)] w fun e w'=>e=.returned .nilIface/\Below w.heap.size w w':=by
 obtain⟨nm,A0,n0,cc,sz,pth,tr⟩:=x
 dsimp only at hx hv hvn
 subst hx
 obtain⟨o1,o2,o3⟩:=dY ⟨(uv kn++[]).toArray⟩ (uv kn).length ⟨nm,A0,(uv kn).length,cc,sz,pth,tr⟩ kn 0 Ec (by simp[Ec,SV.ok,bf])
 have hst:=St.head (P:=Tryz.prog) (Q:=bC fun v w'=>v=.nilIface/\Below w.heap.size w w') o1 hlt hinj hat o2
 refine(gx (hk:=iW) (n:=3000) (args:=[.ptr 0 0]) (Q:=fun v w'=>v=.nilIface/\Below w.heap.size w w') hst ⟨by simp[SV.ok,SS.n],trivial⟩ ?_).mono ?_
 rotate_left
 ·rintro e w' ⟨v,rfl,rfl,h2⟩
  exact⟨rfl,h2⟩
 have hp:=fL kn
 have hL:(uv kn++[]).length=(uv kn).length+0:=by simp
 refine ah (vN _ _ _ kn w (ac β 2)) ?_
 have m1:min (uv kn).length ((uv kn).length+0)=(uv kn).length:=by omega
 have t2:List.take ((uv kn).length+0) (uv kn++[])=uv kn++[]:=List.take_of_length_le (by simp)
 simp only[jf,jg,aB,hL,Int.toNat_natCast,m1,t2,Nat.sub_zero,Nat.zero_add,List.drop_zero,List.take_left,List.drop_left,Nat.min_self,Nat.add_sub_cancel_left,Nat.add_sub_cancel' (Nat.le_add_right _ _)]
 have below:∀ {Γ:Ctx}{β':Nat->Nat}{s:SS}{w':World},Γ={ P:=Tryz.prog,β0:=β,n0:=2,Q:=bC fun v w'=>v=.nilIface/\Below w.heap.size w w' }->St Γ β' s w'->s.objs.take 2=vO ⟨(uv kn++[]).toArray⟩ (uv kn).length ⟨nm,A0,(uv kn).length,cc,sz,pth,tr⟩ kn 0 Ec->Keep (ac β 2) w w'->Below w.heap.size w w':=by
  rintro Γ β' s w' rfl hs ho hk
  exact br hk hat (hs.objsAt ho o2) o1 o3
 refine ak (fun h=>by omega) (fun _=>af (fun h=>by have:=eq_of_beq h;omega) (fun _=>ak (fun h=>by omega) (fun _=>aa (by omega) (aE ?_))))
 rintro c0 ⟨_,hc0⟩
 refine aa (by simp) (aa trivial (aa (by simp) (aa (hv.canBytesN (Nat.le_refl _) hvn) (af (fun h=>?_) (fun _=>?_)))))
 ·rw[hv.bytesAt,ia]at h
  simp at h
 have w2:i64.wrap (Int.tdiv 0 8)=0:=by decide
 refine aa (by omega) (af (fun h=>absurd h (by decide)) (fun _=>af (fun h=>?_) (fun _=>?_)))
 ·rw[w2,ax (by omega) (by omega)]at h
  simp at h
 exact aM (w:=w) (bs:=ac β 2) ⟨rfl,Keep.refl _ _,fun b hb=>.inl hb⟩ fun β' w' hs hk=>⟨_,rfl,rfl,below rfl hs rfl hk⟩
end
section
open Go Go.Rx Go.RowKit
noncomputable abbrev nJ(s:ByteArray)(off c1:Nat):SObj:=(.ints .u8 (List.map (fun b=>(↑b.toNat:Int)) (#[].extract 0 0++s.data.extract (↑off:Int).toNat ((↑off:Int).toNat+(s.size-(↑off:Int).toNat))++#[].extract (0+min (s.size-(↑off:Int).toNat) (s.data.size-(↑off:Int).toNat)) 0).toList++List.replicate (c1-(s.extract (↑off:Int).toNat s.size).size) (0:Int)) 5 c1 (c1+1))
noncomputable abbrev lz:List SV:=[(.fn (.func 165) [] []),(.fn (.func 166) [] []),(.one .nilFunc rfl)]
noncomputable abbrev fV(x:PV)(k:Int):List SV:=[(.str x.name false),(.int .i64 k false),(.xs x.A x.n x.c),(.int .i64 16 true),(.bool x.path false),(.ifc 147 (.agg lz))]
noncomputable abbrev fW(s:ByteArray)(off:Nat):List SV:=[(.str s false),(.ptr 1 0),(.int .i64 ((↑off:Int)) false)]
noncomputable abbrev ro(s:ByteArray)(off c1 k0_:Nat):SV:=(.slc k0_ 0 ((s.extract (↑off:Int).toNat s.size).size) c1 false false)
noncomputable abbrev nK(off:Nat)(s:ByteArray):Prop:=((0:Int)<=(↑off:Int)/\(↑off:Int)<=(↑s.size:Int))
noncomputable abbrev zv:ByteArray:=(ByteArray.mk #[99,111,109,112,111,110,101,110,116,32,115,105,122,101,32,109,105,115,109,97,116,99,104,58,32,33,61])
noncomputable abbrev nL(s:ByteArray)(x:PV)(c0:Nat):SObj:=(.ints .u8 (List.map (fun b=>(↑b.toNat:Int)) (#[].extract 0 0++s.data.extract 0 (0+((↑x.n:Int).toNat-0))++#[].extract (0+min ((↑x.n:Int).toNat-0) (s.data.size-0)) 0).toList++List.replicate (c0-(s.extract 0 (↑x.n:Int).toNat).size) (0:Int)) 5 c0 (c0+1))
noncomputable abbrev zw(s:ByteArray)(off:Nat)(x:PV)(k:Int)(c0 c1 c3:Nat):List SObj:=[(.cells (fW s off) 3 64 0 0),(.cells (fV x k) 6 88 0 0),(nL s x c0),(nJ s off c1),(.cells lz 3 147 0 0),(nJ s off c3)]
theorem OA(s:ByteArray)(off:Nat)(x:PV)(k:Int)(w:World)(bs:List Nat):am Tryz.prog iW 3000 91 [.ptr 0 0] (SS.mk (vO s off x k (16) Cc) [] true w bs) =
(.split (decide ((↑off:Int) > (↑s.size:Int))) (.leaf .ret [(.ifc 105 (.ptr 2 0))] (SS.mk [(.cells (fW s off) 3 64 0 0),(.cells (fV x k) 6 88 0 0),(.cells [(.str (ByteArray.mk #[99,111,109,112,111,110,101,110,116,32,118,97,108,117,101,83,116,97,114,116,73,100,120,32,105,115,32,103,114,101,97,116,101,114,32,116,104,97,110,32,116,104,101,32,108,101,110,103,116,104,32,111,102,32,116,104,101,32,99,111,109,112,111,110,101,110,116,39,115,32,98,121,116,101,115]) true)] 1 107 0 0)] [] true w bs)) (.split ((↑x.n:Int) == (0:Int)) (.leaf .ret [(.ifc 105 (.ptr 2 0))] (SS.mk [(.cells (fW s off) 3 64 0 0),(.cells (fV x k) 6 88 0 0),(.cells [(.str (ByteArray.mk #[67,111,109,112,111,110,101,110,116,32,105,115,32,109,105,115,115,105,110,103,32,105,116,115,32,112,114,111,116,111,99,111,108,39,115,32,86,67,111,100,101,32,102,105,101,108,100]) true)] 1 107 0 0)] [] true w bs)) (.split (decide ((↑s.size:Int)<(↑x.n:Int))) (.leaf .ret [(.ifc 105 (.ptr 2 0))] (SS.mk [(.cells (fW s off) 3 64 0 0),(.cells (fV x k) 6 88 0 0),(.cells [(.str zv true)] 1 107 0 0)] [] true w bs)) (.need ((0:Int)<=(↑x.n:Int)/\(↑x.n:Int)<=(↑s.size:Int)) (.choose (.appendCap ((s.extract 0 (↑x.n:Int).toNat).size) 0 5) fun c0=>(.need (x.A=x.A/\x.n=x.n/\x.c=x.c) (.need (0=0) (.need (0+(s.extract 0 (↑x.n:Int).toNat).size<=(List.map (fun b=>(↑b.toNat:Int)) (#[].extract 0 0++s.data.extract 0 (0+((↑x.n:Int).toNat-0))++#[].extract (0+min ((↑x.n:Int).toNat-0) (s.data.size-0)) 0).toList++List.replicate (c0-(s.extract 0 (↑x.n:Int).toNat).size) (0:Int)).length) (.need (canBytes w bs x.A x.n) (.split (!(bytesOf (List.take (s.extract 0 (↑x.n:Int).toNat).size (List.drop 0 (List.map (fun b=>(↑b.toNat:Int)) (#[].extract 0 0++s.data.extract 0 (0+((↑x.n:Int).toNat-0))++#[].extract (0+min ((↑x.n:Int).toNat-0) (s.data.size-0)) 0).toList++List.replicate (c0-(s.extract 0 (↑x.n:Int).toNat).size) (0:Int))))).toList == (bytesAt w x.A x.n).toList) (.leaf .ret [(.ifc 105 (.ptr 3 0))] (SS.mk [(.cells (fW s off) 3 64 0 0),(.cells (fV x k) 6 88 0 0),(nL s x c0),(.cells [(.str (ByteArray.mk #[99,111,109,112,111,110,101,110,116,39,115,32,86,67,111,100,101,32,102,105,101,108,100,32,105,115,32,105,110,118,97,108,105,100,58,32,33,61]) true)] 1 107 0 0)] [] true w bs)) (.need (nK off s) (.split (i64.wrap (Int.tdiv (16:Int) (8:Int)) != (↑(s.extract (↑off:Int).toNat s.size).size:Int)) (.leaf .ret [(.ifc 105 (.ptr 3 0))] (SS.mk [(.cells (fW s off) 3 64 0 0),(.cells (fV x k) 6 88 0 0),(nL s x c0),(.cells [(.str (ByteArray.mk #[99,111,109,112,111,110,101,110,116,32,118,97,108,117,101,32,115,105,122,101,32,109,105,115,109,97,116,99,104,58,32,33,61]) true)] 1 107 0 0)] [] true w bs)) (.split (i64.wrap ((↑x.n:Int)+i64.wrap (Int.tdiv (16:Int) (8:Int))) != (↑s.size:Int)) (.leaf .ret [(.ifc 105 (.ptr 3 0))] (SS.mk [(.cells (fW s off) 3 64 0 0),(.cells (fV x k) 6 88 0 0),(nL s x c0),(.cells [(.str zv true)] 1 107 0 0)] [] true w bs)) (.need (nK off s) (.choose (.appendCap ((s.extract (↑off:Int).toNat s.size).size) 0 5) fun c1=>(.need (Fn.func 165=Fn.func 165) (.need (Fn.func 166=Fn.func 166) (.need (Value.nilFunc=Value.nilFunc) (.need (0=0) (.hc 166 [(ro s off c1 3)] (SS.mk [(.cells (fW s off) 3 64 0 0),(.cells (fV x k) 6 88 0 0),(nL s x c0),(nJ s off c1),(.cells lz 3 147 0 0)] [] true w bs) (cV) fun x2 w2 b2=>(.need (nK off s) (.choose (.appendCap ((s.extract (↑off:Int).toNat s.size).size) 0 5) fun c3=>(.need (Fn.func 165=Fn.func 165) (.need (Fn.func 166=Fn.func 166) (.need (Value.nilFunc=Value.nilFunc) (.need (0=0) (.hc 391 [(.agg lz),(ro s off c3 5)] (SS.mk (zw s off x k c0 c1 c3) [] true w2 b2) (dN) fun x4 w4 b4=>(.leaf .ret [(.one .nilIface rfl)] (SS.mk (zw s off x k c0 c1 c3) [] true w4 b4))))))))))))))))))))))))))))):=by kernel_rfl
theorem vP(s:ByteArray)(off:Nat)(x:PV)(k:Int)(w:World)(bs:List Nat):(by have h:=OA s off x k w bs;unfold zw nL zv nK ro fW fV lz nJ at h;exact type_of% h):=OA s off x k w bs
noncomputable abbrev uS(s:ByteArray)(off:Nat)(x:PV)(k:Int)(c0:Nat):List SObj:=[(.cells (fW s off) 3 64 0 0),(.cells (fV x k) 6 88 0 0),(nJ s off c0),(.cells lz 3 147 0 0)]
theorem Oa(s:ByteArray)(off:Nat)(x:PV)(k:Int)(w:World)(bs:List Nat):am Tryz.prog iW 3000 72 [.ptr 0 0] (SS.mk (vO s off x k (16) Cc) [] true w bs) =
(.need (nK off s) (.choose (.appendCap ((s.extract (↑off:Int).toNat s.size).size) 0 5) fun c0=>(.need (Fn.func 165=Fn.func 165) (.need (Fn.func 166=Fn.func 166) (.need (Value.nilFunc=Value.nilFunc) (.need (0=0) (.hc 166 [(ro s off c0 2)] (SS.mk (uS s off x k c0) [] true w bs) (cV) fun x1 w1 b1=>(.leaf .ret [(.tup [(.str x1 false),(.one .nilIface rfl)])] (SS.mk (uS s off x k c0) [] true w1 b1))))))))):=by kernel_rfl
theorem eP(s:ByteArray)(off:Nat)(x:PV)(k:Int)(w:World)(bs:List Nat):(by have h:=Oa s off x k w bs;unfold uS nK ro fW fV lz nJ at h;exact type_of% h):=Oa s off x k w bs
end
section
open Go Go.Rx Go.RowKit
theorem Ji{β:Nat->Nat}{w:World}(x:PV)(kn:Nat)(a b:UInt8)(hx:x.n=(uv kn).length)(hk:(uv kn).length<20)(hat:aJ β (vO ⟨(uv kn++[a,b]).toArray⟩ (uv kn).length x kn 16 Cc) w)(hlt:∀i,i<2->β i<w.heap.size)(hinj:∀i j,i<2->j<2->β i=β j->i=j)(hv:Bts w w.heap.size x.A x.n (uv kn))(hvn:∀ad,x.A=some ad->ad.block ∉ ac β 2)(ht:Tens w) :
  Calls Tryz.prog 91 #[.pointer (some ⟨β 0,0,none⟩)] w fun e w'=>e=.returned .nilIface/\Below w.heap.size w w':=by
 obtain⟨nm,A0,n0,cc,sz,pth,tr⟩:=x
 dsimp only at hx hv hvn
 subst hx
 obtain⟨o1,o2,o3⟩:=dY ⟨(uv kn++[a,b]).toArray⟩ (uv kn).length ⟨nm,A0,(uv kn).length,cc,sz,pth,tr⟩ kn 16 Cc (by simp[Cc,SV.ok,bf])
 have hst:=St.head (P:=Tryz.prog) (Q:=bC fun v w'=>v=.nilIface/\Below w.heap.size w w') o1 hlt hinj hat o2
 refine(gx (hk:=iW) (n:=3000) (args:=[.ptr 0 0]) (Q:=fun v w'=>v=.nilIface/\Below w.heap.size w w') hst ⟨by simp[SV.ok,SS.n],trivial⟩ ?_).mono ?_
 rotate_left
 ·rintro e w' ⟨v,rfl,rfl,h2⟩
  exact⟨rfl,h2⟩
 have hp:=fL kn
 have hL:(uv kn++[a,b]).length=(uv kn).length+2:=by simp
 refine ah (vP _ _ _ kn w (ac β 2)) ?_
 have m1:min (uv kn).length ((uv kn).length+2)=(uv kn).length:=by omega
 have t2:List.take ((uv kn).length+2) (uv kn++[a,b])=uv kn++[a,b]:=List.take_of_length_le (by simp)
 simp only[jf,jg,aB,hL,Int.toNat_natCast,m1,t2,Nat.sub_zero,Nat.zero_add,List.drop_zero,List.take_left,List.drop_left,Nat.min_self,Nat.add_sub_cancel_left,Nat.add_sub_cancel' (Nat.le_add_right _ _)]
 have below:∀ {Γ:Ctx}{β':Nat->Nat}{s:SS}{w':World},Γ={ P:=Tryz.prog,β0:=β,n0:=2,Q:=bC fun v w'=>v=.nilIface/\Below w.heap.size w w' }->St Γ β' s w'->s.objs.take 2=vO ⟨(uv kn++[a,b]).toArray⟩ (uv kn).length ⟨nm,A0,(uv kn).length,cc,sz,pth,tr⟩ kn 16 Cc->Keep (ac β 2) w w'->Below w.heap.size w w':=by
  rintro Γ β' s w' rfl hs ho hk
  exact br hk hat (hs.objsAt ho o2) o1 o3
 refine ak (fun h=>by omega) (fun _=>af (fun h=>by have:=eq_of_beq h;omega) (fun _=>ak (fun h=>by omega) (fun _=>aa (by omega) (aE ?_))))
 rintro c0 ⟨_,hc0⟩
 refine aa (by simp) (aa trivial (aa (by simp) (aa (hv.canBytesN (Nat.le_refl _) hvn) (af (fun h=>?_) (fun _=>?_)))))
 ·rw[hv.bytesAt,ia]at h
  simp at h
 have w2:i64.wrap (Int.tdiv 16 8)=2:=by decide
 refine aa (by omega) (af (fun h=>absurd h (by decide)) (fun _=>af (fun h=>?_) (fun _=>aa (by omega) (aE ?_))))
 ·rw[w2,ax (by omega) (by omega)]at h
  simp at h
 rintro c1 ⟨_,hc1⟩
 have hcut1:2<=c1:=hc1 ▸ bd
 refine aa trivial (aa trivial (aa trivial (aa trivial ?_)))
 refine bZ (w:=w) (bs:=ac β 2) (R:=fun(_:ByteArray) _ _=>True) ⟨rfl,Keep.refl _ _,fun b hb=>.inl hb⟩ (fun x=>⟨rfl,trivial,trivial,trivial⟩) (fun β' wc hs o hk=>?_) ?_
 ·have hbw:=below rfl hs rfl hk
  have h4:=hs.at_ 3 _ rfl
  have hb:=bp (n:=2) h4 rfl (hs.lt 3 (by simp[SS.n]))
  refine(AC _ _ a b _ wc hb (Nat.le_refl _) (ht.below hbw ht.lt)).mono ?_
  rintro e w' ⟨v,rfl,rfl,hb'⟩
  exact⟨_,rfl,hb',trivial⟩
 rintro x2 wc2 w2' b2 hk2 _ hb2 hkw2 hbs2
 refine aa (by omega) (aE ?_)
 rintro c3 ⟨_,hc3⟩
 refine aa trivial (aa trivial (aa trivial (aa trivial ?_)))
 refine bZ (w:=w) (bs:=ac β 2) (R:=fun(_:Unit) _ _=>True) ⟨rfl,hkw2,hbs2⟩ (fun x=>⟨rfl,trivial⟩) (fun β' wc hs o hk=>?_) ?_
 ·refine(es (.func 165) (.func 166) _ wc).mono ?_
  rintro e w' ⟨rfl,hb'⟩
  exact⟨(),rfl,hb',trivial⟩
 rintro x4 wc4 w4 b4 hk4 _ hb4 hkw4 hbs4
 exact aM (w:=w) (bs:=ac β 2) ⟨rfl,hkw4,hbs4⟩ fun β' w' hs hk=>⟨_,rfl,rfl,below rfl hs rfl hk⟩
end
section
open Go Go.Rx Go.RowKit
noncomputable abbrev nC(s:ByteArray)(off c1:Nat):SObj:=(.ints .u8 (List.map (fun b=>(↑b.toNat:Int)) (#[].extract 0 0++s.data.extract (↑off:Int).toNat ((↑off:Int).toNat+(s.size-(↑off:Int).toNat))++#[].extract (0+min (s.size-(↑off:Int).toNat) (s.data.size-(↑off:Int).toNat)) 0).toList++List.replicate (c1-(s.extract (↑off:Int).toNat s.size).size) (0:Int)) 5 c1 (c1+1))
noncomputable abbrev lq:List SV:=[(.fn (.func 163) [] []),(.fn (.func 164) [] []),(.one .nilFunc rfl)]
noncomputable abbrev fR(x:PV)(k:Int):List SV:=[(.str x.name false),(.int .i64 k false),(.xs x.A x.n x.c),(.int .i64 32 true),(.bool x.path false),(.ifc 147 (.agg lq))]
noncomputable abbrev fS(s:ByteArray)(off:Nat):List SV:=[(.str s false),(.ptr 1 0),(.int .i64 ((↑off:Int)) false)]
noncomputable abbrev rk(s:ByteArray)(off c1 k0_:Nat):SV:=(.slc k0_ 0 ((s.extract (↑off:Int).toNat s.size).size) c1 false false)
noncomputable abbrev nD(off:Nat)(s:ByteArray):Prop:=((0:Int)<=(↑off:Int)/\(↑off:Int)<=(↑s.size:Int))
noncomputable abbrev zp:ByteArray:=(ByteArray.mk #[99,111,109,112,111,110,101,110,116,32,115,105,122,101,32,109,105,115,109,97,116,99,104,58,32,33,61])
noncomputable abbrev nF(s:ByteArray)(x:PV)(c0:Nat):SObj:=(.ints .u8 (List.map (fun b=>(↑b.toNat:Int)) (#[].extract 0 0++s.data.extract 0 (0+((↑x.n:Int).toNat-0))++#[].extract (0+min ((↑x.n:Int).toNat-0) (s.data.size-0)) 0).toList++List.replicate (c0-(s.extract 0 (↑x.n:Int).toNat).size) (0:Int)) 5 c0 (c0+1))
noncomputable abbrev zq(s:ByteArray)(off:Nat)(x:PV)(k:Int)(c0 c1 c3:Nat):List SObj:=[(.cells (fS s off) 3 64 0 0),(.cells (fR x k) 6 88 0 0),(nF s x c0),(nC s off c1),(.cells lq 3 147 0 0),(nC s off c3)]
theorem Ox(s:ByteArray)(off:Nat)(x:PV)(k:Int)(w:World)(bs:List Nat):am Tryz.prog iW 3000 91 [.ptr 0 0] (SS.mk (vO s off x k (32) Ca) [] true w bs) =
(.split (decide ((↑off:Int) > (↑s.size:Int))) (.leaf .ret [(.ifc 105 (.ptr 2 0))] (SS.mk [(.cells (fS s off) 3 64 0 0),(.cells (fR x k) 6 88 0 0),(.cells [(.str (ByteArray.mk #[99,111,109,112,111,110,101,110,116,32,118,97,108,117,101,83,116,97,114,116,73,100,120,32,105,115,32,103,114,101,97,116,101,114,32,116,104,97,110,32,116,104,101,32,108,101,110,103,116,104,32,111,102,32,116,104,101,32,99,111,109,112,111,110,101,110,116,39,115,32,98,121,116,101,115]) true)] 1 107 0 0)] [] true w bs)) (.split ((↑x.n:Int) == (0:Int)) (.leaf .ret [(.ifc 105 (.ptr 2 0))] (SS.mk [(.cells (fS s off) 3 64 0 0),(.cells (fR x k) 6 88 0 0),(.cells [(.str (ByteArray.mk #[67,111,109,112,111,110,101,110,116,32,105,115,32,109,105,115,115,105,110,103,32,105,116,115,32,112,114,111,116,111,99,111,108,39,115,32,86,67,111,100,101,32,102,105,101,108,100]) true)] 1 107 0 0)] [] true w bs)) (.split (decide ((↑s.size:Int)<(↑x.n:Int))) (.leaf .ret [(.ifc 105 (.ptr 2 0))] (SS.mk [(.cells (fS s off) 3 64 0 0),(.cells (fR x k) 6 88 0 0),(.cells [(.str zp true)] 1 107 0 0)] [] true w bs)) (.need ((0:Int)<=(↑x.n:Int)/\(↑x.n:Int)<=(↑s.size:Int)) (.choose (.appendCap ((s.extract 0 (↑x.n:Int).toNat).size) 0 5) fun c0=>(.need (x.A=x.A/\x.n=x.n/\x.c=x.c) (.need (0=0) (.need (0+(s.extract 0 (↑x.n:Int).toNat).size<=(List.map (fun b=>(↑b.toNat:Int)) (#[].extract 0 0++s.data.extract 0 (0+((↑x.n:Int).toNat-0))++#[].extract (0+min ((↑x.n:Int).toNat-0) (s.data.size-0)) 0).toList++List.replicate (c0-(s.extract 0 (↑x.n:Int).toNat).size) (0:Int)).length) (.need (canBytes w bs x.A x.n) (.split (!(bytesOf (List.take (s.extract 0 (↑x.n:Int).toNat).size (List.drop 0 (List.map (fun b=>(↑b.toNat:Int)) (#[].extract 0 0++s.data.extract 0 (0+((↑x.n:Int).toNat-0))++#[].extract (0+min ((↑x.n:Int).toNat-0) (s.data.size-0)) 0).toList++List.replicate (c0-(s.extract 0 (↑x.n:Int).toNat).size) (0:Int))))).toList == (bytesAt w x.A x.n).toList) (.leaf .ret [(.ifc 105 (.ptr 3 0))] (SS.mk [(.cells (fS s off) 3 64 0 0),(.cells (fR x k) 6 88 0 0),(nF s x c0),(.cells [(.str (ByteArray.mk #[99,111,109,112,111,110,101,110,116,39,115,32,86,67,111,100,101,32,102,105,101,108,100,32,105,115,32,105,110,118,97,108,105,100,58,32,33,61]) true)] 1 107 0 0)] [] true w bs)) (.need (nD off s) (.split (i64.wrap (Int.tdiv (32:Int) (8:Int)) != (↑(s.extract (↑off:Int).toNat s.size).size:Int)) (.leaf .ret [(.ifc 105 (.ptr 3 0))] (SS.mk [(.cells (fS s off) 3 64 0 0),(.cells (fR x k) 6 88 0 0),(nF s x c0),(.cells [(.str (ByteArray.mk #[99,111,109,112,111,110,101,110,116,32,118,97,108,117,101,32,115,105,122,101,32,109,105,115,109,97,116,99,104,58,32,33,61]) true)] 1 107 0 0)] [] true w bs)) (.split (i64.wrap ((↑x.n:Int)+i64.wrap (Int.tdiv (32:Int) (8:Int))) != (↑s.size:Int)) (.leaf .ret [(.ifc 105 (.ptr 3 0))] (SS.mk [(.cells (fS s off) 3 64 0 0),(.cells (fR x k) 6 88 0 0),(nF s x c0),(.cells [(.str zp true)] 1 107 0 0)] [] true w bs)) (.need (nD off s) (.choose (.appendCap ((s.extract (↑off:Int).toNat s.size).size) 0 5) fun c1=>(.need (Fn.func 163=Fn.func 163) (.need (Fn.func 164=Fn.func 164) (.need (Value.nilFunc=Value.nilFunc) (.need (0=0) (.hc 164 [(rk s off c1 3)] (SS.mk [(.cells (fS s off) 3 64 0 0),(.cells (fR x k) 6 88 0 0),(nF s x c0),(nC s off c1),(.cells lq 3 147 0 0)] [] true w bs) (cV) fun x2 w2 b2=>(.need (nD off s) (.choose (.appendCap ((s.extract (↑off:Int).toNat s.size).size) 0 5) fun c3=>(.need (Fn.func 163=Fn.func 163) (.need (Fn.func 164=Fn.func 164) (.need (Value.nilFunc=Value.nilFunc) (.need (0=0) (.hc 391 [(.agg lq),(rk s off c3 5)] (SS.mk (zq s off x k c0 c1 c3) [] true w2 b2) (dN) fun x4 w4 b4=>(.leaf .ret [(.one .nilIface rfl)] (SS.mk (zq s off x k c0 c1 c3) [] true w4 b4))))))))))))))))))))))))))))):=by kernel_rfl
theorem vF(s:ByteArray)(off:Nat)(x:PV)(k:Int)(w:World)(bs:List Nat):(by have h:=Ox s off x k w bs;unfold zq nF zp nD rk fS fR lq nC at h;exact type_of% h):=Ox s off x k w bs
noncomputable abbrev uQ(s:ByteArray)(off:Nat)(x:PV)(k:Int)(c0:Nat):List SObj:=[(.cells (fS s off) 3 64 0 0),(.cells (fR x k) 6 88 0 0),(nC s off c0),(.cells lq 3 147 0 0)]
theorem N7(s:ByteArray)(off:Nat)(x:PV)(k:Int)(w:World)(bs:List Nat):am Tryz.prog iW 3000 72 [.ptr 0 0] (SS.mk (vO s off x k (32) Ca) [] true w bs) =
(.need (nD off s) (.choose (.appendCap ((s.extract (↑off:Int).toNat s.size).size) 0 5) fun c0=>(.need (Fn.func 163=Fn.func 163) (.need (Fn.func 164=Fn.func 164) (.need (Value.nilFunc=Value.nilFunc) (.need (0=0) (.hc 164 [(rk s off c0 2)] (SS.mk (uQ s off x k c0) [] true w bs) (cV) fun x1 w1 b1=>(.leaf .ret [(.tup [(.str x1 false),(.one .nilIface rfl)])] (SS.mk (uQ s off x k c0) [] true w1 b1))))))))):=by kernel_rfl
theorem eF(s:ByteArray)(off:Nat)(x:PV)(k:Int)(w:World)(bs:List Nat):(by have h:=N7 s off x k w bs;unfold uQ nD rk fS fR lq nC at h;exact type_of% h):=N7 s off x k w bs
end
section
open Go Go.Rx Go.RowKit
theorem Jf{β:Nat->Nat}{w:World}(x:PV)(kn:Nat)(a b c d:UInt8)(hx:x.n=(uv kn).length)(hk:(uv kn).length<20)(hat:aJ β (vO ⟨(uv kn++[a,b,c,d]).toArray⟩ (uv kn).length x kn 32 Ca) w)(hlt:∀i,i<2->β i<w.heap.size)(hinj:∀i j,i<2->j<2->β i=β j->i=j)(hv:Bts w w.heap.size x.A x.n (uv kn))(hvn:∀ad,x.A=some ad->ad.block ∉ ac β 2)(ht:Tens w) :
  Calls Tryz.prog 91 #[.pointer (some ⟨β 0,0,none⟩)] w fun e w'=>e=.returned .nilIface/\Below w.heap.size w w':=by
 obtain⟨nm,A0,n0,cc,sz,pth,tr⟩:=x
 dsimp only at hx hv hvn
 subst hx
 obtain⟨o1,o2,o3⟩:=dY ⟨(uv kn++[a,b,c,d]).toArray⟩ (uv kn).length ⟨nm,A0,(uv kn).length,cc,sz,pth,tr⟩ kn 32 Ca (by simp[Ca,SV.ok,bf])
 have hst:=St.head (P:=Tryz.prog) (Q:=bC fun v w'=>v=.nilIface/\Below w.heap.size w w') o1 hlt hinj hat o2
 refine(gx (hk:=iW) (n:=3000) (args:=[.ptr 0 0]) (Q:=fun v w'=>v=.nilIface/\Below w.heap.size w w') hst ⟨by simp[SV.ok,SS.n],trivial⟩ ?_).mono ?_
 rotate_left
 ·rintro e w' ⟨v,rfl,rfl,h2⟩
  exact⟨rfl,h2⟩
 have hp:=fL kn
 have hL:(uv kn++[a,b,c,d]).length=(uv kn).length+4:=by simp
 refine ah (vF _ _ _ kn w (ac β 2)) ?_
 have m1:min (uv kn).length ((uv kn).length+4)=(uv kn).length:=by omega
 have t2:List.take ((uv kn).length+4) (uv kn++[a,b,c,d])=uv kn++[a,b,c,d]:=List.take_of_length_le (by simp)
 simp only[jf,jg,aB,hL,Int.toNat_natCast,m1,t2,Nat.sub_zero,Nat.zero_add,List.drop_zero,List.take_left,List.drop_left,Nat.min_self,Nat.add_sub_cancel_left,Nat.add_sub_cancel' (Nat.le_add_right _ _)]
 have below:∀ {Γ:Ctx}{β':Nat->Nat}{s:SS}{w':World},Γ={ P:=Tryz.prog,β0:=β,n0:=2,Q:=bC fun v w'=>v=.nilIface/\Below w.heap.size w w' }->St Γ β' s w'->s.objs.take 2=vO ⟨(uv kn++[a,b,c,d]).toArray⟩ (uv kn).length ⟨nm,A0,(uv kn).length,cc,sz,pth,tr⟩ kn 32 Ca->Keep (ac β 2) w w'->Below w.heap.size w w':=by
  rintro Γ β' s w' rfl hs ho hk
  exact br hk hat (hs.objsAt ho o2) o1 o3
 refine ak (fun h=>by omega) (fun _=>af (fun h=>by have:=eq_of_beq h;omega) (fun _=>ak (fun h=>by omega) (fun _=>aa (by omega) (aE ?_))))
 rintro c0 ⟨_,hc0⟩
 refine aa (by simp) (aa trivial (aa (by simp) (aa (hv.canBytesN (Nat.le_refl _) hvn) (af (fun h=>?_) (fun _=>?_)))))
 ·rw[hv.bytesAt,ia]at h
  simp at h
 have w2:i64.wrap (Int.tdiv 32 8)=4:=by decide
 refine aa (by omega) (af (fun h=>absurd h (by decide)) (fun _=>af (fun h=>?_) (fun _=>aa (by omega) (aE ?_))))
 ·rw[w2,ax (by omega) (by omega)]at h
  simp at h
 rintro c1 ⟨_,hc1⟩
 have hcut1:4<=c1:=hc1 ▸ bd
 refine aa trivial (aa trivial (aa trivial (aa trivial ?_)))
 refine bZ (w:=w) (bs:=ac β 2) (R:=fun(_:ByteArray) _ _=>True) ⟨rfl,Keep.refl _ _,fun b hb=>.inl hb⟩ (fun x=>⟨rfl,trivial,trivial,trivial⟩) (fun β' wc hs o hk=>?_) ?_
 ·have hbw:=below rfl hs rfl hk
  have h4:=hs.at_ 3 _ rfl
  have hb:=bp (n:=4) h4 rfl (hs.lt 3 (by simp[SS.n]))
  refine(CJ _ _ _ a b c d _ wc hb hcut1 (Nat.le_refl _) (ht.below hbw ht.lt)).mono ?_
  rintro e w' ⟨v,rfl,rfl,hb'⟩
  exact⟨_,rfl,hb',trivial⟩
 rintro x2 wc2 w2' b2 hk2 _ hb2 hkw2 hbs2
 refine aa (by omega) (aE ?_)
 rintro c3 ⟨_,hc3⟩
 refine aa trivial (aa trivial (aa trivial (aa trivial ?_)))
 refine bZ (w:=w) (bs:=ac β 2) (R:=fun(_:Unit) _ _=>True) ⟨rfl,hkw2,hbs2⟩ (fun x=>⟨rfl,trivial⟩) (fun β' wc hs o hk=>?_) ?_
 ·refine(es (.func 163) (.func 164) _ wc).mono ?_
  rintro e w' ⟨rfl,hb'⟩
  exact⟨(),rfl,hb',trivial⟩
 rintro x4 wc4 w4 b4 hk4 _ hb4 hkw4 hbs4
 exact aM (w:=w) (bs:=ac β 2) ⟨rfl,hkw4,hbs4⟩ fun β' w' hs hk=>⟨_,rfl,rfl,below rfl hs rfl hk⟩
end
section
open Go Go.Rx Go.RowKit
noncomputable abbrev nM(s:ByteArray)(off c1:Nat):SObj:=(.ints .u8 (List.map (fun b=>(↑b.toNat:Int)) (#[].extract 0 0++s.data.extract (↑off:Int).toNat ((↑off:Int).toNat+(s.size-(↑off:Int).toNat))++#[].extract (0+min (s.size-(↑off:Int).toNat) (s.data.size-(↑off:Int).toNat)) 0).toList++List.replicate (c1-(s.extract (↑off:Int).toNat s.size).size) (0:Int)) 5 c1 (c1+1))
noncomputable abbrev lA:List SV:=[(.fn (.func 170) [] []),(.fn (.func 171) [] []),(.one .nilFunc rfl)]
noncomputable abbrev fX(x:PV)(k:Int):List SV:=[(.str x.name false),(.int .i64 k false),(.xs x.A x.n x.c),(.int .i64 128 true),(.bool x.path false),(.ifc 147 (.agg lA))]
noncomputable abbrev fY(s:ByteArray)(off:Nat):List SV:=[(.str s false),(.ptr 1 0),(.int .i64 ((↑off:Int)) false)]
noncomputable abbrev rp(s:ByteArray)(off c1 k0_:Nat):SV:=(.slc k0_ 0 ((s.extract (↑off:Int).toNat s.size).size) c1 false false)
noncomputable abbrev nN(off:Nat)(s:ByteArray):Prop:=((0:Int)<=(↑off:Int)/\(↑off:Int)<=(↑s.size:Int))
noncomputable abbrev zx:ByteArray:=(ByteArray.mk #[99,111,109,112,111,110,101,110,116,32,115,105,122,101,32,109,105,115,109,97,116,99,104,58,32,33,61])
noncomputable abbrev nP(s:ByteArray)(x:PV)(c0:Nat):SObj:=(.ints .u8 (List.map (fun b=>(↑b.toNat:Int)) (#[].extract 0 0++s.data.extract 0 (0+((↑x.n:Int).toNat-0))++#[].extract (0+min ((↑x.n:Int).toNat-0) (s.data.size-0)) 0).toList++List.replicate (c0-(s.extract 0 (↑x.n:Int).toNat).size) (0:Int)) 5 c0 (c0+1))
noncomputable abbrev zy(s:ByteArray)(off:Nat)(x:PV)(k:Int)(c0 c1 c3:Nat):List SObj:=[(.cells (fY s off) 3 64 0 0),(.cells (fX x k) 6 88 0 0),(nP s x c0),(nM s off c1),(.cells lA 3 147 0 0),(nM s off c3)]
theorem OB(s:ByteArray)(off:Nat)(x:PV)(k:Int)(w:World)(bs:List Nat):am Tryz.prog iW 3000 91 [.ptr 0 0] (SS.mk (vO s off x k (128) Cd) [] true w bs) =
(.split (decide ((↑off:Int) > (↑s.size:Int))) (.leaf .ret [(.ifc 105 (.ptr 2 0))] (SS.mk [(.cells (fY s off) 3 64 0 0),(.cells (fX x k) 6 88 0 0),(.cells [(.str (ByteArray.mk #[99,111,109,112,111,110,101,110,116,32,118,97,108,117,101,83,116,97,114,116,73,100,120,32,105,115,32,103,114,101,97,116,101,114,32,116,104,97,110,32,116,104,101,32,108,101,110,103,116,104,32,111,102,32,116,104,101,32,99,111,109,112,111,110,101,110,116,39,115,32,98,121,116,101,115]) true)] 1 107 0 0)] [] true w bs)) (.split ((↑x.n:Int) == (0:Int)) (.leaf .ret [(.ifc 105 (.ptr 2 0))] (SS.mk [(.cells (fY s off) 3 64 0 0),(.cells (fX x k) 6 88 0 0),(.cells [(.str (ByteArray.mk #[67,111,109,112,111,110,101,110,116,32,105,115,32,109,105,115,115,105,110,103,32,105,116,115,32,112,114,111,116,111,99,111,108,39,115,32,86,67,111,100,101,32,102,105,101,108,100]) true)] 1 107 0 0)] [] true w bs)) (.split (decide ((↑s.size:Int)<(↑x.n:Int))) (.leaf .ret [(.ifc 105 (.ptr 2 0))] (SS.mk [(.cells (fY s off) 3 64 0 0),(.cells (fX x k) 6 88 0 0),(.cells [(.str zx true)] 1 107 0 0)] [] true w bs)) (.need ((0:Int)<=(↑x.n:Int)/\(↑x.n:Int)<=(↑s.size:Int)) (.choose (.appendCap ((s.extract 0 (↑x.n:Int).toNat).size) 0 5) fun c0=>(.need (x.A=x.A/\x.n=x.n/\x.c=x.c) (.need (0=0) (.need (0+(s.extract 0 (↑x.n:Int).toNat).size<=(List.map (fun b=>(↑b.toNat:Int)) (#[].extract 0 0++s.data.extract 0 (0+((↑x.n:Int).toNat-0))++#[].extract (0+min ((↑x.n:Int).toNat-0) (s.data.size-0)) 0).toList++List.replicate (c0-(s.extract 0 (↑x.n:Int).toNat).size) (0:Int)).length) (.need (canBytes w bs x.A x.n) (.split (!(bytesOf (List.take (s.extract 0 (↑x.n:Int).toNat).size (List.drop 0 (List.map (fun b=>(↑b.toNat:Int)) (#[].extract 0 0++s.data.extract 0 (0+((↑x.n:Int).toNat-0))++#[].extract (0+min ((↑x.n:Int).toNat-0) (s.data.size-0)) 0).toList++List.replicate (c0-(s.extract 0 (↑x.n:Int).toNat).size) (0:Int))))).toList == (bytesAt w x.A x.n).toList) (.leaf .ret [(.ifc 105 (.ptr 3 0))] (SS.mk [(.cells (fY s off) 3 64 0 0),(.cells (fX x k) 6 88 0 0),(nP s x c0),(.cells [(.str (ByteArray.mk #[99,111,109,112,111,110,101,110,116,39,115,32,86,67,111,100,101,32,102,105,101,108,100,32,105,115,32,105,110,118,97,108,105,100,58,32,33,61]) true)] 1 107 0 0)] [] true w bs)) (.need (nN off s) (.split (i64.wrap (Int.tdiv (128:Int) (8:Int)) != (↑(s.extract (↑off:Int).toNat s.size).size:Int)) (.leaf .ret [(.ifc 105 (.ptr 3 0))] (SS.mk [(.cells (fY s off) 3 64 0 0),(.cells (fX x k) 6 88 0 0),(nP s x c0),(.cells [(.str (ByteArray.mk #[99,111,109,112,111,110,101,110,116,32,118,97,108,117,101,32,115,105,122,101,32,109,105,115,109,97,116,99,104,58,32,33,61]) true)] 1 107 0 0)] [] true w bs)) (.split (i64.wrap ((↑x.n:Int)+i64.wrap (Int.tdiv (128:Int) (8:Int))) != (↑s.size:Int)) (.leaf .ret [(.ifc 105 (.ptr 3 0))] (SS.mk [(.cells (fY s off) 3 64 0 0),(.cells (fX x k) 6 88 0 0),(nP s x c0),(.cells [(.str zx true)] 1 107 0 0)] [] true w bs)) (.need (nN off s) (.choose (.appendCap ((s.extract (↑off:Int).toNat s.size).size) 0 5) fun c1=>(.need (Fn.func 170=Fn.func 170) (.need (Fn.func 171=Fn.func 171) (.need (Value.nilFunc=Value.nilFunc) (.need (0=0) (.hc 171 [(rp s off c1 3)] (SS.mk [(.cells (fY s off) 3 64 0 0),(.cells (fX x k) 6 88 0 0),(nP s x c0),(nM s off c1),(.cells lA 3 147 0 0)] [] true w bs) (cV) fun x2 w2 b2=>(.need (nN off s) (.choose (.appendCap ((s.extract (↑off:Int).toNat s.size).size) 0 5) fun c3=>(.need (Fn.func 170=Fn.func 170) (.need (Fn.func 171=Fn.func 171) (.need (Value.nilFunc=Value.nilFunc) (.need (0=0) (.hc 391 [(.agg lA),(rp s off c3 5)] (SS.mk (zy s off x k c0 c1 c3) [] true w2 b2) (dN) fun x4 w4 b4=>(.leaf .ret [(.one .nilIface rfl)] (SS.mk (zy s off x k c0 c1 c3) [] true w4 b4))))))))))))))))))))))))))))):=by kernel_rfl
theorem vS(s:ByteArray)(off:Nat)(x:PV)(k:Int)(w:World)(bs:List Nat):(by have h:=OB s off x k w bs;unfold zy nP zx nN rp fY fX lA nM at h;exact type_of% h):=OB s off x k w bs
noncomputable abbrev uT(s:ByteArray)(off:Nat)(x:PV)(k:Int)(c0:Nat):List SObj:=[(.cells (fY s off) 3 64 0 0),(.cells (fX x k) 6 88 0 0),(nM s off c0),(.cells lA 3 147 0 0)]
theorem Ob(s:ByteArray)(off:Nat)(x:PV)(k:Int)(w:World)(bs:List Nat):am Tryz.prog iW 3000 72 [.ptr 0 0] (SS.mk (vO s off x k (128) Cd) [] true w bs) =
(.need (nN off s) (.choose (.appendCap ((s.extract (↑off:Int).toNat s.size).size) 0 5) fun c0=>(.need (Fn.func 170=Fn.func 170) (.need (Fn.func 171=Fn.func 171) (.need (Value.nilFunc=Value.nilFunc) (.need (0=0) (.hc 171 [(rp s off c0 2)] (SS.mk (uT s off x k c0) [] true w bs) (cV) fun x1 w1 b1=>(.leaf .ret [(.tup [(.str x1 false),(.one .nilIface rfl)])] (SS.mk (uT s off x k c0) [] true w1 b1))))))))):=by kernel_rfl
theorem eS(s:ByteArray)(off:Nat)(x:PV)(k:Int)(w:World)(bs:List Nat):(by have h:=Ob s off x k w bs;unfold uT nN rp fY fX lA nM at h;exact type_of% h):=Ob s off x k w bs
end
section
open Go Go.Rx Go.RowKit
theorem Jj{β:Nat->Nat}{w:World}(x:PV)(kn:Nat)(l:List UInt8)(hl:l.length=16)(hx:x.n=(uv kn).length)(hk:(uv kn).length<20)(hat:aJ β (vO ⟨(uv kn++l).toArray⟩ (uv kn).length x kn 128 Cd) w)(hlt:∀i,i<2->β i<w.heap.size)(hinj:∀i j,i<2->j<2->β i=β j->i=j)(hv:Bts w w.heap.size x.A x.n (uv kn))(hvn:∀ad,x.A=some ad->ad.block ∉ ac β 2)(ht:Tens w) :
  Calls Tryz.prog 91 #[.pointer (some ⟨β 0,0,none⟩)] w fun e w'=>e=.returned .nilIface/\Below w.heap.size w w':=by
 obtain⟨nm,A0,n0,cc,sz,pth,tr⟩:=x
 dsimp only at hx hv hvn
 subst hx
 obtain⟨o1,o2,o3⟩:=dY ⟨(uv kn++l).toArray⟩ (uv kn).length ⟨nm,A0,(uv kn).length,cc,sz,pth,tr⟩ kn 128 Cd (by simp[Cd,SV.ok,bf])
 have hst:=St.head (P:=Tryz.prog) (Q:=bC fun v w'=>v=.nilIface/\Below w.heap.size w w') o1 hlt hinj hat o2
 refine(gx (hk:=iW) (n:=3000) (args:=[.ptr 0 0]) (Q:=fun v w'=>v=.nilIface/\Below w.heap.size w w') hst ⟨by simp[SV.ok,SS.n],trivial⟩ ?_).mono ?_
 rotate_left
 ·rintro e w' ⟨v,rfl,rfl,h2⟩
  exact⟨rfl,h2⟩
 have hp:=fL kn
 have hL:(uv kn++l).length=(uv kn).length+16:=by simp[hl]
 refine ah (vS _ _ _ kn w (ac β 2)) ?_
 have m1:min (uv kn).length ((uv kn).length+16)=(uv kn).length:=by omega
 have t2:List.take ((uv kn).length+16) (uv kn++l)=uv kn++l:=List.take_of_length_le (by simp[hl])
 simp only[jf,jg,aB,hl,hL,Int.toNat_natCast,m1,t2,Nat.sub_zero,Nat.zero_add,List.drop_zero,List.take_left,List.drop_left,Nat.min_self,Nat.add_sub_cancel_left,Nat.add_sub_cancel' (Nat.le_add_right _ _)]
 have below:∀ {Γ:Ctx}{β':Nat->Nat}{s:SS}{w':World},Γ={ P:=Tryz.prog,β0:=β,n0:=2,Q:=bC fun v w'=>v=.nilIface/\Below w.heap.size w w' }->St Γ β' s w'->s.objs.take 2=vO ⟨(uv kn++l).toArray⟩ (uv kn).length ⟨nm,A0,(uv kn).length,cc,sz,pth,tr⟩ kn 128 Cd->Keep (ac β 2) w w'->Below w.heap.size w w':=by
  rintro Γ β' s w' rfl hs ho hk
  exact br hk hat (hs.objsAt ho o2) o1 o3
 refine ak (fun h=>by omega) (fun _=>af (fun h=>by have:=eq_of_beq h;omega) (fun _=>ak (fun h=>by omega) (fun _=>aa (by omega) (aE ?_))))
 rintro c0 ⟨_,hc0⟩
 refine aa (by simp) (aa trivial (aa (by simp) (aa (hv.canBytesN (Nat.le_refl _) hvn) (af (fun h=>?_) (fun _=>?_)))))
 ·rw[hv.bytesAt,ia]at h
  simp at h
 have w2:i64.wrap (Int.tdiv 128 8)=16:=by decide
 refine aa (by omega) (af (fun h=>absurd h (by decide)) (fun _=>af (fun h=>?_) (fun _=>aa (by omega) (aE ?_))))
 ·rw[w2,ax (by omega) (by omega)]at h
  simp at h
 rintro c1 ⟨_,hc1⟩
 have hcut1:16<=c1:=hc1 ▸ bd
 refine aa trivial (aa trivial (aa trivial (aa trivial ?_)))
 refine bZ (w:=w) (bs:=ac β 2) (R:=fun(_:ByteArray) _ _=>True) ⟨rfl,Keep.refl _ _,fun b hb=>.inl hb⟩ (fun x=>⟨rfl,trivial,trivial,trivial⟩) (fun β' wc hs o hk=>?_) ?_
 ·have hbw:=below rfl hs rfl hk
  have h4:=hs.at_ 3 _ rfl
  have hb:=bp (n:=16) h4 hl.symm (hs.lt 3 (by simp[SS.n]))
  refine(CL _ _ _ l _ wc hb hl hcut1 (Nat.le_refl _) (ht.below hbw ht.lt)).mono ?_
  rintro e w' ⟨v,rfl,rfl,hb'⟩
  exact⟨_,rfl,hb',trivial⟩
 rintro x2 wc2 w2' b2 hk2 _ hb2 hkw2 hbs2
 refine aa (by omega) (aE ?_)
 rintro c3 ⟨_,hc3⟩
 refine aa trivial (aa trivial (aa trivial (aa trivial ?_)))
 refine bZ (w:=w) (bs:=ac β 2) (R:=fun(_:Unit) _ _=>True) ⟨rfl,hkw2,hbs2⟩ (fun x=>⟨rfl,trivial⟩) (fun β' wc hs o hk=>?_) ?_
 ·refine(es (.func 170) (.func 171) _ wc).mono ?_
  rintro e w' ⟨rfl,hb'⟩
  exact⟨(),rfl,hb',trivial⟩
 rintro x4 wc4 w4 b4 hk4 _ hb4 hkw4 hbs4
 exact aM (w:=w) (bs:=ac β 2) ⟨rfl,hkw4,hbs4⟩ fun β' w' hs hk=>⟨_,rfl,rfl,below rfl hs rfl hk⟩
end
section
open Go Go.RowKit
theorem qD(h:Fn)(w:World):(binOp BinOp.eql 80 (Value.func h #[] #[]) Value.nilFunc).run Tryz.prog w=.ok (.bool false) w:=by
 rfl
theorem kE(f g:Fn)(v:Value)(w:World)(hc:∀w1,Below w.heap.size w w1->Calls Tryz.prog 169 #[v] w1 fun e w'=>e=.returned .nilIface/\Below w1.heap.size w1 w'):Calls Tryz.prog 391 #[.agg #[.func f #[] #[],.func g #[] #[],.func (.func 169) #[] #[]],v] w fun e w'=>e=.returned .nilIface/\Below w.heap.size w w':=by
 have hal:=Below.alloc (Below.refl w.heap.size w) (Nat.le_refl _) (Obj.cells #[Value.func f #[] #[],Value.func g #[] #[],Value.func (.func 169) #[] #[]] 147)
 have h1:=hc _ hal
 clear hc
 go_enter Tryz.func391,Tryz.ntmps391
 go_wp2
 rw[qD]
 go_wp2_with fail
 refine h1.mono ?_
 rintro e w' ⟨rfl,hb⟩
 go_wp2
 simp[bodyPost,results,Tryz.results391,go_sem]
 exact hal.trans (hb.mono hal.size)
theorem jz(f g:Fn)(v:Value)(w:World)(hc:∀w1,Below w.heap.size w w1->Calls Tryz.prog 174 #[v] w1 fun e w'=>e=.returned .nilIface/\Below w1.heap.size w1 w'):Calls Tryz.prog 391 #[.agg #[.func f #[] #[],.func g #[] #[],.func (.func 174) #[] #[]],v] w fun e w'=>e=.returned .nilIface/\Below w.heap.size w w':=by
 have hal:=Below.alloc (Below.refl w.heap.size w) (Nat.le_refl _) (Obj.cells #[Value.func f #[] #[],Value.func g #[] #[],Value.func (.func 174) #[] #[]] 147)
 have h1:=hc _ hal
 clear hc
 go_enter Tryz.func391,Tryz.ntmps391
 go_wp2
 rw[qD]
 go_wp2_with fail
 refine h1.mono ?_
 rintro e w' ⟨rfl,hb⟩
 go_wp2
 simp[bodyPost,results,Tryz.results391,go_sem]
 exact hal.trans (hb.mono hal.size)
theorem jx(f g:Fn)(v:Value)(w:World)(hc:∀w1,Below w.heap.size w w1->Calls Tryz.prog 177 #[v] w1 fun e w'=>e=.returned .nilIface/\Below w1.heap.size w1 w'):Calls Tryz.prog 391 #[.agg #[.func f #[] #[],.func g #[] #[],.func (.func 177) #[] #[]],v] w fun e w'=>e=.returned .nilIface/\Below w.heap.size w w':=by
 have hal:=Below.alloc (Below.refl w.heap.size w) (Nat.le_refl _) (Obj.cells #[Value.func f #[] #[],Value.func g #[] #[],Value.func (.func 177) #[] #[]] 147)
 have h1:=hc _ hal
 clear hc
 go_enter Tryz.func391,Tryz.ntmps391
 go_wp2
 rw[qD]
 go_wp2_with fail
 refine h1.mono ?_
 rintro e w' ⟨rfl,hb⟩
 go_wp2
 simp[bodyPost,results,Tryz.results391,go_sem]
 exact hal.trans (hb.mono hal.size)
theorem kF(f g:Fn)(v:Value)(w:World)(hc:∀w1,Below w.heap.size w w1->Calls Tryz.prog 204 #[v] w1 fun e w'=>e=.returned .nilIface/\Below w1.heap.size w1 w'):Calls Tryz.prog 391 #[.agg #[.func f #[] #[],.func g #[] #[],.func (.func 204) #[] #[]],v] w fun e w'=>e=.returned .nilIface/\Below w.heap.size w w':=by
 have hal:=Below.alloc (Below.refl w.heap.size w) (Nat.le_refl _) (Obj.cells #[Value.func f #[] #[],Value.func g #[] #[],Value.func (.func 204) #[] #[]] 147)
 have h1:=hc _ hal
 clear hc
 go_enter Tryz.func391,Tryz.ntmps391
 go_wp2
 rw[qD]
 go_wp2_with fail
 refine h1.mono ?_
 rintro e w' ⟨rfl,hb⟩
 go_wp2
 simp[bodyPost,results,Tryz.results391,go_sem]
 exact hal.trans (hb.mono hal.size)
theorem jy(f g:Fn)(v:Value)(w:World)(hc:∀w1,Below w.heap.size w w1->Calls Tryz.prog 201 #[v] w1 fun e w'=>e=.returned .nilIface/\Below w1.heap.size w1 w'):Calls Tryz.prog 391 #[.agg #[.func f #[] #[],.func g #[] #[],.func (.func 201) #[] #[]],v] w fun e w'=>e=.returned .nilIface/\Below w.heap.size w w':=by
 have hal:=Below.alloc (Below.refl w.heap.size w) (Nat.le_refl _) (Obj.cells #[Value.func f #[] #[],Value.func g #[] #[],Value.func (.func 201) #[] #[]] 147)
 have h1:=hc _ hal
 clear hc
 go_enter Tryz.func391,Tryz.ntmps391
 go_wp2
 rw[qD]
 go_wp2_with fail
 refine h1.mono ?_
 rintro e w' ⟨rfl,hb⟩
 go_wp2
 simp[bodyPost,results,Tryz.results391,go_sem]
 exact hal.trans (hb.mono hal.size)
end
section
open Go Go.Rx Go.RowKit
noncomputable abbrev nw(s:ByteArray)(off c1:Nat):SObj:=(.ints .u8 (List.map (fun b=>(↑b.toNat:Int)) (#[].extract 0 0++s.data.extract (↑off:Int).toNat ((↑off:Int).toNat+(s.size-(↑off:Int).toNat))++#[].extract (0+min (s.size-(↑off:Int).toNat) (s.data.size-(↑off:Int).toNat)) 0).toList++List.replicate (c1-(s.extract (↑off:Int).toNat s.size).size) (0:Int)) 5 c1 (c1+1))
noncomputable abbrev lj:List SV:=[(.fn (.func 175) [] []),(.fn (.func 176) [] []),(.fn (.func 177) [] [])]
noncomputable abbrev fP(x:PV)(k:Int):List SV:=[(.str x.name false),(.int .i64 k false),(.xs x.A x.n x.c),(.int .i64 8 true),(.bool x.path false),(.ifc 147 (.agg lj))]
noncomputable abbrev fQ(s:ByteArray)(off:Nat):List SV:=[(.str s false),(.ptr 1 0),(.int .i64 ((↑off:Int)) false)]
noncomputable abbrev ri(s:ByteArray)(off c1 k0_:Nat):SV:=(.slc k0_ 0 ((s.extract (↑off:Int).toNat s.size).size) c1 false false)
noncomputable abbrev nx(off:Nat)(s:ByteArray):Prop:=((0:Int)<=(↑off:Int)/\(↑off:Int)<=(↑s.size:Int))
noncomputable abbrev zm:ByteArray:=(ByteArray.mk #[99,111,109,112,111,110,101,110,116,32,115,105,122,101,32,109,105,115,109,97,116,99,104,58,32,33,61])
noncomputable abbrev ny(s:ByteArray)(x:PV)(c0:Nat):SObj:=(.ints .u8 (List.map (fun b=>(↑b.toNat:Int)) (#[].extract 0 0++s.data.extract 0 (0+((↑x.n:Int).toNat-0))++#[].extract (0+min ((↑x.n:Int).toNat-0) (s.data.size-0)) 0).toList++List.replicate (c0-(s.extract 0 (↑x.n:Int).toNat).size) (0:Int)) 5 c0 (c0+1))
noncomputable abbrev zn(s:ByteArray)(off:Nat)(x:PV)(k:Int)(c0 c1 c3:Nat):List SObj:=[(.cells (fQ s off) 3 64 0 0),(.cells (fP x k) 6 88 0 0),(ny s x c0),(nw s off c1),(.cells lj 3 147 0 0),(nw s off c3)]
theorem Ov(s:ByteArray)(off:Nat)(x:PV)(k:Int)(w:World)(bs:List Nat):am Tryz.prog iW 3000 91 [.ptr 0 0] (SS.mk (vO s off x k (8) B9) [] true w bs) =
(.split (decide ((↑off:Int) > (↑s.size:Int))) (.leaf .ret [(.ifc 105 (.ptr 2 0))] (SS.mk [(.cells (fQ s off) 3 64 0 0),(.cells (fP x k) 6 88 0 0),(.cells [(.str (ByteArray.mk #[99,111,109,112,111,110,101,110,116,32,118,97,108,117,101,83,116,97,114,116,73,100,120,32,105,115,32,103,114,101,97,116,101,114,32,116,104,97,110,32,116,104,101,32,108,101,110,103,116,104,32,111,102,32,116,104,101,32,99,111,109,112,111,110,101,110,116,39,115,32,98,121,116,101,115]) true)] 1 107 0 0)] [] true w bs)) (.split ((↑x.n:Int) == (0:Int)) (.leaf .ret [(.ifc 105 (.ptr 2 0))] (SS.mk [(.cells (fQ s off) 3 64 0 0),(.cells (fP x k) 6 88 0 0),(.cells [(.str (ByteArray.mk #[67,111,109,112,111,110,101,110,116,32,105,115,32,109,105,115,115,105,110,103,32,105,116,115,32,112,114,111,116,111,99,111,108,39,115,32,86,67,111,100,101,32,102,105,101,108,100]) true)] 1 107 0 0)] [] true w bs)) (.split (decide ((↑s.size:Int)<(↑x.n:Int))) (.leaf .ret [(.ifc 105 (.ptr 2 0))] (SS.mk [(.cells (fQ s off) 3 64 0 0),(.cells (fP x k) 6 88 0 0),(.cells [(.str zm true)] 1 107 0 0)] [] true w bs)) (.need ((0:Int)<=(↑x.n:Int)/\(↑x.n:Int)<=(↑s.size:Int)) (.choose (.appendCap ((s.extract 0 (↑x.n:Int).toNat).size) 0 5) fun c0=>(.need (x.A=x.A/\x.n=x.n/\x.c=x.c) (.need (0=0) (.need (0+(s.extract 0 (↑x.n:Int).toNat).size<=(List.map (fun b=>(↑b.toNat:Int)) (#[].extract 0 0++s.data.extract 0 (0+((↑x.n:Int).toNat-0))++#[].extract (0+min ((↑x.n:Int).toNat-0) (s.data.size-0)) 0).toList++List.replicate (c0-(s.extract 0 (↑x.n:Int).toNat).size) (0:Int)).length) (.need (canBytes w bs x.A x.n) (.split (!(bytesOf (List.take (s.extract 0 (↑x.n:Int).toNat).size (List.drop 0 (List.map (fun b=>(↑b.toNat:Int)) (#[].extract 0 0++s.data.extract 0 (0+((↑x.n:Int).toNat-0))++#[].extract (0+min ((↑x.n:Int).toNat-0) (s.data.size-0)) 0).toList++List.replicate (c0-(s.extract 0 (↑x.n:Int).toNat).size) (0:Int))))).toList == (bytesAt w x.A x.n).toList) (.leaf .ret [(.ifc 105 (.ptr 3 0))] (SS.mk [(.cells (fQ s off) 3 64 0 0),(.cells (fP x k) 6 88 0 0),(ny s x c0),(.cells [(.str (ByteArray.mk #[99,111,109,112,111,110,101,110,116,39,115,32,86,67,111,100,101,32,102,105,101,108,100,32,105,115,32,105,110,118,97,108,105,100,58,32,33,61]) true)] 1 107 0 0)] [] true w bs)) (.need (nx off s) (.split (i64.wrap (Int.tdiv (8:Int) (8:Int)) != (↑(s.extract (↑off:Int).toNat s.size).size:Int)) (.leaf .ret [(.ifc 105 (.ptr 3 0))] (SS.mk [(.cells (fQ s off) 3 64 0 0),(.cells (fP x k) 6 88 0 0),(ny s x c0),(.cells [(.str (ByteArray.mk #[99,111,109,112,111,110,101,110,116,32,118,97,108,117,101,32,115,105,122,101,32,109,105,115,109,97,116,99,104,58,32,33,61]) true)] 1 107 0 0)] [] true w bs)) (.split (i64.wrap ((↑x.n:Int)+i64.wrap (Int.tdiv (8:Int) (8:Int))) != (↑s.size:Int)) (.leaf .ret [(.ifc 105 (.ptr 3 0))] (SS.mk [(.cells (fQ s off) 3 64 0 0),(.cells (fP x k) 6 88 0 0),(ny s x c0),(.cells [(.str zm true)] 1 107 0 0)] [] true w bs)) (.need (nx off s) (.choose (.appendCap ((s.extract (↑off:Int).toNat s.size).size) 0 5) fun c1=>(.need (Fn.func 175=Fn.func 175) (.need (Fn.func 176=Fn.func 176) (.need (Fn.func 177=Fn.func 177) (.need (0=0) (.hc 176 [(ri s off c1 3)] (SS.mk [(.cells (fQ s off) 3 64 0 0),(.cells (fP x k) 6 88 0 0),(ny s x c0),(nw s off c1),(.cells lj 3 147 0 0)] [] true w bs) (cV) fun x2 w2 b2=>(.need (nx off s) (.choose (.appendCap ((s.extract (↑off:Int).toNat s.size).size) 0 5) fun c3=>(.need (Fn.func 175=Fn.func 175) (.need (Fn.func 176=Fn.func 176) (.need (Fn.func 177=Fn.func 177) (.need (0=0) (.hc 391 [(.agg lj),(ri s off c3 5)] (SS.mk (zn s off x k c0 c1 c3) [] true w2 b2) (dN) fun x4 w4 b4=>(.leaf .ret [(.one .nilIface rfl)] (SS.mk (zn s off x k c0 c1 c3) [] true w4 b4))))))))))))))))))))))))))))):=by kernel_rfl
theorem vC(s:ByteArray)(off:Nat)(x:PV)(k:Int)(w:World)(bs:List Nat):(by have h:=Ov s off x k w bs;unfold zn ny zm nx ri fQ fP lj nw at h;exact type_of% h):=Ov s off x k w bs
noncomputable abbrev uN(s:ByteArray)(off:Nat)(x:PV)(k:Int)(c0:Nat):List SObj:=[(.cells (fQ s off) 3 64 0 0),(.cells (fP x k) 6 88 0 0),(nw s off c0),(.cells lj 3 147 0 0)]
theorem N5(s:ByteArray)(off:Nat)(x:PV)(k:Int)(w:World)(bs:List Nat):am Tryz.prog iW 3000 72 [.ptr 0 0] (SS.mk (vO s off x k (8) B9) [] true w bs) =
(.need (nx off s) (.choose (.appendCap ((s.extract (↑off:Int).toNat s.size).size) 0 5) fun c0=>(.need (Fn.func 175=Fn.func 175) (.need (Fn.func 176=Fn.func 176) (.need (Fn.func 177=Fn.func 177) (.need (0=0) (.hc 176 [(ri s off c0 2)] (SS.mk (uN s off x k c0) [] true w bs) (cV) fun x1 w1 b1=>(.leaf .ret [(.tup [(.str x1 false),(.one .nilIface rfl)])] (SS.mk (uN s off x k c0) [] true w1 b1))))))))):=by kernel_rfl
theorem eC(s:ByteArray)(off:Nat)(x:PV)(k:Int)(w:World)(bs:List Nat):(by have h:=N5 s off x k w bs;unfold uN nx ri fQ fP lj nw at h;exact type_of% h):=N5 s off x k w bs
end
section
open Go Go.Rx Go.RowKit
theorem Jd{β:Nat->Nat}{w:World}(x:PV)(kn:Nat)(a:UInt8)(hx:x.n=(uv kn).length)(hk:(uv kn).length<20)(hat:aJ β (vO ⟨(uv kn++[a]).toArray⟩ (uv kn).length x kn 8 B9) w)(hlt:∀i,i<2->β i<w.heap.size)(hinj:∀i j,i<2->j<2->β i=β j->i=j)(hv:Bts w w.heap.size x.A x.n (uv kn))(hvn:∀ad,x.A=some ad->ad.block ∉ ac β 2)(ht:Tens w) :
  Calls Tryz.prog 91 #[.pointer (some ⟨β 0,0,none⟩)] w fun e w'=>e=.returned .nilIface/\Below w.heap.size w w':=by
 obtain⟨nm,A0,n0,cc,sz,pth,tr⟩:=x
 dsimp only at hx hv hvn
 subst hx
 obtain⟨o1,o2,o3⟩:=dY ⟨(uv kn++[a]).toArray⟩ (uv kn).length ⟨nm,A0,(uv kn).length,cc,sz,pth,tr⟩ kn 8 B9 (by simp[B9,SV.ok,bf])
 have hst:=St.head (P:=Tryz.prog) (Q:=bC fun v w'=>v=.nilIface/\Below w.heap.size w w') o1 hlt hinj hat o2
 refine(gx (hk:=iW) (n:=3000) (args:=[.ptr 0 0]) (Q:=fun v w'=>v=.nilIface/\Below w.heap.size w w') hst ⟨by simp[SV.ok,SS.n],trivial⟩ ?_).mono ?_
 rotate_left
 ·rintro e w' ⟨v,rfl,rfl,h2⟩
  exact⟨rfl,h2⟩
 have hp:=fL kn
 have hL:(uv kn++[a]).length=(uv kn).length+1:=by simp
 refine ah (vC _ _ _ kn w (ac β 2)) ?_
 have m1:min (uv kn).length ((uv kn).length+1)=(uv kn).length:=by omega
 have t2:List.take ((uv kn).length+1) (uv kn++[a])=uv kn++[a]:=List.take_of_length_le (by simp)
 simp only[jf,jg,aB,hL,Int.toNat_natCast,m1,t2,Nat.sub_zero,Nat.zero_add,List.drop_zero,List.take_left,List.drop_left,Nat.min_self,Nat.add_sub_cancel_left,Nat.add_sub_cancel' (Nat.le_add_right _ _)]
 have below:∀ {Γ:Ctx}{β':Nat->Nat}{s:SS}{w':World},Γ={ P:=Tryz.prog,β0:=β,n0:=2,Q:=bC fun v w'=>v=.nilIface/\Below w.heap.size w w' }->St Γ β' s w'->s.objs.take 2=vO ⟨(uv kn++[a]).toArray⟩ (uv kn).length ⟨nm,A0,(uv kn).length,cc,sz,pth,tr⟩ kn 8 B9->Keep (ac β 2) w w'->Below w.heap.size w w':=by
  rintro Γ β' s w' rfl hs ho hk
  exact br hk hat (hs.objsAt ho o2) o1 o3
 refine ak (fun h=>by omega) (fun _=>af (fun h=>by have:=eq_of_beq h;omega) (fun _=>ak (fun h=>by omega) (fun _=>aa (by omega) (aE ?_))))
 rintro c0 ⟨_,hc0⟩
 refine aa (by simp) (aa trivial (aa (by simp) (aa (hv.canBytesN (Nat.le_refl _) hvn) (af (fun h=>?_) (fun _=>?_)))))
 ·rw[hv.bytesAt,ia]at h
  simp at h
 have w2:i64.wrap (Int.tdiv 8 8)=1:=by decide
 refine aa (by omega) (af (fun h=>absurd h (by decide)) (fun _=>af (fun h=>?_) (fun _=>aa (by omega) (aE ?_))))
 ·rw[w2,ax (by omega) (by omega)]at h
  simp at h
 rintro c1 ⟨_,hc1⟩
 have hcut1:1<=c1:=hc1 ▸ bd
 refine aa trivial (aa trivial (aa trivial (aa trivial ?_)))
 refine bZ (w:=w) (bs:=ac β 2) (R:=fun(_:ByteArray) _ _=>True) ⟨rfl,Keep.refl _ _,fun b hb=>.inl hb⟩ (fun x=>⟨rfl,trivial,trivial,trivial⟩) (fun β' wc hs o hk=>?_) ?_
 ·have hbw:=below rfl hs rfl hk
  have h4:=hs.at_ 3 _ rfl
  have hb:=bp (n:=1) h4 rfl (hs.lt 3 (by simp[SS.n]))
  refine(z6 _ _ a _ wc hb (Nat.le_refl _) (ht.below hbw ht.lt)).mono ?_
  rintro e w' ⟨v,rfl,rfl,hb'⟩
  exact⟨_,rfl,hb',trivial⟩
 rintro x2 wc2 w2' b2 hk2 _ hb2 hkw2 hbs2
 refine aa (by omega) (aE ?_)
 rintro c3 ⟨_,hc3⟩
 refine aa trivial (aa trivial (aa trivial (aa trivial ?_)))
 refine bZ (w:=w) (bs:=ac β 2) (R:=fun(_:Unit) _ _=>True) ⟨rfl,hkw2,hbs2⟩ (fun x=>⟨rfl,trivial⟩) (fun β' wc hs o hk=>?_) ?_
 ·refine(jx (.func 175) (.func 176) _ wc fun w1 _=>(z7 _ _ _).mono (by rintro e w' ⟨v,rfl,rfl,hb'⟩;exact⟨rfl,hb'⟩)).mono ?_
  rintro e w' ⟨rfl,hb'⟩
  exact⟨(),rfl,hb',trivial⟩
 rintro x4 wc4 w4 b4 hk4 _ hb4 hkw4 hbs4
 exact aM (w:=w) (bs:=ac β 2) ⟨rfl,hkw4,hbs4⟩ fun β' w' hs hk=>⟨_,rfl,rfl,below rfl hs rfl hk⟩
end
section
open Go Go.Rx Go.RowKit
noncomputable abbrev nG(s:ByteArray)(off c1:Nat):SObj:=(.ints .u8 (List.map (fun b=>(↑b.toNat:Int)) (#[].extract 0 0++s.data.extract (↑off:Int).toNat ((↑off:Int).toNat+(s.size-(↑off:Int).toNat))++#[].extract (0+min (s.size-(↑off:Int).toNat) (s.data.size-(↑off:Int).toNat)) 0).toList++List.replicate (c1-(s.extract (↑off:Int).toNat s.size).size) (0:Int)) 5 c1 (c1+1))
noncomputable abbrev lw:List SV:=[(.fn (.func 202) [] []),(.fn (.func 203) [] []),(.fn (.func 204) [] [])]
noncomputable abbrev fT(x:PV)(k:Int):List SV:=[(.str x.name false),(.int .i64 k false),(.xs x.A x.n x.c),(.int .i64 64 true),(.bool x.path false),(.ifc 147 (.agg lw))]
noncomputable abbrev fU(s:ByteArray)(off:Nat):List SV:=[(.str s false),(.ptr 1 0),(.int .i64 ((↑off:Int)) false)]
noncomputable abbrev rm(s:ByteArray)(off c1 k0_:Nat):SV:=(.slc k0_ 0 ((s.extract (↑off:Int).toNat s.size).size) c1 false false)
noncomputable abbrev nH(off:Nat)(s:ByteArray):Prop:=((0:Int)<=(↑off:Int)/\(↑off:Int)<=(↑s.size:Int))
noncomputable abbrev zr:ByteArray:=(ByteArray.mk #[99,111,109,112,111,110,101,110,116,32,115,105,122,101,32,109,105,115,109,97,116,99,104,58,32,33,61])
noncomputable abbrev nI(s:ByteArray)(x:PV)(c0:Nat):SObj:=(.ints .u8 (List.map (fun b=>(↑b.toNat:Int)) (#[].extract 0 0++s.data.extract 0 (0+((↑x.n:Int).toNat-0))++#[].extract (0+min ((↑x.n:Int).toNat-0) (s.data.size-0)) 0).toList++List.replicate (c0-(s.extract 0 (↑x.n:Int).toNat).size) (0:Int)) 5 c0 (c0+1))
noncomputable abbrev zt(s:ByteArray)(off:Nat)(x:PV)(k:Int)(c0 c1 c3:Nat):List SObj:=[(.cells (fU s off) 3 64 0 0),(.cells (fT x k) 6 88 0 0),(nI s x c0),(nG s off c1),(.cells lw 3 147 0 0),(nG s off c3)]
theorem Oy(s:ByteArray)(off:Nat)(x:PV)(k:Int)(w:World)(bs:List Nat):am Tryz.prog iW 3000 91 [.ptr 0 0] (SS.mk (vO s off x k (64) Cb) [] true w bs) =
(.split (decide ((↑off:Int) > (↑s.size:Int))) (.leaf .ret [(.ifc 105 (.ptr 2 0))] (SS.mk [(.cells (fU s off) 3 64 0 0),(.cells (fT x k) 6 88 0 0),(.cells [(.str (ByteArray.mk #[99,111,109,112,111,110,101,110,116,32,118,97,108,117,101,83,116,97,114,116,73,100,120,32,105,115,32,103,114,101,97,116,101,114,32,116,104,97,110,32,116,104,101,32,108,101,110,103,116,104,32,111,102,32,116,104,101,32,99,111,109,112,111,110,101,110,116,39,115,32,98,121,116,101,115]) true)] 1 107 0 0)] [] true w bs)) (.split ((↑x.n:Int) == (0:Int)) (.leaf .ret [(.ifc 105 (.ptr 2 0))] (SS.mk [(.cells (fU s off) 3 64 0 0),(.cells (fT x k) 6 88 0 0),(.cells [(.str (ByteArray.mk #[67,111,109,112,111,110,101,110,116,32,105,115,32,109,105,115,115,105,110,103,32,105,116,115,32,112,114,111,116,111,99,111,108,39,115,32,86,67,111,100,101,32,102,105,101,108,100]) true)] 1 107 0 0)] [] true w bs)) (.split (decide ((↑s.size:Int)<(↑x.n:Int))) (.leaf .ret [(.ifc 105 (.ptr 2 0))] (SS.mk [(.cells (fU s off) 3 64 0 0),(.cells (fT x k) 6 88 0 0),(.cells [(.str zr true)] 1 107 0 0)] [] true w bs)) (.need ((0:Int)<=(↑x.n:Int)/\(↑x.n:Int)<=(↑s.size:Int)) (.choose (.appendCap ((s.extract 0 (↑x.n:Int).toNat).size) 0 5) fun c0=>(.need (x.A=x.A/\x.n=x.n/\x.c=x.c) (.need (0=0) (.need (0+(s.extract 0 (↑x.n:Int).toNat).size<=(List.map (fun b=>(↑b.toNat:Int)) (#[].extract 0 0++s.data.extract 0 (0+((↑x.n:Int).toNat-0))++#[].extract (0+min ((↑x.n:Int).toNat-0) (s.data.size-0)) 0).toList++List.replicate (c0-(s.extract 0 (↑x.n:Int).toNat).size) (0:Int)).length) (.need (canBytes w bs x.A x.n) (.split (!(bytesOf (List.take (s.extract 0 (↑x.n:Int).toNat).size (List.drop 0 (List.map (fun b=>(↑b.toNat:Int)) (#[].extract 0 0++s.data.extract 0 (0+((↑x.n:Int).toNat-0))++#[].extract (0+min ((↑x.n:Int).toNat-0) (s.data.size-0)) 0).toList++List.replicate (c0-(s.extract 0 (↑x.n:Int).toNat).size) (0:Int))))).toList == (bytesAt w x.A x.n).toList) (.leaf .ret [(.ifc 105 (.ptr 3 0))] (SS.mk [(.cells (fU s off) 3 64 0 0),(.cells (fT x k) 6 88 0 0),(nI s x c0),(.cells [(.str (ByteArray.mk #[99,111,109,112,111,110,101,110,116,39,115,32,86,67,111,100,101,32,102,105,101,108,100,32,105,115,32,105,110,118,97,108,105,100,58,32,33,61]) true)] 1 107 0 0)] [] true w bs)) (.need (nH off s) (.split (i64.wrap (Int.tdiv (64:Int) (8:Int)) != (↑(s.extract (↑off:Int).toNat s.size).size:Int)) (.leaf .ret [(.ifc 105 (.ptr 3 0))] (SS.mk [(.cells (fU s off) 3 64 0 0),(.cells (fT x k) 6 88 0 0),(nI s x c0),(.cells [(.str (ByteArray.mk #[99,111,109,112,111,110,101,110,116,32,118,97,108,117,101,32,115,105,122,101,32,109,105,115,109,97,116,99,104,58,32,33,61]) true)] 1 107 0 0)] [] true w bs)) (.split (i64.wrap ((↑x.n:Int)+i64.wrap (Int.tdiv (64:Int) (8:Int))) != (↑s.size:Int)) (.leaf .ret [(.ifc 105 (.ptr 3 0))] (SS.mk [(.cells (fU s off) 3 64 0 0),(.cells (fT x k) 6 88 0 0),(nI s x c0),(.cells [(.str zr true)] 1 107 0 0)] [] true w bs)) (.need (nH off s) (.choose (.appendCap ((s.extract (↑off:Int).toNat s.size).size) 0 5) fun c1=>(.need (Fn.func 202=Fn.func 202) (.need (Fn.func 203=Fn.func 203) (.need (Fn.func 204=Fn.func 204) (.need (0=0) (.hc 203 [(rm s off c1 3)] (SS.mk [(.cells (fU s off) 3 64 0 0),(.cells (fT x k) 6 88 0 0),(nI s x c0),(nG s off c1),(.cells lw 3 147 0 0)] [] true w bs) (cV) fun x2 w2 b2=>(.need (nH off s) (.choose (.appendCap ((s.extract (↑off:Int).toNat s.size).size) 0 5) fun c3=>(.need (Fn.func 202=Fn.func 202) (.need (Fn.func 203=Fn.func 203) (.need (Fn.func 204=Fn.func 204) (.need (0=0) (.hc 391 [(.agg lw),(rm s off c3 5)] (SS.mk (zt s off x k c0 c1 c3) [] true w2 b2) (dN) fun x4 w4 b4=>(.leaf .ret [(.one .nilIface rfl)] (SS.mk (zt s off x k c0 c1 c3) [] true w4 b4))))))))))))))))))))))))))))):=by kernel_rfl
theorem vM(s:ByteArray)(off:Nat)(x:PV)(k:Int)(w:World)(bs:List Nat):(by have h:=Oy s off x k w bs;unfold zt nI zr nH rm fU fT lw nG at h;exact type_of% h):=Oy s off x k w bs
noncomputable abbrev uR(s:ByteArray)(off:Nat)(x:PV)(k:Int)(c0:Nat):List SObj:=[(.cells (fU s off) 3 64 0 0),(.cells (fT x k) 6 88 0 0),(nG s off c0),(.cells lw 3 147 0 0)]
theorem N8(s:ByteArray)(off:Nat)(x:PV)(k:Int)(w:World)(bs:List Nat):am Tryz.prog iW 3000 72 [.ptr 0 0] (SS.mk (vO s off x k (64) Cb) [] true w bs) =
(.need (nH off s) (.choose (.appendCap ((s.extract (↑off:Int).toNat s.size).size) 0 5) fun c0=>(.need (Fn.func 202=Fn.func 202) (.need (Fn.func 203=Fn.func 203) (.need (Fn.func 204=Fn.func 204) (.need (0=0) (.hc 203 [(rm s off c0 2)] (SS.mk (uR s off x k c0) [] true w bs) (cV) fun x1 w1 b1=>(.leaf .ret [(.tup [(.str x1 false),(.one .nilIface rfl)])] (SS.mk (uR s off x k c0) [] true w1 b1))))))))):=by kernel_rfl
theorem eM(s:ByteArray)(off:Nat)(x:PV)(k:Int)(w:World)(bs:List Nat):(by have h:=N8 s off x k w bs;unfold uR nH rm fU fT lw nG at h;exact type_of% h):=N8 s off x k w bs
end
section
open Go Go.Rx Go.RowKit
theorem Jg{β:Nat->Nat}{w:World}(x:PV)(kn:Nat)(a b c d e f g h:UInt8)(hx:x.n=(uv kn).length)(hk:(uv kn).length<20)(hat:aJ β (vO ⟨(uv kn++[a,b,c,d,e,f,g,h]).toArray⟩ (uv kn).length x kn 64 Cb) w)(hlt:∀i,i<2->β i<w.heap.size)(hinj:∀i j,i<2->j<2->β i=β j->i=j)(hv:Bts w w.heap.size x.A x.n (uv kn))(hvn:∀ad,x.A=some ad->ad.block ∉ ac β 2)(ht:Tens w) :
  Calls Tryz.prog 91 #[.pointer (some ⟨β 0,0,none⟩)] w fun e w'=>e=.returned .nilIface/\Below w.heap.size w w':=by
 obtain⟨nm,A0,n0,cc,sz,pth,tr⟩:=x
 dsimp only at hx hv hvn
 subst hx
 obtain⟨o1,o2,o3⟩:=dY ⟨(uv kn++[a,b,c,d,e,f,g,h]).toArray⟩ (uv kn).length ⟨nm,A0,(uv kn).length,cc,sz,pth,tr⟩ kn 64 Cb (by simp[Cb,SV.ok,bf])
 have hst:=St.head (P:=Tryz.prog) (Q:=bC fun v w'=>v=.nilIface/\Below w.heap.size w w') o1 hlt hinj hat o2
 refine(gx (hk:=iW) (n:=3000) (args:=[.ptr 0 0]) (Q:=fun v w'=>v=.nilIface/\Below w.heap.size w w') hst ⟨by simp[SV.ok,SS.n],trivial⟩ ?_).mono ?_
 rotate_left
 ·rintro e w' ⟨v,rfl,rfl,h2⟩
  exact⟨rfl,h2⟩
 have hp:=fL kn
 have hL:(uv kn++[a,b,c,d,e,f,g,h]).length=(uv kn).length+8:=by simp
 refine ah (vM _ _ _ kn w (ac β 2)) ?_
 have m1:min (uv kn).length ((uv kn).length+8)=(uv kn).length:=by omega
 have t2:List.take ((uv kn).length+8) (uv kn++[a,b,c,d,e,f,g,h])=uv kn++[a,b,c,d,e,f,g,h]:=List.take_of_length_le (by simp)
 simp only[jf,jg,aB,hL,Int.toNat_natCast,m1,t2,Nat.sub_zero,Nat.zero_add,List.drop_zero,List.take_left,List.drop_left,Nat.min_self,Nat.add_sub_cancel_left,Nat.add_sub_cancel' (Nat.le_add_right _ _)]
 have below:∀ {Γ:Ctx}{β':Nat->Nat}{s:SS}{w':World},Γ={ P:=Tryz.prog,β0:=β,n0:=2,Q:=bC fun v w'=>v=.nilIface/\Below w.heap.size w w' }->St Γ β' s w'->s.objs.take 2=vO ⟨(uv kn++[a,b,c,d,e,f,g,h]).toArray⟩ (uv kn).length ⟨nm,A0,(uv kn).length,cc,sz,pth,tr⟩ kn 64 Cb->Keep (ac β 2) w w'->Below w.heap.size w w':=by
  rintro Γ β' s w' rfl hs ho hk
  exact br hk hat (hs.objsAt ho o2) o1 o3
 refine ak (fun h=>by omega) (fun _=>af (fun h=>by have:=eq_of_beq h;omega) (fun _=>ak (fun h=>by omega) (fun _=>aa (by omega) (aE ?_))))
 rintro c0 ⟨_,hc0⟩
 refine aa (by simp) (aa trivial (aa (by simp) (aa (hv.canBytesN (Nat.le_refl _) hvn) (af (fun h=>?_) (fun _=>?_)))))
 ·rw[hv.bytesAt,ia]at h
  simp at h
 have w2:i64.wrap (Int.tdiv 64 8)=8:=by decide
 refine aa (by omega) (af (fun h=>absurd h (by decide)) (fun _=>af (fun h=>?_) (fun _=>aa (by omega) (aE ?_))))
 ·rw[w2,ax (by omega) (by omega)]at h
  simp at h
 rintro c1 ⟨_,hc1⟩
 have hcut1:8<=c1:=hc1 ▸ bd
 refine aa trivial (aa trivial (aa trivial (aa trivial ?_)))
 refine bZ (w:=w) (bs:=ac β 2) (R:=fun(_:ByteArray) _ _=>True) ⟨rfl,Keep.refl _ _,fun b hb=>.inl hb⟩ (fun x=>⟨rfl,trivial,trivial,trivial⟩) (fun β' wc hs o hk=>?_) ?_
 ·have hbw:=below rfl hs rfl hk
  have h4:=hs.at_ 3 _ rfl
  have hb:=bp (n:=8) h4 rfl (hs.lt 3 (by simp[SS.n]))
  refine(Dr _ _ a b c d e f g h _ wc hb (Nat.le_refl _) (ht.below hbw ht.lt)).mono ?_
  rintro e w' ⟨v,rfl,rfl,hb'⟩
  exact⟨_,rfl,hb',trivial⟩
 rintro x2 wc2 w2' b2 hk2 _ hb2 hkw2 hbs2
 refine aa (by omega) (aE ?_)
 rintro c3 ⟨_,hc3⟩
 refine aa trivial (aa trivial (aa trivial (aa trivial ?_)))
 refine bZ (w:=w) (bs:=ac β 2) (R:=fun(_:Unit) _ _=>True) ⟨rfl,hkw2,hbs2⟩ (fun x=>⟨rfl,trivial⟩) (fun β' wc hs o hk=>?_) ?_
 ·refine(kF (.func 202) (.func 203) _ wc fun w1 _=>(Ds _ _ _).mono (by rintro e w' ⟨v,rfl,rfl,hb'⟩;exact⟨rfl,hb'⟩)).mono ?_
  rintro e w' ⟨rfl,hb'⟩
  exact⟨(),rfl,hb',trivial⟩
 rintro x4 wc4 w4 b4 hk4 _ hb4 hkw4 hbs4
 exact aM (w:=w) (bs:=ac β 2) ⟨rfl,hkw4,hbs4⟩ fun β' w' hs hk=>⟨_,rfl,rfl,below rfl hs rfl hk⟩
end
section
open Go Go.Rx Go.RowKit
noncomputable abbrev nz(s:ByteArray)(off c3:Nat):SObj:=(.ints .u8 (List.map (fun b=>(↑b.toNat:Int)) (#[].extract 0 0++s.data.extract (↑off:Int).toNat ((↑off:Int).toNat+(s.size-(↑off:Int).toNat))++#[].extract (0+min (s.size-(↑off:Int).toNat) (s.data.size-(↑off:Int).toNat)) 0).toList++List.replicate (c3-(s.extract (↑off:Int).toNat s.size).size) (0:Int)) 5 c3 (c3+1))
noncomputable abbrev lk:List SV:=[(.fn (.func 167) [] []),(.fn (.func 168) [] []),(.fn (.func 169) [] [])]
noncomputable abbrev ff(x:PV)(k:Int):List SV:=[(.str x.name false),(.int .i64 k false),(.xs x.A x.n x.c),(.int .i64 (-1) true),(.bool x.path false),(.ifc 147 (.agg lk))]
noncomputable abbrev fg(s:ByteArray)(off:Nat):List SV:=[(.str s false),(.ptr 1 0),(.int .i64 ((↑off:Int)) false)]
noncomputable abbrev rj(s:ByteArray)(off c3 k0_:Nat):SV:=(.slc k0_ 0 ((s.extract (↑off:Int).toNat s.size).size) c3 false false)
noncomputable abbrev nA(off:Nat)(s:ByteArray):Prop:=((0:Int)<=(↑off:Int)/\(↑off:Int)<=(↑s.size:Int))
noncomputable abbrev zo:ByteArray:=(ByteArray.mk #[99,111,109,112,111,110,101,110,116,32,115,105,122,101,32,109,105,115,109,97,116,99,104,58,32,33,61])
noncomputable abbrev nB(s:ByteArray)(x:PV)(c1:Nat):SObj:=(.ints .u8 (List.map (fun b=>(↑b.toNat:Int)) (#[].extract 0 0++s.data.extract (↑x.n:Int).toNat ((↑x.n:Int).toNat+(s.size-(↑x.n:Int).toNat))++#[].extract (0+min (s.size-(↑x.n:Int).toNat) (s.data.size-(↑x.n:Int).toNat)) 0).toList++List.replicate (c1-(s.extract (↑x.n:Int).toNat s.size).size) (0:Int)) 5 c1 (c1+1))
noncomputable abbrev lp(s:ByteArray)(x:PV)(c0:Nat):SObj:=(.ints .u8 (List.map (fun b=>(↑b.toNat:Int)) (#[].extract 0 0++s.data.extract 0 (0+((↑x.n:Int).toNat-0))++#[].extract (0+min ((↑x.n:Int).toNat-0) (s.data.size-0)) 0).toList++List.replicate (c0-(s.extract 0 (↑x.n:Int).toNat).size) (0:Int)) 5 c0 (c0+1))
noncomputable abbrev uP(s:ByteArray)(off:Nat)(x:PV)(k:Int)(c0 c1 c3 c5:Nat):List SObj:=[(.cells (fg s off) 3 64 0 0),(.cells (ff x k) 6 88 0 0),(lp s x c0),(nB s x c1),(nz s off c3),(.cells lk 3 147 0 0),(nz s off c5)]
theorem Ow(s:ByteArray)(off:Nat)(x:PV)(k:Int)(w:World)(bs:List Nat):am Tryz.prog iW 3000 91 [.ptr 0 0] (SS.mk (vO s off x k (-1) Eb) [] true w bs) =
(.split (decide ((↑off:Int) > (↑s.size:Int))) (.leaf .ret [(.ifc 105 (.ptr 2 0))] (SS.mk [(.cells (fg s off) 3 64 0 0),(.cells (ff x k) 6 88 0 0),(.cells [(.str (ByteArray.mk #[99,111,109,112,111,110,101,110,116,32,118,97,108,117,101,83,116,97,114,116,73,100,120,32,105,115,32,103,114,101,97,116,101,114,32,116,104,97,110,32,116,104,101,32,108,101,110,103,116,104,32,111,102,32,116,104,101,32,99,111,109,112,111,110,101,110,116,39,115,32,98,121,116,101,115]) true)] 1 107 0 0)] [] true w bs)) (.split ((↑x.n:Int) == (0:Int)) (.leaf .ret [(.ifc 105 (.ptr 2 0))] (SS.mk [(.cells (fg s off) 3 64 0 0),(.cells (ff x k) 6 88 0 0),(.cells [(.str (ByteArray.mk #[67,111,109,112,111,110,101,110,116,32,105,115,32,109,105,115,115,105,110,103,32,105,116,115,32,112,114,111,116,111,99,111,108,39,115,32,86,67,111,100,101,32,102,105,101,108,100]) true)] 1 107 0 0)] [] true w bs)) (.split (decide ((↑s.size:Int)<(↑x.n:Int))) (.leaf .ret [(.ifc 105 (.ptr 2 0))] (SS.mk [(.cells (fg s off) 3 64 0 0),(.cells (ff x k) 6 88 0 0),(.cells [(.str zo true)] 1 107 0 0)] [] true w bs)) (.need ((0:Int)<=(↑x.n:Int)/\(↑x.n:Int)<=(↑s.size:Int)) (.choose (.appendCap ((s.extract 0 (↑x.n:Int).toNat).size) 0 5) fun c0=>(.need (x.A=x.A/\x.n=x.n/\x.c=x.c) (.need (0=0) (.need (0+(s.extract 0 (↑x.n:Int).toNat).size<=(List.map (fun b=>(↑b.toNat:Int)) (#[].extract 0 0++s.data.extract 0 (0+((↑x.n:Int).toNat-0))++#[].extract (0+min ((↑x.n:Int).toNat-0) (s.data.size-0)) 0).toList++List.replicate (c0-(s.extract 0 (↑x.n:Int).toNat).size) (0:Int)).length) (.need (canBytes w bs x.A x.n) (.split (!(bytesOf (List.take (s.extract 0 (↑x.n:Int).toNat).size (List.drop 0 (List.map (fun b=>(↑b.toNat:Int)) (#[].extract 0 0++s.data.extract 0 (0+((↑x.n:Int).toNat-0))++#[].extract (0+min ((↑x.n:Int).toNat-0) (s.data.size-0)) 0).toList++List.replicate (c0-(s.extract 0 (↑x.n:Int).toNat).size) (0:Int))))).toList == (bytesAt w x.A x.n).toList) (.leaf .ret [(.ifc 105 (.ptr 3 0))] (SS.mk [(.cells (fg s off) 3 64 0 0),(.cells (ff x k) 6 88 0 0),(lp s x c0),(.cells [(.str (ByteArray.mk #[99,111,109,112,111,110,101,110,116,39,115,32,86,67,111,100,101,32,102,105,101,108,100,32,105,115,32,105,110,118,97,108,105,100,58,32,33,61]) true)] 1 107 0 0)] [] true w bs)) (.need ((0:Int)<=(↑x.n:Int)/\(↑x.n:Int)<=(↑s.size:Int)) (.choose (.appendCap ((s.extract (↑x.n:Int).toNat s.size).size) 0 5) fun c1=>(.hc 96 [(.slc 3 0 ((s.extract (↑x.n:Int).toNat s.size).size) c1 false false)] (SS.mk [(.cells (fg s off) 3 64 0 0),(.cells (ff x k) 6 88 0 0),(lp s x c0),(nB s x c1)] [] true w bs) (tK) fun x2 w2 b2=>(.need (nA off s) (.split ((↑x2.size:Int) != (↑(s.extract (↑off:Int).toNat s.size).size:Int)) (.leaf .ret [(.ifc 105 (.ptr 4 0))] (SS.mk [(.cells (fg s off) 3 64 0 0),(.cells (ff x k) 6 88 0 0),(lp s x c0),(nB s x c1),(.cells [(.str (ByteArray.mk #[99,111,109,112,111,110,101,110,116,32,118,97,108,117,101,32,115,105,122,101,32,109,105,115,109,97,116,99,104,58,32,33,61]) true)] 1 107 0 0)] [] true w2 b2)) (.split (i64.wrap (i64.wrap ((↑x.n:Int)+(↑x2.n:Int))+(↑x2.size:Int)) != (↑s.size:Int)) (.leaf .ret [(.ifc 105 (.ptr 4 0))] (SS.mk [(.cells (fg s off) 3 64 0 0),(.cells (ff x k) 6 88 0 0),(lp s x c0),(nB s x c1),(.cells [(.str zo true)] 1 107 0 0)] [] true w2 b2)) (.need (nA off s) (.choose (.appendCap ((s.extract (↑off:Int).toNat s.size).size) 0 5) fun c3=>(.need (Fn.func 167=Fn.func 167) (.need (Fn.func 168=Fn.func 168) (.need (Fn.func 169=Fn.func 169) (.need (0=0) (.hc 168 [(rj s off c3 4)] (SS.mk [(.cells (fg s off) 3 64 0 0),(.cells (ff x k) 6 88 0 0),(lp s x c0),(nB s x c1),(nz s off c3),(.cells lk 3 147 0 0)] [] true w2 b2) (cV) fun x4 w4 b4=>(.need (nA off s) (.choose (.appendCap ((s.extract (↑off:Int).toNat s.size).size) 0 5) fun c5=>(.need (Fn.func 167=Fn.func 167) (.need (Fn.func 168=Fn.func 168) (.need (Fn.func 169=Fn.func 169) (.need (0=0) (.hc 391 [(.agg lk),(rj s off c5 6)] (SS.mk (uP s off x k c0 c1 c3 c5) [] true w4 b4) (dN) fun x6 w6 b6=>(.leaf .ret [(.one .nilIface rfl)] (SS.mk (uP s off x k c0 c1 c3 c5) [] true w6 b6)))))))))))))))))))))))))))))))):=by kernel_rfl
theorem vD(s:ByteArray)(off:Nat)(x:PV)(k:Int)(w:World)(bs:List Nat):(by have h:=Ow s off x k w bs;unfold uP lp nB zo nA rj fg ff lk nz at h;exact type_of% h):=Ow s off x k w bs
noncomputable abbrev uO(s:ByteArray)(off:Nat)(x:PV)(k:Int)(c0:Nat):List SObj:=[(.cells (fg s off) 3 64 0 0),(.cells (ff x k) 6 88 0 0),(nz s off c0),(.cells lk 3 147 0 0)]
theorem N6(s:ByteArray)(off:Nat)(x:PV)(k:Int)(w:World)(bs:List Nat):am Tryz.prog iW 3000 72 [.ptr 0 0] (SS.mk (vO s off x k (-1) Eb) [] true w bs) =
(.need (nA off s) (.choose (.appendCap ((s.extract (↑off:Int).toNat s.size).size) 0 5) fun c0=>(.need (Fn.func 167=Fn.func 167) (.need (Fn.func 168=Fn.func 168) (.need (Fn.func 169=Fn.func 169) (.need (0=0) (.hc 168 [(rj s off c0 2)] (SS.mk (uO s off x k c0) [] true w bs) (cV) fun x1 w1 b1=>(.leaf .ret [(.tup [(.str x1 false),(.one .nilIface rfl)])] (SS.mk (uO s off x k c0) [] true w1 b1))))))))):=by kernel_rfl
theorem eD(s:ByteArray)(off:Nat)(x:PV)(k:Int)(w:World)(bs:List Nat):(by have h:=N6 s off x k w bs;unfold uO nA rj fg ff lk nz at h;exact type_of% h):=N6 s off x k w bs
end
section
open Go Go.Rx Go.RowKit
theorem Je{β:Nat->Nat}{w:World}(x:PV)(kn:Nat)(l:List UInt8)(hn:Nm l)(hl:l.length<=2147483647)(hx:x.n=(uv kn).length)(hk:(uv kn).length<20)(hat:aJ β (vO ⟨(uv kn++(uv l.length++l)).toArray⟩ ((uv kn).length+(uv l.length).length) x kn (-1) Eb) w)(hlt:∀i,i<2->β i<w.heap.size)(hinj:∀i j,i<2->j<2->β i=β j->i=j)(hv:Bts w w.heap.size x.A x.n (uv kn))(hvn:∀ad,x.A=some ad->ad.block ∉ ac β 2)(ht:Tens w) :
  Calls Tryz.prog 91 #[.pointer (some ⟨β 0,0,none⟩)] w fun e w'=>e=.returned .nilIface/\Below w.heap.size w w':=by
 obtain⟨nm,A0,n0,cc,sz,pth,tr⟩:=x
 dsimp only at hx hv hvn
 subst hx
 obtain⟨o1,o2,o3⟩:=dY ⟨(uv kn++(uv l.length++l)).toArray⟩ ((uv kn).length+(uv l.length).length) ⟨nm,A0,(uv kn).length,cc,sz,pth,tr⟩ kn (-1) Eb (by simp[Eb,SV.ok,bf])
 have hst:=St.head (P:=Tryz.prog) (Q:=bC fun v w'=>v=.nilIface/\Below w.heap.size w w') o1 hlt hinj hat o2
 refine(gx (hk:=iW) (n:=3000) (args:=[.ptr 0 0]) (Q:=fun v w'=>v=.nilIface/\Below w.heap.size w w') hst ⟨by simp[SV.ok,SS.n],trivial⟩ ?_).mono ?_
 rotate_left
 ·rintro e w' ⟨v,rfl,rfl,h2⟩
  exact⟨rfl,h2⟩
 have hp:=fL kn
 have hu:=jw 9 l.length (Nat.lt_of_le_of_lt hl (by decide))
 have hL:(uv kn++(uv l.length++l)).length=(uv kn).length+((uv l.length).length+l.length):=by simp
 refine ah (vD _ _ _ kn w (ac β 2)) ?_
 have m1:min (uv kn).length ((uv kn).length+((uv l.length).length+l.length))=(uv kn).length:=by omega
 have t2:List.take ((uv kn).length+((uv l.length).length+l.length)) (uv kn++(uv l.length++l))=uv kn++(uv l.length++l):=List.take_of_length_le (by simp)
 have t6:List.take ((uv kn).length+(uv l.length).length+l.length) (uv kn++(uv l.length++l))=uv kn++(uv l.length++l):=List.take_of_length_le (by simp;omega)
 have d2:List.drop ((uv kn).length+(uv l.length).length) (uv kn++(uv l.length++l))=l:=by rw[<- List.drop_drop,List.drop_left,List.drop_left]
 have t3:(uv kn).length+((uv l.length).length+l.length)-((uv kn).length+(uv l.length).length)=l.length:=by omega
 have t4:(uv kn).length+(uv l.length).length+((uv kn).length+((uv l.length).length+l.length)-((uv kn).length+(uv l.length).length))=(uv kn).length+((uv l.length).length+l.length):=by omega
 have t5:((((uv kn).length+(uv l.length).length:Nat)):Int).toNat=(uv kn).length+(uv l.length).length:=rfl
 simp only[jf,jg,aB,hL,Int.toNat_natCast,t5,m1,t4,t3,t2,t6,d2,Nat.sub_zero,Nat.zero_add,List.drop_zero,List.take_left,List.drop_left,Nat.min_self,Nat.add_sub_cancel_left,Nat.add_sub_cancel' (Nat.le_add_right _ _)]
 have below:∀ {Γ:Ctx}{β':Nat->Nat}{s:SS}{w':World},Γ={ P:=Tryz.prog,β0:=β,n0:=2,Q:=bC fun v w'=>v=.nilIface/\Below w.heap.size w w' }->St Γ β' s w'->s.objs.take 2=vO ⟨(uv kn++(uv l.length++l)).toArray⟩ ((uv kn).length+(uv l.length).length) ⟨nm,A0,(uv kn).length,cc,sz,pth,tr⟩ kn (-1) Eb->Keep (ac β 2) w w'->Below w.heap.size w w':=by
  rintro Γ β' s w' rfl hs ho hk
  exact br hk hat (hs.objsAt ho o2) o1 o3
 refine ak (fun h=>by omega) (fun _=>af (fun h=>by have:=eq_of_beq h;omega) (fun _=>ak (fun h=>by omega) (fun _=>aa (by omega) (aE ?_))))
 rintro c0 ⟨_,hc0⟩
 refine aa (by simp) (aa trivial (aa (by simp) (aa (hv.canBytesN (Nat.le_refl _) hvn) (af (fun h=>?_) (fun _=>?_)))))
 ·rw[hv.bytesAt,ia]at h
  simp at h
 refine aa (by omega) (aE ?_)
 rintro c1 ⟨_,hc1⟩
 refine bZ (w:=w) (bs:=ac β 2) (R:=fun(z:RV) _ _=>z=⟨l.length,(uv l.length).length⟩) ⟨rfl,Keep.refl _ _,fun b hb=>.inl hb⟩ (fun x=>⟨rfl,trivial,trivial,trivial,trivial⟩) (fun β' wc hs o hk=>?_) ?_
 ·have h3:=bp (n:=(uv l.length).length+l.length) (hs.at_ 3 _ rfl) (by simp) (hs.lt 3 (by simp[SS.n]))
  refine(fG _ _ _ l.length l _ wc h3 (Nat.le_refl _) hl).mono ?_
  rintro e w' ⟨v,rfl,rfl,hb'⟩
  exact⟨⟨_,_⟩,rfl,hb',rfl⟩
 rintro x2 wc2 w2' b2 hk2 rfl hb2 hkw2 hbs2
 refine aa (by omega) (af (fun h=>by simp at h) (fun _=>af (fun h=>?_) (fun _=>aa (by omega) (aE ?_))))
 ·dsimp only at h
  rw[show i64.wrap (((uv kn).length:Int)+((uv l.length).length:Int))=(((uv kn).length+(uv l.length).length:Nat):Int) by rw[ax (by omega) (by omega)];omega,ax (by omega) (by omega)]at h
  have:=bne_iff_ne.1 h
  omega
 rintro c3 ⟨_,hc3⟩
 refine aa trivial (aa trivial (aa trivial (aa trivial ?_)))
 refine bZ (w:=w) (bs:=ac β 2) (R:=fun(_:ByteArray) _ _=>True) ⟨rfl,hkw2,hbs2⟩ (fun x=>⟨rfl,trivial,trivial,trivial⟩) (fun β' wc hs o hk=>?_) ?_
 ·have h4:=bp (n:=l.length) (hs.at_ 4 _ rfl) rfl (hs.lt 4 (by simp[SS.n]))
  refine(Cz _ _ _ l _ wc h4 (Nat.le_refl _)).mono ?_
  rintro e w' ⟨v,rfl,rfl,hb'⟩
  exact⟨_,rfl,hb',trivial⟩
 rintro x4 wc4 w4 b4 hk4 _ hb4 hkw4 hbs4
 refine aa (by omega) (aE ?_)
 rintro c5 ⟨_,hc5⟩
 refine aa trivial (aa trivial (aa trivial (aa trivial ?_)))
 refine bZ (w:=w) (bs:=ac β 2) (R:=fun(_:Unit) _ _=>True) ⟨rfl,hkw4,hbs4⟩ (fun x=>⟨rfl,trivial⟩) (fun β' wc hs o hk=>?_) ?_
 ·have h6:=bp (n:=l.length) (hs.at_ 6 _ rfl) rfl (hs.lt 6 (by simp[SS.n]))
  refine(kE (.func 167) (.func 168) _ wc fun w1 hw1=>(CA _ _ _ _ l _ w1 (h6.below hw1 (Nat.le_refl _)) hw1.size hn).mono (by rintro e w' ⟨v,rfl,rfl,hb'⟩;exact⟨rfl,hb'⟩)).mono ?_
  rintro e w' ⟨rfl,hb'⟩
  exact⟨(),rfl,hb',trivial⟩
 rintro x6 wc6 w6 b6 hk6 _ hb6 hkw6 hbs6
 exact aM (w:=w) (bs:=ac β 2) ⟨rfl,hkw6,hbs6⟩ fun β' w' hs hk=>⟨_,rfl,rfl,below rfl hs rfl hk⟩
end
section
open Go Go.Rx Go.RowKit
noncomputable abbrev nT(s:ByteArray)(off c3:Nat):SObj:=(.ints .u8 (List.map (fun b=>(↑b.toNat:Int)) (#[].extract 0 0++s.data.extract (↑off:Int).toNat ((↑off:Int).toNat+(s.size-(↑off:Int).toNat))++#[].extract (0+min (s.size-(↑off:Int).toNat) (s.data.size-(↑off:Int).toNat)) 0).toList++List.replicate (c3-(s.extract (↑off:Int).toNat s.size).size) (0:Int)) 5 c3 (c3+1))
noncomputable abbrev lF:List SV:=[(.fn (.func 172) [] []),(.fn (.func 173) [] []),(.fn (.func 174) [] [])]
noncomputable abbrev fk(x:PV)(k:Int):List SV:=[(.str x.name false),(.int .i64 k false),(.xs x.A x.n x.c),(.int .i64 (-1) true),(.bool x.path false),(.ifc 147 (.agg lF))]
noncomputable abbrev fl(s:ByteArray)(off:Nat):List SV:=[(.str s false),(.ptr 1 0),(.int .i64 ((↑off:Int)) false)]
noncomputable abbrev rt(s:ByteArray)(off c3 k0_:Nat):SV:=(.slc k0_ 0 ((s.extract (↑off:Int).toNat s.size).size) c3 false false)
noncomputable abbrev nU(off:Nat)(s:ByteArray):Prop:=((0:Int)<=(↑off:Int)/\(↑off:Int)<=(↑s.size:Int))
noncomputable abbrev zA:ByteArray:=(ByteArray.mk #[99,111,109,112,111,110,101,110,116,32,115,105,122,101,32,109,105,115,109,97,116,99,104,58,32,33,61])
noncomputable abbrev nV(s:ByteArray)(x:PV)(c1:Nat):SObj:=(.ints .u8 (List.map (fun b=>(↑b.toNat:Int)) (#[].extract 0 0++s.data.extract (↑x.n:Int).toNat ((↑x.n:Int).toNat+(s.size-(↑x.n:Int).toNat))++#[].extract (0+min (s.size-(↑x.n:Int).toNat) (s.data.size-(↑x.n:Int).toNat)) 0).toList++List.replicate (c1-(s.extract (↑x.n:Int).toNat s.size).size) (0:Int)) 5 c1 (c1+1))
noncomputable abbrev lG(s:ByteArray)(x:PV)(c0:Nat):SObj:=(.ints .u8 (List.map (fun b=>(↑b.toNat:Int)) (#[].extract 0 0++s.data.extract 0 (0+((↑x.n:Int).toNat-0))++#[].extract (0+min ((↑x.n:Int).toNat-0) (s.data.size-0)) 0).toList++List.replicate (c0-(s.extract 0 (↑x.n:Int).toNat).size) (0:Int)) 5 c0 (c0+1))
noncomputable abbrev uX(s:ByteArray)(off:Nat)(x:PV)(k:Int)(c0 c1 c3 c5:Nat):List SObj:=[(.cells (fl s off) 3 64 0 0),(.cells (fk x k) 6 88 0 0),(lG s x c0),(nV s x c1),(nT s off c3),(.cells lF 3 147 0 0),(nT s off c5)]
theorem OD(s:ByteArray)(off:Nat)(x:PV)(k:Int)(w:World)(bs:List Nat):am Tryz.prog iW 3000 91 [.ptr 0 0] (SS.mk (vO s off x k (-1) Ee) [] true w bs) =
(.split (decide ((↑off:Int) > (↑s.size:Int))) (.leaf .ret [(.ifc 105 (.ptr 2 0))] (SS.mk [(.cells (fl s off) 3 64 0 0),(.cells (fk x k) 6 88 0 0),(.cells [(.str (ByteArray.mk #[99,111,109,112,111,110,101,110,116,32,118,97,108,117,101,83,116,97,114,116,73,100,120,32,105,115,32,103,114,101,97,116,101,114,32,116,104,97,110,32,116,104,101,32,108,101,110,103,116,104,32,111,102,32,116,104,101,32,99,111,109,112,111,110,101,110,116,39,115,32,98,121,116,101,115]) true)] 1 107 0 0)] [] true w bs)) (.split ((↑x.n:Int) == (0:Int)) (.leaf .ret [(.ifc 105 (.ptr 2 0))] (SS.mk [(.cells (fl s off) 3 64 0 0),(.cells (fk x k) 6 88 0 0),(.cells [(.str (ByteArray.mk #[67,111,109,112,111,110,101,110,116,32,105,115,32,109,105,115,115,105,110,103,32,105,116,115,32,112,114,111,116,111,99,111,108,39,115,32,86,67,111,100,101,32,102,105,101,108,100]) true)] 1 107 0 0)] [] true w bs)) (.split (decide ((↑s.size:Int)<(↑x.n:Int))) (.leaf .ret [(.ifc 105 (.ptr 2 0))] (SS.mk [(.cells (fl s off) 3 64 0 0),(.cells (fk x k) 6 88 0 0),(.cells [(.str zA true)] 1 107 0 0)] [] true w bs)) (.need ((0:Int)<=(↑x.n:Int)/\(↑x.n:Int)<=(↑s.size:Int)) (.choose (.appendCap ((s.extract 0 (↑x.n:Int).toNat).size) 0 5) fun c0=>(.need (x.A=x.A/\x.n=x.n/\x.c=x.c) (.need (0=0) (.need (0+(s.extract 0 (↑x.n:Int).toNat).size<=(List.map (fun b=>(↑b.toNat:Int)) (#[].extract 0 0++s.data.extract 0 (0+((↑x.n:Int).toNat-0))++#[].extract (0+min ((↑x.n:Int).toNat-0) (s.data.size-0)) 0).toList++List.replicate (c0-(s.extract 0 (↑x.n:Int).toNat).size) (0:Int)).length) (.need (canBytes w bs x.A x.n) (.split (!(bytesOf (List.take (s.extract 0 (↑x.n:Int).toNat).size (List.drop 0 (List.map (fun b=>(↑b.toNat:Int)) (#[].extract 0 0++s.data.extract 0 (0+((↑x.n:Int).toNat-0))++#[].extract (0+min ((↑x.n:Int).toNat-0) (s.data.size-0)) 0).toList++List.replicate (c0-(s.extract 0 (↑x.n:Int).toNat).size) (0:Int))))).toList == (bytesAt w x.A x.n).toList) (.leaf .ret [(.ifc 105 (.ptr 3 0))] (SS.mk [(.cells (fl s off) 3 64 0 0),(.cells (fk x k) 6 88 0 0),(lG s x c0),(.cells [(.str (ByteArray.mk #[99,111,109,112,111,110,101,110,116,39,115,32,86,67,111,100,101,32,102,105,101,108,100,32,105,115,32,105,110,118,97,108,105,100,58,32,33,61]) true)] 1 107 0 0)] [] true w bs)) (.need ((0:Int)<=(↑x.n:Int)/\(↑x.n:Int)<=(↑s.size:Int)) (.choose (.appendCap ((s.extract (↑x.n:Int).toNat s.size).size) 0 5) fun c1=>(.hc 96 [(.slc 3 0 ((s.extract (↑x.n:Int).toNat s.size).size) c1 false false)] (SS.mk [(.cells (fl s off) 3 64 0 0),(.cells (fk x k) 6 88 0 0),(lG s x c0),(nV s x c1)] [] true w bs) (tK) fun x2 w2 b2=>(.need (nU off s) (.split ((↑x2.size:Int) != (↑(s.extract (↑off:Int).toNat s.size).size:Int)) (.leaf .ret [(.ifc 105 (.ptr 4 0))] (SS.mk [(.cells (fl s off) 3 64 0 0),(.cells (fk x k) 6 88 0 0),(lG s x c0),(nV s x c1),(.cells [(.str (ByteArray.mk #[99,111,109,112,111,110,101,110,116,32,118,97,108,117,101,32,115,105,122,101,32,109,105,115,109,97,116,99,104,58,32,33,61]) true)] 1 107 0 0)] [] true w2 b2)) (.split (i64.wrap (i64.wrap ((↑x.n:Int)+(↑x2.n:Int))+(↑x2.size:Int)) != (↑s.size:Int)) (.leaf .ret [(.ifc 105 (.ptr 4 0))] (SS.mk [(.cells (fl s off) 3 64 0 0),(.cells (fk x k) 6 88 0 0),(lG s x c0),(nV s x c1),(.cells [(.str zA true)] 1 107 0 0)] [] true w2 b2)) (.need (nU off s) (.choose (.appendCap ((s.extract (↑off:Int).toNat s.size).size) 0 5) fun c3=>(.need (Fn.func 172=Fn.func 172) (.need (Fn.func 173=Fn.func 173) (.need (Fn.func 174=Fn.func 174) (.need (0=0) (.hc 173 [(rt s off c3 4)] (SS.mk [(.cells (fl s off) 3 64 0 0),(.cells (fk x k) 6 88 0 0),(lG s x c0),(nV s x c1),(nT s off c3),(.cells lF 3 147 0 0)] [] true w2 b2) (cV) fun x4 w4 b4=>(.need (nU off s) (.choose (.appendCap ((s.extract (↑off:Int).toNat s.size).size) 0 5) fun c5=>(.need (Fn.func 172=Fn.func 172) (.need (Fn.func 173=Fn.func 173) (.need (Fn.func 174=Fn.func 174) (.need (0=0) (.hc 391 [(.agg lF),(rt s off c5 6)] (SS.mk (uX s off x k c0 c1 c3 c5) [] true w4 b4) (dN) fun x6 w6 b6=>(.leaf .ret [(.one .nilIface rfl)] (SS.mk (uX s off x k c0 c1 c3 c5) [] true w6 b6)))))))))))))))))))))))))))))))):=by kernel_rfl
theorem vZ(s:ByteArray)(off:Nat)(x:PV)(k:Int)(w:World)(bs:List Nat):(by have h:=OD s off x k w bs;unfold uX lG nV zA nU rt fl fk lF nT at h;exact type_of% h):=OD s off x k w bs
noncomputable abbrev uW(s:ByteArray)(off:Nat)(x:PV)(k:Int)(c0:Nat):List SObj:=[(.cells (fl s off) 3 64 0 0),(.cells (fk x k) 6 88 0 0),(nT s off c0),(.cells lF 3 147 0 0)]
theorem Od(s:ByteArray)(off:Nat)(x:PV)(k:Int)(w:World)(bs:List Nat):am Tryz.prog iW 3000 72 [.ptr 0 0] (SS.mk (vO s off x k (-1) Ee) [] true w bs) =
(.need (nU off s) (.choose (.appendCap ((s.extract (↑off:Int).toNat s.size).size) 0 5) fun c0=>(.need (Fn.func 172=Fn.func 172) (.need (Fn.func 173=Fn.func 173) (.need (Fn.func 174=Fn.func 174) (.need (0=0) (.hc 173 [(rt s off c0 2)] (SS.mk (uW s off x k c0) [] true w bs) (cV) fun x1 w1 b1=>(.leaf .ret [(.tup [(.str x1 false),(.one .nilIface rfl)])] (SS.mk (uW s off x k c0) [] true w1 b1))))))))):=by kernel_rfl
theorem eZ(s:ByteArray)(off:Nat)(x:PV)(k:Int)(w:World)(bs:List Nat):(by have h:=Od s off x k w bs;unfold uW nU rt fl fk lF nT at h;exact type_of% h):=Od s off x k w bs
end
section
open Go Go.Rx Go.RowKit
theorem Jl{β:Nat->Nat}{w:World}(x:PV)(kn:Nat)(l:List UInt8)(hn:Nm l)(hl:l.length<=2147483647)(hx:x.n=(uv kn).length)(hk:(uv kn).length<20)(hat:aJ β (vO ⟨(uv kn++(uv l.length++l)).toArray⟩ ((uv kn).length+(uv l.length).length) x kn (-1) Ee) w)(hlt:∀i,i<2->β i<w.heap.size)(hinj:∀i j,i<2->j<2->β i=β j->i=j)(hv:Bts w w.heap.size x.A x.n (uv kn))(hvn:∀ad,x.A=some ad->ad.block ∉ ac β 2)(ht:Tens w) :
  Calls Tryz.prog 91 #[.pointer (some ⟨β 0,0,none⟩)] w fun e w'=>e=.returned .nilIface/\Below w.heap.size w w':=by
 obtain⟨nm,A0,n0,cc,sz,pth,tr⟩:=x
 dsimp only at hx hv hvn
 subst hx
 obtain⟨o1,o2,o3⟩:=dY ⟨(uv kn++(uv l.length++l)).toArray⟩ ((uv kn).length+(uv l.length).length) ⟨nm,A0,(uv kn).length,cc,sz,pth,tr⟩ kn (-1) Ee (by simp[Ee,SV.ok,bf])
 have hst:=St.head (P:=Tryz.prog) (Q:=bC fun v w'=>v=.nilIface/\Below w.heap.size w w') o1 hlt hinj hat o2
 refine(gx (hk:=iW) (n:=3000) (args:=[.ptr 0 0]) (Q:=fun v w'=>v=.nilIface/\Below w.heap.size w w') hst ⟨by simp[SV.ok,SS.n],trivial⟩ ?_).mono ?_
 rotate_left
 ·rintro e w' ⟨v,rfl,rfl,h2⟩
  exact⟨rfl,h2⟩
 have hp:=fL kn
 have hu:=jw 9 l.length (Nat.lt_of_le_of_lt hl (by decide))
 have hL:(uv kn++(uv l.length++l)).length=(uv kn).length+((uv l.length).length+l.length):=by simp
 refine ah (vZ _ _ _ kn w (ac β 2)) ?_
 have m1:min (uv kn).length ((uv kn).length+((uv l.length).length+l.length))=(uv kn).length:=by omega
 have t2:List.take ((uv kn).length+((uv l.length).length+l.length)) (uv kn++(uv l.length++l))=uv kn++(uv l.length++l):=List.take_of_length_le (by simp)
 have t6:List.take ((uv kn).length+(uv l.length).length+l.length) (uv kn++(uv l.length++l))=uv kn++(uv l.length++l):=List.take_of_length_le (by simp;omega)
 have d2:List.drop ((uv kn).length+(uv l.length).length) (uv kn++(uv l.length++l))=l:=by rw[<- List.drop_drop,List.drop_left,List.drop_left]
 have t3:(uv kn).length+((uv l.length).length+l.length)-((uv kn).length+(uv l.length).length)=l.length:=by omega
 have t4:(uv kn).length+(uv l.length).length+((uv kn).length+((uv l.length).length+l.length)-((uv kn).length+(uv l.length).length))=(uv kn).length+((uv l.length).length+l.length):=by omega
 have t5:((((uv kn).length+(uv l.length).length:Nat)):Int).toNat=(uv kn).length+(uv l.length).length:=rfl
 simp only[jf,jg,aB,hL,Int.toNat_natCast,t5,m1,t4,t3,t2,t6,d2,Nat.sub_zero,Nat.zero_add,List.drop_zero,List.take_left,List.drop_left,Nat.min_self,Nat.add_sub_cancel_left,Nat.add_sub_cancel' (Nat.le_add_right _ _)]
 have below:∀ {Γ:Ctx}{β':Nat->Nat}{s:SS}{w':World},Γ={ P:=Tryz.prog,β0:=β,n0:=2,Q:=bC fun v w'=>v=.nilIface/\Below w.heap.size w w' }->St Γ β' s w'->s.objs.take 2=vO ⟨(uv kn++(uv l.length++l)).toArray⟩ ((uv kn).length+(uv l.length).length) ⟨nm,A0,(uv kn).length,cc,sz,pth,tr⟩ kn (-1) Ee->Keep (ac β 2) w w'->Below w.heap.size w w':=by
  rintro Γ β' s w' rfl hs ho hk
  exact br hk hat (hs.objsAt ho o2) o1 o3
 refine ak (fun h=>by omega) (fun _=>af (fun h=>by have:=eq_of_beq h;omega) (fun _=>ak (fun h=>by omega) (fun _=>aa (by omega) (aE ?_))))
 rintro c0 ⟨_,hc0⟩
 refine aa (by simp) (aa trivial (aa (by simp) (aa (hv.canBytesN (Nat.le_refl _) hvn) (af (fun h=>?_) (fun _=>?_)))))
 ·rw[hv.bytesAt,ia]at h
  simp at h
 refine aa (by omega) (aE ?_)
 rintro c1 ⟨_,hc1⟩
 refine bZ (w:=w) (bs:=ac β 2) (R:=fun(z:RV) _ _=>z=⟨l.length,(uv l.length).length⟩) ⟨rfl,Keep.refl _ _,fun b hb=>.inl hb⟩ (fun x=>⟨rfl,trivial,trivial,trivial,trivial⟩) (fun β' wc hs o hk=>?_) ?_
 ·have h3:=bp (n:=(uv l.length).length+l.length) (hs.at_ 3 _ rfl) (by simp) (hs.lt 3 (by simp[SS.n]))
  refine(fG _ _ _ l.length l _ wc h3 (Nat.le_refl _) hl).mono ?_
  rintro e w' ⟨v,rfl,rfl,hb'⟩
  exact⟨⟨_,_⟩,rfl,hb',rfl⟩
 rintro x2 wc2 w2' b2 hk2 rfl hb2 hkw2 hbs2
 refine aa (by omega) (af (fun h=>by simp at h) (fun _=>af (fun h=>?_) (fun _=>aa (by omega) (aE ?_))))
 ·dsimp only at h
  rw[show i64.wrap (((uv kn).length:Int)+((uv l.length).length:Int))=(((uv kn).length+(uv l.length).length:Nat):Int) by rw[ax (by omega) (by omega)];omega,ax (by omega) (by omega)]at h
  have:=bne_iff_ne.1 h
  omega
 rintro c3 ⟨_,hc3⟩
 refine aa trivial (aa trivial (aa trivial (aa trivial ?_)))
 refine bZ (w:=w) (bs:=ac β 2) (R:=fun(_:ByteArray) _ _=>True) ⟨rfl,hkw2,hbs2⟩ (fun x=>⟨rfl,trivial,trivial,trivial⟩) (fun β' wc hs o hk=>?_) ?_
 ·have h4:=bp (n:=l.length) (hs.at_ 4 _ rfl) rfl (hs.lt 4 (by simp[SS.n]))
  refine(A8 _ _ _ l _ wc h4 (Nat.le_refl _) hn).mono ?_
  rintro e w' ⟨v,rfl,rfl,hb'⟩
  exact⟨_,rfl,hb',trivial⟩
 rintro x4 wc4 w4 b4 hk4 _ hb4 hkw4 hbs4
 refine aa (by omega) (aE ?_)
 rintro c5 ⟨_,hc5⟩
 refine aa trivial (aa trivial (aa trivial (aa trivial ?_)))
 refine bZ (w:=w) (bs:=ac β 2) (R:=fun(_:Unit) _ _=>True) ⟨rfl,hkw4,hbs4⟩ (fun x=>⟨rfl,trivial⟩) (fun β' wc hs o hk=>?_) ?_
 ·have h6:=bp (n:=l.length) (hs.at_ 6 _ rfl) rfl (hs.lt 6 (by simp[SS.n]))
  refine(jz (.func 172) (.func 173) _ wc fun w1 hw1=>(A9 _ _ _ _ l _ w1 (h6.below hw1 (Nat.le_refl _)) hw1.size hn).mono (by rintro e w' ⟨v,rfl,rfl,hb'⟩;exact⟨rfl,hb'⟩)).mono ?_
  rintro e w' ⟨rfl,hb'⟩
  exact⟨(),rfl,hb',trivial⟩
 rintro x6 wc6 w6 b6 hk6 _ hb6 hkw6 hbs6
 exact aM (w:=w) (bs:=ac β 2) ⟨rfl,hkw6,hbs6⟩ fun β' w' hs hk=>⟨_,rfl,rfl,below rfl hs rfl hk⟩
end
end Go.Proofs.YtnklanajebphpaaGreatDoor
