/- Joined texts: S9 K45 S11 Sh2 S12 S12b M6t Sh3 S10 K47 K48 S13 S4 K42 K44. -/
import Derived.Test.YtnklanajebphpaaGreatDoorJ10
import Derived.Test.YtnklanajebphpaaGreatDoorJ8
import Derived.Shelf.LaysM
import Derived.Shelf.Bytes.WriteAny
import Derived.Test.YtnklanajebphpaaGreatDoorProg
import Derived.Test.YtnklanajebphpaaGreatDoorJ2
import Derived.Test.YtnklanajebphpaaGreatDoorJ3
import Derived.Shelf.Strings.OnBuilder
import Derived.Shelf.Strings.Builder1
import Derived.Shelf.Strings.Builder2
import Derived.Test.YtnklanajebphpaaGreatDoorJ4
import Derived.Test.YtnklanajebphpaaGreatDoorJ6
import Derived.Lib.AppendStr
import Derived.Test.YtnklanajebphpaaGreatDoorChecked
import Derived.WalkKit
import Derived.Defers
import Derived.Recover
set_option maxRecDepth 100000
set_option maxHeartbeats 4000000
set_option linter.unusedVariables false
set_option linter.unusedSimpArgs false
namespace Go.Proofs.YtnklanajebphpaaGreatDoor
open IntKind
section
open Go Go.RowKit Go.Rx
theorem KT:(Tryz.prog.info? 9).map (fun i=>(i.zero,i.size,i.bytes))=some (some (.string ⟨#[]⟩),1,16):=by kernel_rfl
abbrev yh(l:List (List UInt8)):List Value:=l.map fun x=>Value.string ⟨x.toArray⟩
def StrsAt(w:World)(B:Nat)(A:Option Addr)(n:Nat)(l:List (List UInt8)):Prop:=SeqAt (fun a (x:List UInt8)=>w.cell? a=some (.string ⟨x.toArray⟩)) 1 B A n l
theorem StrsAt.below{w w':World}{B B':Nat}{A:Option Addr}{n:Nat}{l:List (List UInt8)}(h:StrsAt w B A n l)(hb:Below B w w')(hB:B<=B'):StrsAt w' B' A n l:=
 h.imp hB fun a x ha hx=>by rw[cg hb ha];exact hx
theorem yi(a:List (List UInt8))(x:List UInt8):yh (a++[x])=yh a++[Value.string ⟨x.toArray⟩]:=by simp[yh]
def Pz(l:List UInt8)(w:World)(v:Value)(w':World):Prop:=∃b c,v=.slice (some ⟨b,0,none⟩) (ck l).length c/\(ck l).length<=c/\StrsAt w' w'.heap.size (some ⟨b,0,none⟩) (ck l).length (ck l)/\∃cur,w'.heap[b]?=some (.cells cur 9 (0,0))/\cur.toList.take (ck l).length=yh (ck l)
theorem Es{w:World}{B:Nat}{v:Value}{l:List (List UInt8)}(h:w.ownsRow B 9 1 v l.length (yh l))(hl:l≠[]):∃b c,v=.slice (some ⟨b,0,none⟩) l.length c/\l.length<=c/\StrsAt w w.heap.size (some ⟨b,0,none⟩) l.length l/\∃cur,w.heap[b]?=some (.cells cur 9 (0,0))/\cur.toList.take l.length=yh l:=by
 rcases h.2 with⟨_,h0⟩ |⟨b,c,cur,rfl,hB,hg,hc,_,hsz,htk⟩
 ·exact absurd (List.eq_nil_of_length_eq_zero h0) hl
 ·refine⟨b,c,rfl,hc,⟨rfl,fun _=>⟨_,rfl,cS hg,fun i x hi=>?_⟩⟩,cur,hg,by rw[<- htk,Nat.mul_one]⟩
  have ha:(Addr.add ⟨b,0,none⟩ (i*1))=⟨b,i,none⟩:=by unfold Addr.add;split <;> simp_all
  have hil:i<l.length:=(List.getElem?_eq_some_iff.1 hi).1
  rw[ha]
  show w.cell? _=_
  rw[Lib.cell_of_heap hg]
  have e1:(cur.toList.take (l.length*1))[i]?=cur.toList[i]?:=by rw[List.getElem?_take,if_pos (by omega)]
  rw[<- Array.getElem?_toList,<- e1,htk,List.getElem?_map,hi]
  rfl
def MT(l:List UInt8)(w:World)(s v:Value)(wr:World):Prop:=∃(r:List UInt8) (pre:List (List UInt8)),s=.string ⟨r.toArray⟩/\r.length<=l.length/\ck l=pre++ck r/\wr.ownsRow w.heap.size 9 1 v pre.length (yh pre)/\Below w.heap.size w wr
theorem qH:∀l:List UInt8,(ck l).length<=l.length+1
 |[]=>by simp[ck]
 |x :: r=>by
  have:=qH r
  rw[ck]
  split
  ·simp only[List.length_cons];omega
  ·split
   ·simp
   ·rename_i h
    rw[h]at this
    simp only[List.length_cons]at this ⊢
    omega
def lenOf:Value->Nat
 | .string s=>s.size
 |_=>0
theorem C7(l:List UInt8)(hl:l.length<2^40)(w:World):Calls Tryz.prog 78 #[.string ⟨l.toArray⟩,.string ⟨#[47]⟩] w (bB (Pz l w) w):=by
 have hid0:=Hid.mk hl
 clear hl
 obtain⟨i0,hi,hz0,hz1,hz2⟩:=info_parts KT
 go_enter Tryz.func78,Tryz.ntmps78
 go_wp2
 go_loopw [0,5] (fun s v wr=>MT l w s v wr) (fun s _ _=>lenOf s)
 case atStart=>exact⟨l,[],rfl,Nat.le_refl _,rfl,World.ownsRow_nil _ _ _ _,Below.refl _ _⟩
 case round=>
  obtain⟨r,pre,rfl,hrl,hcut,hown,hnx⟩:=hrel
  have hl:=hid0.out
  have hid1:=Hid.mk (And.intro hrl (And.intro hcut (And.intro hown hnx)))
  have hrl2:r.length<2^61:=by omega
  clear hrl hcut hown hnx hl
  go_wp2_with fail
  refine(C6 r hrl2 _).mono ?_
  rintro e w1 ⟨v,rfl,hv,hb1⟩
  obtain⟨hrl,hcut,hown,hnx⟩:=hid1.out
  have hl:=hid0.out
  have own1:=mA hown hb1 (Nat.le_refl _)
  have hnx1:Below w.heap.size w w1:=hnx.trans (hb1.mono hnx.size)
  have hpl:pre.length+(ck r).length<=l.length+1:=by have:=qH l;rw[hcut,List.length_append]at this;exact this
  rcases hv with⟨rfl,hall⟩ |⟨a,b,hr,ha,rfl⟩
  ·have hc:=iy hall
   have hidn:=Hid.mk (And.intro (And.intro hpl hl) (And.intro hnx1.size (And.intro hnx1 (And.intro own1 (And.intro hcut hc)))))
   clear hrl hcut hown hnx hl hnx1 hpl hall hc hb1 own1 hrl2
   go_wp2_with (at_builtin;refine wpList_append_own _ rfl _ _ 113 rfl w.heap.size 9 i0 (.string ⟨#[]⟩) 1 16 Tryz.underlying113 hi hz0 hz1 hz2 rfl (by decide) _ _ _ rfl (hidn.out.2.2.2.1.alloc _) ⟨w1.heap.size,0,none⟩ 1 1 [.string ⟨r.toArray⟩] rfl rfl ?c1 ?c2 ?c3 ?c4 ?c5 ?_)
   case c1=>
    intro j u hj
    match j,hj with
    |0,hj=>simp at hj;subst hj;simp[Addr.add]
   case c2=>intro u hu;simp at hu;subst hu;rfl
   case c3=>obtain⟨⟨_,_⟩,_⟩:=hidn.out;unfold maxLen;omega
   case c4=>obtain⟨⟨_,_⟩,_⟩:=hidn.out;omega
   case c5=>have:=hidn.out.2.1;rw[cp];omega
   intro v' w2 hown' hgrow _
   have h1:=Hid.mk (And.intro hown' hgrow)
   clear hown' hgrow
   go_wp2
   go_ret
   refine⟨_,rfl,?_,(hidn.out.2.2.1.alloc hidn.out.2.1 _).grown h1.out.2 (by have:=hidn.out.2.1;rw[cp];omega) (fun k hk=>(hidn.out.2.2.2.1.lt k hk).1)⟩
   have hc:=hidn.out.2.2.2.2
   refine Es (B:=w.heap.size) (l:=ck l) ?_ (tX l)
   rw[hc.1,hc.2,List.length_append,yi]
   exact h1.out.1
  ·have hc:ck r=a :: ck b:=by rw[hr];exact ia b ha
   have hcut2:ck l=(pre++[a])++ck b:=by rw[hcut,hc];simp
   have hbl:b.length<r.length:=by rw[hr];simp;omega
   have hext:(⟨r.toArray⟩:ByteArray).extract 0 a.length=⟨a.toArray⟩:=by
    have:=Dx r a.length
    apply ByteArray.ext
    rw[ByteArray.data_extract]
    apply Array.ext'
    rw[hr]
    simp
   have hext2:(⟨r.toArray⟩:ByteArray).extract (a.length+1) r.length=⟨b.toArray⟩:=by
    apply ByteArray.ext
    rw[ByteArray.data_extract]
    apply Array.ext'
    rw[hr]
    simp
    exact List.take_of_length_le (by omega)
   have hsz:(⟨r.toArray⟩:ByteArray).size=r.length:=aC _
   have hal:a.length+1+b.length=r.length:=by rw[hr];simp;omega
   have hidn:=Hid.mk (And.intro (And.intro hpl hl) (And.intro hnx1.size (And.intro hnx1 (And.intro own1 (And.intro hcut2 (And.intro hrl hbl))))))
   clear hr hrl hcut hown hnx hl hnx1 hpl hc hb1 own1 hcut2 ha hbl
   go_wp2_with (at_builtin;refine wpList_append_own _ rfl _ _ 113 rfl w.heap.size 9 i0 (.string ⟨#[]⟩) 1 16 Tryz.underlying113 hi hz0 hz1 hz2 rfl (by decide) _ _ _ rfl (hidn.out.2.2.2.1.alloc _) ⟨w1.heap.size,0,none⟩ 1 1 [.string ⟨a.toArray⟩] rfl rfl ?c1 ?c2 ?c3 ?c4 ?c5 ?_)
   case c1=>
    intro j u hj
    match j,hj with
    |0,hj=>simp at hj;subst hj;simp[Addr.add]
   case c2=>intro u hu;simp at hu;subst hu;rfl
   case c3=>obtain⟨⟨_,_⟩,_⟩:=hidn.out;unfold maxLen;omega
   case c4=>obtain⟨⟨_,_⟩,_⟩:=hidn.out;omega
   case c5=>have:=hidn.out.2.1;rw[cp];omega
   intro v' w2 hown' hgrow _
   have h1:=Hid.mk (And.intro hown' hgrow)
   clear hown' hgrow
   go_wp2
   refine⟨⟨b,pre++[a],rfl,?_,hidn.out.2.2.2.2.1,?_,(hidn.out.2.2.1.alloc hidn.out.2.1 _).grown h1.out.2 (by have:=hidn.out.2.1;rw[cp];omega) (fun k hk=>(hidn.out.2.2.2.1.lt k hk).1)⟩,?_⟩
   ·have:=hidn.out.2.2.2.2.2
    omega
   ·rw[List.length_append,yi]
    exact h1.out.1
   ·show(⟨b.toArray⟩:ByteArray).size<(⟨r.toArray⟩:ByteArray).size
    rw[aC,aC]
    exact hidn.out.2.2.2.2.2.2
end
section
open Go Go.Rx Go.RowKit
def OkL:List CT->Prop
 |[]=>True
 |x :: l=>((ai x.c.code).path=true->l=[])/\OkL l
def Cf(x:CT):List (List UInt8):=tR x.c.code x.txt
def aN(l:List CT):List (List UInt8):=l.flatMap Cf
theorem ld(x:CT)(l:List CT):bN (x :: l)=bz x.c.code x.txt++bN l:=rfl
theorem dP(x:CT)(l:List CT):aN (x :: l)=Cf x++aN l:=rfl
theorem nt:∀(l:List CT),OkL l->l≠[]->∃r,bN l=47 :: r/\ck r=aN l
 |[],_,h=>absurd rfl h
 |x :: l,hok,_=>by
  obtain⟨hp,hl⟩:=hok
  have hnm:=(oV _ x.hs.tab).1
  rw[ld,dP]
  rcases x.hs.facts with⟨ht,hs,hpa,hc⟩ |⟨ht,hs,hpa,hc⟩ |⟨r,ht,hs,hpa,hpt,hc⟩
  ·have hcp:Cf x=[(ai x.c.code).name]:=by
    unfold Cf tR
    rw[if_pos hs]
   rw[hc,hcp]
   refine⟨(ai x.c.code).name++bN l,rfl,?_⟩
   by_cases h0:l=[]
   ·subst h0
    show ck ((ai x.c.code).name++[])=[_]++[]
    rw[List.append_nil,iy hnm]
    rfl
   ·obtain⟨r',hr',hcr⟩:=nt l hl h0
    rw[hr',ia r' hnm,hcr]
    rfl
  ·have hpl:=x.hs.plain hpa
   have hcp:Cf x=[(ai x.c.code).name,x.txt]:=by
    unfold Cf tR
    rw[if_neg hs,hpa]
    rfl
   rw[hc,hcp]
   refine⟨(ai x.c.code).name++47 :: (x.txt++bN l),by simp,?_⟩
   rw[ia _ hnm]
   by_cases h0:l=[]
   ·subst h0
    show _ :: ck (x.txt++[])=_
    rw[List.append_nil,iy hpl]
    rfl
   ·obtain⟨r',hr',hcr⟩:=nt l hl h0
    rw[hr',ia r' hpl,hcr]
    rfl
  ·have h0:=hp hpa
   subst h0
   have hcp:Cf x=(ai x.c.code).name :: ck r:=by
    unfold Cf tR
    rw[if_neg hs,hpa,ht]
    rfl
   rw[hc,hcp]
   refine⟨(ai x.c.code).name++47 :: r,by rw[ht];simp[bN],?_⟩
   rw[ia _ hnm]
   simp[aN]
theorem FT(l:List CT)(hok:OkL l)(h:l≠[]):ck (bN l)=[] :: aN l:=by
 obtain⟨r,hr,hc⟩:=nt l hok h
 rw[hr,qI,hc]
theorem te:∀ {l:List CT},l≠[]->aN l≠[]
 |[],h=>absurd rfl h
 |x :: l,_=>by simp[dP,Cf,tR]
theorem qq:∀(l:List CT),OkL l->l≠[]->∃u x,bN l=u++[x]/\x≠47
 |[],_,h=>absurd rfl h
 |x :: l,hok,_=>by
  obtain⟨hp,hl⟩:=hok
  by_cases h0:l=[]
  ·subst h0
   have last:∀ {a:List UInt8},a≠[]->(∀y∈a,y≠47)->∀pre:List UInt8,∃u z,pre++a=u++[z]/\z≠47:=fun{a} ha hpl pre=>
    ⟨pre++a.dropLast,a.getLast ha,by rw[List.append_assoc,List.dropLast_concat_getLast],hpl _ (List.getLast_mem ha)⟩
   have hnm:=oV _ x.hs.tab
   rw[ld,show bN []=[] from rfl,List.append_nil]
   rcases x.hs.facts with⟨ht,hs,hpa,hc⟩ |⟨ht,hs,hpa,hc⟩ |⟨r,ht,hs,hpa,hpt,hc⟩
   ·rw[hc]
    exact last hnm.2 hnm.1 [47]
   ·rw[hc]
    obtain⟨u,z,h1,h2⟩:=last ht (x.hs.plain hpa) (47 :: ((ai x.c.code).name++[47]))
    exact⟨u,z,by rw[<- h1];simp,h2⟩
   ·rw[hc]
    obtain⟨h2,_,h4⟩:=hpt
    have hne:x.txt≠[]:=by rw[ht];simp
    refine⟨47 :: ((ai x.c.code).name++x.txt.dropLast),x.txt.getLast hne,by simp[List.dropLast_concat_getLast],?_⟩
    rw[List.getD_eq_getElem?_getD,<- List.getLast?_eq_getElem?,List.getLast?_eq_some_getLast hne]at h4
    exact h4
  ·obtain⟨u,z,h1,h2⟩:=qq l hl h0
   exact⟨bz x.c.code x.txt++u,z,by rw[ld,h1,List.append_assoc],h2⟩
theorem Simple.val_pos{k:Int}{val txt:List UInt8}(hs:Simple k val txt)(h:(ai k).size≠0):0<val.length:=by
 cases hs with
 |N hk hz=>exact absurd hz h
 |P=>simp
 |F=>simp
 |S _ _ _ _ l hl=>omega
 |C=>simp
 |M=>simp
 |D _ _ _ _ _ hn=>exact List.length_pos_iff.2 hn.1
 |Z _ _ _ _ _ hn=>exact List.length_pos_iff.2 hn.1
 |U _ _ _ _ _ hn=>
  obtain⟨r,hr⟩:=hn.head
  rw[hr]
  simp
theorem Simple.pathU{k:Int}{val txt:List UInt8}(hs:Simple k val txt)(hp:(ai k).path=true):txt=val/\∃r,txt=47 :: r:=by
 cases hs with
 |U _ _ _ _ _ hn=>exact⟨rfl,hn.head⟩
 |N _ _ h=>rw[h]at hp;cases hp
 |P _ _ h=>rw[h]at hp;cases hp
 |F _ _ h=>rw[h]at hp;cases hp
 |S _ _ h=>rw[h]at hp;cases hp
 |C _ _ h=>rw[h]at hp;cases hp
 |M _ _ h=>rw[h]at hp;cases hp
 |D _ _ h=>rw[h]at hp;cases hp
 |Z _ _ h=>rw[h]at hp;cases hp
theorem OkL.last:∀ {done rs:List CT}{x:CT},OkL (done++x :: rs)->(ai x.c.code).path=true->rs=[]
 |[],_,_,h,hp=>h.1 hp
 |_ :: done,_,_,h,hp=>OkL.last (done:=done) h.2 hp
theorem Simple.cls{k:Int}{val txt:List UInt8}(hs:Simple k val txt):((ai k).size=0/\(ai k).tr=.nilIface/\val=[]/\txt=[])∨(ai k).size≠0:=by
 cases hs with
 |N hk hz hp htr=>exact .inl ⟨hz,(htr id).symm,rfl,rfl⟩
 |P hk hz=>exact .inr (by omega)
 |F hk hz=>exact .inr (by omega)
 |S hk hz=>exact .inr (by omega)
 |C hk hz=>exact .inr (by omega)
 |M hk hz=>exact .inr (by omega)
 |D hk hz=>exact .inr (by omega)
 |Z hk hz=>exact .inr (by omega)
 |U hk hz=>exact .inr (by omega)
end
section
open Go Go.RowKit Go.Rx
theorem rC(F:FuncId)(he:∀args w,(callFunc F args).run Tryz.prog w=.ok (.enter F args) w)(g:Fn)(s:ByteArray)(val:List UInt8)(w:World)(hc:∀w1,Below w.heap.size w w1->Calls Tryz.prog F #[.string s] w1 (bB (SQ val w1) w1)) :
  Calls Tryz.prog 390 #[.agg #[.func (.func F) #[] #[],.func g #[] #[],.nilFunc],.string s] w (bB (SQ val w) w):=by
 have hal:=Below.alloc (Below.refl w.heap.size w) (Nat.le_refl _) (Obj.cells #[Value.func (.func F) #[] #[],Value.func g #[] #[],Value.nilFunc] 147)
 have h1:=hc _ hal
 clear hc
 go_enter Tryz.func390,Tryz.ntmps390
 go_wp2_with (go_at_fn F;refine h1.mono ?_;rintro e w' ⟨v,rfl,⟨b,o,c,rfl,q1,q2,q3⟩,hb⟩)
 go_ret2
 refine⟨_,rfl,⟨b,o,c,rfl,q1,q2,Nat.le_trans hal.size q3⟩,hal.trans (hb.mono hal.size)⟩
theorem jP(F:FuncId)(he:∀args w,(callFunc F args).run Tryz.prog w=.ok (.enter F args) w)(g h:Fn)(s:ByteArray)(val:List UInt8)(w:World)(hc:∀w1,Below w.heap.size w w1->Calls Tryz.prog F #[.string s] w1 (bB (SQ val w1) w1)) :
  Calls Tryz.prog 390 #[.agg #[.func (.func F) #[] #[],.func g #[] #[],.func h #[] #[]],.string s] w (bB (SQ val w) w):=by
 have hal:=Below.alloc (Below.refl w.heap.size w) (Nat.le_refl _) (Obj.cells #[Value.func (.func F) #[] #[],Value.func g #[] #[],Value.func h #[] #[]] 147)
 have h1:=hc _ hal
 clear hc
 go_enter Tryz.func390,Tryz.ntmps390
 go_wp2_with (go_at_fn F;refine h1.mono ?_;rintro e w' ⟨v,rfl,⟨b,o,c,rfl,q1,q2,q3⟩,hb⟩)
 go_ret2
 refine⟨_,rfl,⟨b,o,c,rfl,q1,q2,Nat.le_trans hal.size q3⟩,hal.trans (hb.mono hal.size)⟩
def FM(v:Value)(val txt:List UInt8)(X:Nat)(w:World):Prop:=(∀w1,Below X w w1->X<=w1.heap.size->Calls Tryz.prog 390 #[v,.string ⟨txt.toArray⟩] w1 (bB (SQ val w1) w1)) /\
 ∀w1 b o c B,Below X w w1->X<=w1.heap.size->Bts w1 B (some ⟨b,o,none⟩) val.length val->B<=w1.heap.size->val.length<=c->Calls Tryz.prog 391 #[v,.slice (some ⟨b,o,none⟩) val.length c] w1 fun e w'=>e=.returned .nilIface/\Below w1.heap.size w1 w'
theorem qC{f:FuncId}{args:Array Value}{w:World}(h:Calls Tryz.prog f args w (bB NQ w)):Calls Tryz.prog f args w fun e w'=>e=.returned .nilIface/\Below w.heap.size w w':=
 h.mono fun _ _ ⟨_,he,hv,hb⟩=>⟨by rw[he,hv],hb⟩
theorem JO{k:Int}{val txt:List UInt8}(hs:Simple k val txt)(h0:(ai k).size≠0)(hl:val.length<=2147483647)(w:World)(ht:Tens w) :
  ∃v,(ai k).tr=.iface 147 v/\FM v val txt w.heap.size w:=by
 cases hs with
 |N hk hz hp htr=>exact absurd hz h0
 |P hk hz hp htr a b=>
  refine⟨_,(htr id).symm,fun w1 hb hX=>rC _ (enters_of Tryz.func165 (by kernel_rfl) rfl) _ _ _ w1 fun w2 hb2=>?_,fun w1 bb o c B hb hX hbt hB hc=>eG _ _ _ w1⟩
  exact Bw a b w2 ((ht.below hb ht.lt).below hb2 (ht.below hb ht.lt).lt)
 |F hk hz hp htr a b c d=>
  refine⟨_,(htr id).symm,fun w1 hb hX=>rC _ (enters_of Tryz.func163 (by kernel_rfl) rfl) _ _ _ w1 fun w2 hb2=>?_,fun w1 bb o c B hb hX hbt hB hc=>eG _ _ _ w1⟩
  exact DJ a b c d w2
 |S hk hz hp htr _ hl16=>
  refine⟨_,(htr id).symm,fun w1 hb hX=>rC _ (enters_of Tryz.func170 (by kernel_rfl) rfl) _ _ _ w1 fun w2 hb2=>?_,fun w1 bb o c B hb hX hbt hB hc=>eG _ _ _ w1⟩
  exact xJ hl16 w2
 |C hk hz hp htr a=>
  refine⟨_,(htr id).symm,fun w1 hb hX=>jP _ (enters_of Tryz.func175 (by kernel_rfl) rfl) _ _ _ _ w1 fun w2 hb2=>?_,fun w1 bb o c B hb hX hbt hB hc=>jQ _ _ _ w1 fun w2 hb2=>qC (AY _ _ w2)⟩
  rw[jC a.toNat_lt];exact AX a w2
 |M hk hz hp htr a b c d e f g h=>
  refine⟨_,(htr id).symm,fun w1 hb hX=>jP _ (enters_of Tryz.func202 (by kernel_rfl) rfl) _ _ _ _ w1 fun w2 hb2=>?_,fun w1 bb o c B hb hX hbt hB hc=>kX _ _ _ w1 fun w2 hb2=>qC (Eh _ _ w2)⟩
  exact Eg a b c d e f g h w2 ((ht.below hb ht.lt).below hb2 (ht.below hb ht.lt).lt)
 |D hk hz hp htr _ hn=>
  refine⟨_,(htr id).symm,fun w1 hb hX=>jP _ (enters_of Tryz.func167 (by kernel_rfl) rfl) _ _ _ _ w1 fun w2 hb2=>?_,fun w1 bb o c B hb hX hbt hB hc=>kW _ _ _ w1 fun w2 hb2=>qC (Du _ _ _ _ _ B w2 (hbt.below (hb2.mono hB) (Nat.le_refl _)) (Nat.le_trans hB hb2.size) hn)⟩
  exact Dt _ hn w2
 |Z hk hz hp htr _ hn=>
  refine⟨_,(htr id).symm,fun w1 hb hX=>jP _ (enters_of Tryz.func172 (by kernel_rfl) rfl) _ _ _ _ w1 fun w2 hb2=>?_,fun w1 bb o c B hb hX hbt hB hc=>jS _ _ _ w1 fun w2 hb2=>qC (B1 _ _ _ _ _ B w2 (hbt.below (hb2.mono hB) (Nat.le_refl _)) (Nat.le_trans hB hb2.size) hn)⟩
  exact B0 _ (by omega) hn w2
 |U hk hz hp htr _ hn=>
  refine⟨_,(htr id).symm,fun w1 hb hX=>jP _ (enters_of Tryz.func199 (by kernel_rfl) rfl) _ _ _ _ w1 fun w2 hb2=>?_,fun w1 bb o c B hb hX hbt hB hc=>jR _ _ _ w1 fun w2 hb2=>qC (BK _ _ _ _ B w2 (hbt.below (hb2.mono hB) (Nat.le_refl _)) (Nat.le_trans hB hb2.size) hn (by omega))⟩
  exact BJ _ w2
end
section
open Go.Shelf Go.Proofs
def Tryz.laysM180_ren:Go.Shelf.Ren:=⟨fun |180=>79 |251=>93 |252=>94 |181=>138 |184=>139 |290=>140 |324=>160 |n=>n,fun |130=>129 |37=>22 |3=>3 |75=>53 |0=>0 |93=>112 |91=>110 |131=>130 |4=>4 |20=>20 |5=>5 |80=>66 |9=>9 |n=>n,fun |14=>1 |n=>n⟩
theorem Tryz.laysM180:Go.Proofs.LaysM.n180 Tryz.prog Tryz.laysM180_ren:={
 mixed:=by kernel_rfl
 f180:=Tryz.func79.trans (congrArg some (by kernel_rfl))
 f181:=Tryz.func138.trans (congrArg some (by kernel_rfl))
 f184:=Tryz.func139.trans (congrArg some (by kernel_rfl))
 f251:=Tryz.func93.trans (congrArg some (by kernel_rfl))
 f252:=Tryz.func94.trans (congrArg some (by kernel_rfl))
 f290:=Tryz.func140.trans (congrArg some (by kernel_rfl))
 f324:=Tryz.func160.trans (congrArg some (by kernel_rfl))
 t0:=Tryz.underlying0
 a0:=Tryz.isAgg0
 z0:=Tryz.sizeOf0
 v0:=Tryz.zeroValue0
 t3:=Tryz.underlying3
 a3:=Tryz.isAgg3
 z3:=Tryz.sizeOf3
 v3:=Tryz.zeroValue3
 t4:=Tryz.underlying4
 a4:=Tryz.isAgg4
 z4:=Tryz.sizeOf4
 v4:=Tryz.zeroValue4
 t20:=Tryz.underlying20
 a20:=Tryz.isAgg20
 z20:=Tryz.sizeOf20
 v20:=Tryz.zeroValue20
 t37:=Tryz.underlying22
 a37:=Tryz.isAgg22
 z37:=Tryz.sizeOf22
 v37:=Tryz.zeroValue22
 t75:=Tryz.underlying53
 a75:=Tryz.isAgg53
 z75:=Tryz.sizeOf53
 v75:=Tryz.zeroValue53
 t91:=Tryz.underlying110
 a91:=Tryz.isAgg110
 z91:=Tryz.sizeOf110
 v91:=Tryz.zeroValue110
 t93:=Tryz.underlying112
 a93:=Tryz.isAgg112
 z93:=Tryz.sizeOf112
 v93:=Tryz.zeroValue112
 t130:=Tryz.underlying129
 a130:=Tryz.isAgg129
 z130:=Tryz.sizeOf129
 v130:=Tryz.zeroValue129
 t131:=Tryz.underlying130
 a131:=Tryz.isAgg130
 z131:=Tryz.sizeOf130
 v131:=Tryz.zeroValue130
 g14:=by kernel_rfl
 t5:=Tryz.underlying5
 a5:=Tryz.isAgg5
 z5:=Tryz.sizeOf5
 v5:=Tryz.zeroValue5
 t9:=Tryz.underlying9
 a9:=Tryz.isAgg9
 z9:=Tryz.sizeOf9
 v9:=Tryz.zeroValue9
 t80:=Tryz.underlying66
 a80:=Tryz.isAgg66
 z80:=Tryz.sizeOf66
 v80:=Tryz.zeroValue66
 i0:=by kernel_rfl
 i3:=by kernel_rfl
 i4:=by kernel_rfl
 i5:=by kernel_rfl
 i9:=by kernel_rfl
 i20:=by kernel_rfl
 i37:=by kernel_rfl
 i75:=by kernel_rfl
 i80:=by kernel_rfl
 i91:=by kernel_rfl
 i93:=by kernel_rfl
 i130:=by kernel_rfl
 i131:=by kernel_rfl
 m14:=by kernel_rfl }
end
section
open Go Go.RowKit Go.Rx
def RowOf(b:Nat)(r:Option Nat)(w:World):Prop:=∃v,w.cell? ⟨b,0,none⟩=some v/\v.ownBlock=r
theorem Ko(B b:Nat)(bs:List Value)(w:World)(h:Lib.IsBuffer 112 5 B b bs w) :
  Calls Tryz.prog 138 #[.pointer (some ⟨b,0,none⟩)] w fun e w'=>e=.returned (.int .i64 bs.length)/\∃n,w'=w.drewN n:=Any.Buffer_Len { Tryz.laysM180 with } B b bs w h
theorem Kp(b:Nat)(ao:Option Addr)(l cap n:Nat)(w:World)(c0:w.cell? ⟨b,0,none⟩=some (.slice ao l cap))(f0:w.frozen? ⟨b,0,none⟩=false)(hlc:l<=cap)(hcap:cap<=maxLen)(hn:n<=cap-l) :
  Calls Tryz.prog 93 #[.pointer (some ⟨b,0,none⟩),.int .i64 n] w fun e w'=>e=.returned (.tuple #[.int .i64 l,.bool true])/\w'=w.setCell ⟨b,0,none⟩ (.slice ao (l+n) cap):=Any.Buffer_tryGrow_room { Tryz.laysM180 with } b ao l cap n w c0 f0 hlc hcap hn
theorem AQ(b:Nat)(ao:Option Addr)(l cap n:Nat)(w:World)(c0:w.cell? ⟨b,0,none⟩=some (.slice ao l cap))(hlc:l<=cap)(hcap:cap<=maxLen)(hn:cap-l<n) :
  Calls Tryz.prog 93 #[.pointer (some ⟨b,0,none⟩),.int .i64 n] w fun e w'=>e=.returned (.tuple #[.int .i64 0,.bool false])/\w'=w:=Any.Buffer_tryGrow_none { Tryz.laysM180 with } b ao l cap n w c0 hlc hcap hn
theorem I0(g l c n:Nat)(cur:Array Value)(w:World)(hg:w.heap[g]?=some (.cells cur 5 (0,0)))(hcs:cur.size=c)(hlc:l<=c)(hn:1<=n)(hlim:l+n<=140737488355328)(hc2:c<=140737488355328)(h1:∀v∈cur.toList.take l,v.oneCell'=true) :
  Calls Tryz.prog 140 #[.slice (some ⟨g,0,none⟩) l c,.int .i64 n] w fun e w'=>∃cap2 cells,e=.returned (.slice (some ⟨w.heap.size,0,none⟩) l cap2)/\w'.heap[w.heap.size]?=some (.cells cells 5 (0,0)) /\
   cells.size=cap2/\cells.toList.take l=cur.toList.take l/\l+n<=cap2/\cap2<=maxLen/\Below w.heap.size w w':=Any.bytes_growSlice_row { Tryz.laysM180 with } g l c n cur w hg hcs hlc hn hlim hc2 h1
theorem DG:(Tryz.prog.info? 5).map (fun i=>(i.zero,i.size,i.bytes))=some (some (.int .u8 0),1,1):=by kernel_rfl
theorem Cq(B b n:Nat)(lr:Int)(w:World)(hB:B<=b)(hBw:B<=w.heap.size)(hbk:w.heap[b]?=some (.cells #[.slice none 0 0,.int .i64 0,.int .i8 lr] 112 (0,0)))(hn:1<=n)(h64:n<=64) :
  Calls Tryz.prog 94 #[.pointer (some ⟨b,0,none⟩),.int .i64 n] w fun e w'=>e=.returned (.int .i64 0)/\Below B w w'/\w.grownBy w' (some b)/\∃N c cur,w'.heap[b]?=some (.cells #[.slice (some ⟨N,0,none⟩) n c,.int .i64 0,.int .i8 lr] 112 (0,0))/\w.heap.size<=N/\w'.heap[N]?=some (.cells cur 5 (0,0))/\n<=c/\c<=maxLen/\cur.size=c:=by
 obtain⟨i0,hi,hz0,hz1,hz2⟩:=info_parts DG
 obtain⟨M,hM⟩:∃M,M=madeCells (Value.int .u8 0).cells ((64:Int).toNat*i0.size):=⟨_,rfl⟩
 have hMs:M.size=64:=by rw[hM,size_madeCells,hz1];rfl
 have hmk:∀W:World,(Instr.makeSlice 22 (.int .i64 (n:Int)) (.int .i64 64)).run Tryz.prog W=.ok (.slice (some ⟨W.heap.size,0,none⟩) n 64) (W.alloc (.cells M 5)):=fun W=>by
  have h:=run_makeSlice (P:=Tryz.prog) W 22 5 i0 (.int .u8 0) Tryz.underlying22 hi hz0 .i64 .i64 (n:Int) 64 (by omega) (by omega) (by rw[hz1];decide) (by rw[hz2];decide) (by decide)
  rw[<- hM]at h
  simpa using h
 clear hM
 have hIs:Lib.IsBuffer 112 5 B b [] w:=⟨hB,_,_,hbk,World.ownsRow_nil _ _ _ _,by simp[Value.ownBlock]⟩
 have hnil:∀W,(binOp .eql 22 (.slice none 0 0) (.slice none 0 0)).run Tryz.prog W=.ok (.bool true) W:=fun W=>Lib.run_eql_slice_nil_nil W _ _ Tryz.underlying22
 go_enter Tryz.func94,Tryz.ntmps94
 go_wp2_with fail
 refine(Ko B b [] _ hIs).mono ?_
 rintro e W0 ⟨rfl,k,hW0⟩
 have hbk0:W0.heap[b]?=some (.cells #[.slice none 0 0,.int .i64 0,.int .i8 lr] 112 (0,0)):=by rw[hW0];exact hbk
 have c0:W0.cell? ⟨b,0,none⟩=some (.slice none 0 0):=by rw[Lib.cell_of_heap hbk0];rfl
 have c1:W0.cell? ⟨b,1,none⟩=some (.int .i64 0):=by rw[Lib.cell_of_heap hbk0];rfl
 have f0:W0.frozen? ⟨b,0,none⟩=false:=Lib.frozen_of_heap hbk0 0
 have f1:W0.frozen? ⟨b,1,none⟩=false:=Lib.frozen_of_heap hbk0 1
 have hbW0:=Lib.lt_of_heap hbk0
 have c0a:∀o,(W0.alloc o).cell? ⟨b,0,none⟩=some (.slice none 0 0):=fun o=>(World.cell?_of_block (a:=⟨b,0,none⟩) (Below.heap_alloc W0 o b hbW0)).trans c0
 have f0a:∀o,(W0.alloc o).frozen? ⟨b,0,none⟩=false:=fun o=>(World.frozen?_of_block (a:=⟨b,0,none⟩) (Below.heap_alloc W0 o b hbW0)).trans f0
 have HW0:=Lib.hid (And.intro hW0 hbk0)
 clear hW0 hIs hbk0
 go_wp2_with fail
 refine(AQ b _ 0 0 n _ c0 (Nat.le_refl _) (Nat.zero_le _) (by omega)).mono ?_
 rintro e w' ⟨rfl,rfl⟩
 go_wp2
 go_ret
 obtain⟨hW0,hbk0⟩:=HW0.out
 have hsz0:w'.heap.size=w.heap.size:=by rw[hW0];rfl
 have hb0:Below B w w':=by rw[hW0];exact⟨rfl,rfl,rfl,Nat.le_refl _,fun _ _=>rfl⟩
 have hg0:w.grownBy w' (some b):=by rw[hW0];exact⟨rfl,rfl,rfl,Nat.le_refl _,fun _ _ _=>rfl⟩
 have hsz:(w'.setCell ⟨b,0,none⟩ (.slice (some ⟨w'.heap.size,0,none⟩) n 64)).heap.size=w'.heap.size:=by simp[World.setCell]
 refine⟨rfl,(hb0.setCell (p:=⟨b,0,none⟩) hB _).alloc (by rw[hsz];omega) _,Lib.grownBy_allocR (Lib.grownBy_setB hg0 0 _) _,w'.heap.size,64,M,?_,by omega,?_,h64,by unfold maxLen;omega,hMs⟩
 ·rw[Below.heap_alloc _ _ b (by rw[hsz];exact hbW0)]
  exact Lib.heap_setCell_same (i:=0) hbk0 _
 ·have h:=heap_alloc_new (w'.setCell ⟨b,0,none⟩ (.slice (some ⟨w'.heap.size,0,none⟩) n 64)) (.cells M 5)
  rw[hsz]at h
  exact h
theorem Cr(B b g l cap n:Nat)(lr:Int)(cur:Array Value)(w:World)(hB:B<=b)(hBw:B<=w.heap.size)(hbk:w.heap[b]?=some (.cells #[.slice (some ⟨g,0,none⟩) l cap,.int .i64 0,.int .i8 lr] 112 (0,0)))(hBg:B<=g)
  (hg:w.heap[g]?=some (.cells cur 5 (0,0))) (hl0:l≠0) (hlc:l<=cap) (hcm:cap<=maxLen) (hcs:cur.size=cap) (hgb:g≠b) (h1:∀v∈cur.toList.take l,v.oneCell'=true) (hn:1<=n) (hroom:cap-l<n) (hlim:l+n<=140737488355328) :
  Calls Tryz.prog 94 #[.pointer (some ⟨b,0,none⟩),.int .i64 n] w fun e w'=>e=.returned (.int .i64 l)/\Below B w w'/\w.grownBy w' (some b)/\∃N c cur',w'.heap[b]?=some (.cells #[.slice (some ⟨N,0,none⟩) (l+n) c,.int .i64 0,.int .i8 lr] 112 (0,0))/\w.heap.size<=N/\w'.heap[N]?=some (.cells cur' 5 (0,0)) /\
   l+n<=c/\c<=maxLen/\cur'.size=c/\cur'.toList.take l=cur.toList.take l:=by
 have hIs:Lib.IsBuffer 112 5 B b (cur.toList.take l) w:=by
  have hll:(cur.toList.take l).length=l:=by simp;omega
  exact⟨hB,_,_,hbk,⟨by rw[hll,Nat.mul_one],.inr ⟨g,cap,cur,by rw[hll],hBg,hg,by omega,hcm,by omega,by rw[hll,Nat.mul_one]⟩⟩,by simp[Value.ownBlock];exact hgb⟩
 have hll:(cur.toList.take l).length=l:=by simp;omega
 have hnil:∀W,(binOp .eql 22 (.slice (some ⟨g,0,none⟩) l cap) (.slice none 0 0)).run Tryz.prog W=.ok (.bool false) W:=fun W=>Lib.run_eql_slice_some_nil W _ _ _ Tryz.underlying22
 go_enter Tryz.func94,Tryz.ntmps94
 go_wp2_with fail
 refine(Ko B b _ _ hIs).mono ?_
 rintro e W0 ⟨rfl,k,hW0⟩
 rw[hll]
 have hbk0:W0.heap[b]?=some (.cells #[.slice (some ⟨g,0,none⟩) l cap,.int .i64 0,.int .i8 lr] 112 (0,0)):=by rw[hW0];exact hbk
 have hg0:W0.heap[g]?=some (.cells cur 5 (0,0)):=by rw[hW0];exact hg
 have c0:W0.cell? ⟨b,0,none⟩=some (.slice (some ⟨g,0,none⟩) l cap):=by rw[Lib.cell_of_heap hbk0];rfl
 have c1:W0.cell? ⟨b,1,none⟩=some (.int .i64 0):=by rw[Lib.cell_of_heap hbk0];rfl
 have f0:W0.frozen? ⟨b,0,none⟩=false:=Lib.frozen_of_heap hbk0 0
 have f1:W0.frozen? ⟨b,1,none⟩=false:=Lib.frozen_of_heap hbk0 1
 have HW0:=Lib.hid hW0
 clear hW0 hIs hll
 have hcm':=hcm
 unfold maxLen at hcm'
 go_wp2_with fail
 refine(AQ b _ l cap n _ c0 hlc hcm hroom).mono ?_
 rintro e w' ⟨rfl,rfl⟩
 have hc2:cap<=140737488355328:=by omega
 have hbW:=Lib.lt_of_heap hbk0
 have hwn:i64.wrap (n:Int)=n:=by rw[IntKind.wrap_i64];omega
 go_wp2_with fail
 go_region_with (
   go_at_call 140
   refine(I0 g l cap n cur _ ?_ hcs hlc hn hlim hc2 h1).mono ?_
   exact hg0
   rintro e w2 ⟨cap2,cells,rfl,hN,hcsz,htk,hcap2,hcm2,hbel⟩
   have hbk2:w2.heap[b]?=some (.cells #[.slice (some ⟨g,0,none⟩) l cap,.int .i64 0,.int .i8 lr] 112 (0,0)):=(hbel.block b hbW).trans hbk0
   have d0:w2.cell? ⟨b,0,none⟩=some (.slice (some ⟨g,0,none⟩) l cap):=by rw[Lib.cell_of_heap hbk2];rfl
   have d1:w2.cell? ⟨b,1,none⟩=some (.int .i64 0):=by rw[Lib.cell_of_heap hbk2];rfl
   have e0:w2.frozen? ⟨b,0,none⟩=false:=Lib.frozen_of_heap hbk2 0
   have e1:w2.frozen? ⟨b,1,none⟩=false:=Lib.frozen_of_heap hbk2 1)
 all_goals (
  go_wp2
  go_ret
  have hsz0:w'.heap.size=w.heap.size:=by rw[HW0.out];rfl
  have hb0:Below B w w'.drew:=by rw[HW0.out];exact⟨rfl,rfl,rfl,Nat.le_refl _,fun _ _=>rfl⟩
  have hg2:w.grownBy w2 (some b):=Lib.grownBy_below (w:=w'.drew) (by rw[HW0.out];exact⟨rfl,rfl,rfl,Nat.le_refl _,fun _ _ _=>rfl⟩) hbel
  have hbel':Below B w w2:=hb0.trans (hbel.mono (by show B<=w'.heap.size;omega))
  have hNb:w'.heap.size≠b:=by omega
  refine⟨rfl,((hbel'.setCell (p:=⟨b,0,none⟩) hB _).setCell (p:=⟨b,1,none⟩) hB _).setCell (p:=⟨b,0,none⟩) hB _,Lib.grownBy_setB (Lib.grownBy_setB (Lib.grownBy_setB hg2 0 _) 1 _) 0 _,w'.heap.size,cap2,cells,?_,by omega,?_,hcap2,hcm2,hcsz,htk⟩
  ·exact Lib.heap_setCell_same (i:=0) (Lib.heap_setCell_same (i:=1) (Lib.heap_setCell_same (i:=0) hbk2 _) (.int .i64 0)) _
  ·rw[Below.heap_setCell _ _ _ _ hNb,Below.heap_setCell _ _ _ _ hNb,Below.heap_setCell _ _ _ _ hNb]
   exact hN)
end
section
open Go Go.RowKit Go.Rx
def tG(b g l n:Nat)(bs:List Value)(w:World):Prop:=∃cap cur lr,w.heap[b]?=some (.cells #[.slice (some ⟨g,0,none⟩) (l+n) cap,.int .i64 0,.int .i8 lr] 112 (0,0))/\w.heap[g]?=some (.cells cur 5 (0,0))/\l+n<=cap/\cap<=maxLen/\cur.size=cap/\cur.toList.take l=bs/\g≠b
theorem MD(B b n:Nat)(r:Option Nat)(bs:List Value)(w:World)(h:Lib.IsBuffer 112 5 B b bs w)(hr:RowOf b r w)(hn:1<=n) :
  Calls Tryz.prog 93 #[.pointer (some ⟨b,0,none⟩),.int .i64 n] w fun e w'=>
   (e=.returned (.tuple #[.int .i64 bs.length,.bool true])/\∃g,tG b g bs.length n bs w'/\some g=r/\B<=g/\w.grownBy w' (some b)/\Below B w w') ∨
   (e=.returned (.tuple #[.int .i64 0,.bool false])/\w'=w/\Lib.NoRoom b n w):=by
 obtain⟨hB,lr,hc⟩:=h.cases
 obtain⟨v,hv,hvr⟩:=hr
 rcases hc with⟨rfl,hbk⟩ |⟨g,cap,cur,hbk,hBg,hg,hnc,hcm,hcs,htk,hgb⟩
 ·have c0:w.cell? ⟨b,0,none⟩=some (.slice none 0 0):=by rw[Lib.cell_of_heap hbk];rfl
  refine(AQ b none 0 0 n w c0 (Nat.le_refl _) (Nat.zero_le _) (by omega)).mono ?_
  rintro e w' ⟨rfl,rfl⟩
  exact Or.inr ⟨rfl,rfl,none,0,0,c0,by omega⟩
 ·have c0:w.cell? ⟨b,0,none⟩=some (.slice (some ⟨g,0,none⟩) bs.length cap):=by rw[Lib.cell_of_heap hbk];rfl
  have f0:=Lib.frozen_of_heap hbk 0
  rw[c0]at hv
  cases hv
  by_cases hroom:n<=cap-bs.length
  ·refine(Kp b _ bs.length cap n w c0 f0 hnc hcm hroom).mono ?_
   rintro e w' ⟨rfl,rfl⟩
   exact Or.inl ⟨rfl,g,⟨cap,cur,lr,Lib.heap_setCell_same (i:=0) hbk _,by rw[Below.heap_setCell _ _ _ _ hgb];exact hg,by omega,hcm,hcs,htk,hgb⟩,hvr,hBg,Lib.grownBy_setCell w b 0 _,(Below.refl B w).setCell (p:=⟨b,0,none⟩) hB _⟩
  ·refine(AQ b _ bs.length cap n w c0 hnc hcm (by omega)).mono ?_
   rintro e w' ⟨rfl,rfl⟩
   exact Or.inr ⟨rfl,rfl,_,_,_,c0,by omega⟩
theorem Jj(B b n:Nat)(r:Option Nat)(bs:List Value)(w:World)(h:Lib.IsBuffer 112 5 B b bs w)(hr:RowOf b r w)(hnr:Lib.NoRoom b n w)(hBw:B<=w.heap.size)(h1:∀v∈bs,v.oneCell'=true)(hn:1<=n)(h0:bs=[]->n<=64/\r=none)(hlim:bs.length+n<=140737488355328) :
  Calls Tryz.prog 94 #[.pointer (some ⟨b,0,none⟩),.int .i64 n] w fun e w'=>e=.returned (.int .i64 bs.length)/\∃g,tG b g bs.length n bs w'/\w.heap.size<=g/\w.grownBy w' (some b)/\Below B w w':=by
 obtain⟨ao,l,cap0,hc,hlt⟩:=hnr
 obtain⟨hB,lr,hcs⟩:=h.cases
 obtain⟨v,hv,hvr⟩:=hr
 rcases hcs with⟨rfl,hbk⟩ |⟨g,cap,cur,hbk,hBg,hg,hnc,hcm,hcs,htk,hgb⟩
 ·have hlt:=Lib.lt_of_heap hbk
  refine(Cq B b n lr w hB hBw hbk hn (h0 rfl).1).mono ?_
  rintro e w' ⟨rfl,q1,q2,N,c,cur,q3,q4,q5,q6,q7,q8⟩
  exact⟨rfl,N,⟨c,cur,lr,by simpa using q3,q5,by simpa using q6,q7,q8,by simp,by omega⟩,q4,q2,q1⟩
 ·have c0:w.cell? ⟨b,0,none⟩=some (.slice (some ⟨g,0,none⟩) bs.length cap):=by rw[Lib.cell_of_heap hbk];rfl
  have hlt':=Lib.lt_of_heap hbk
  rw[c0]at hc hv
  cases hc
  cases hv
  have hne:bs.length≠0:=fun e=>by
   have:=(h0 (List.eq_nil_of_length_eq_zero e)).2
   rw[this]at hvr
   cases hvr
  refine(Cr B b g bs.length _ n lr cur w hB hBw hbk hBg hg hne hnc hcm hcs hgb (by rw[htk];exact h1) hn hlt hlim).mono ?_
  rintro e w' ⟨rfl,q1,q2,N,c,cur',q3,q4,q5,q6,q7,q8,q9⟩
  exact⟨rfl,N,⟨c,cur',lr,q3,q5,q6,q7,q8,by rw[q9,htk],by omega⟩,q4,q2,q1⟩
theorem GA{B b g n:Nat}{r:Option Nat}{bs cs:List Value}{w W1:World}(hB:B<=b)(hr:tG b g bs.length n bs W1)(hn:cs.length=n)(hBg:B<=g)(hgr:w.grownBy W1 (some b))(hb:Below B w W1)(hwho:some g=r∨w.heap.size<=g) :
  ∃cap cur,W1.heap[g]?=some (.cells cur 5 (0,0))/\W1.cell? ⟨b,0,none⟩=some (.slice (some ⟨g,0,none⟩) (bs.length+n) cap)/\bs.length+n<=cap/\cap<=maxLen/\cur.size=cap /\
   (Lib.IsBuffer 112 5 B b (bs++cs) (W1.setRow g (cur.toList.take bs.length++cs++cur.toList.drop (bs.length+cs.length)).toArray)/\Below B w (W1.setRow g (cur.toList.take bs.length++cs++cur.toList.drop (bs.length+cs.length)).toArray) /\
   RowOf b (some g) (W1.setRow g (cur.toList.take bs.length++cs++cur.toList.drop (bs.length+cs.length)).toArray) /\
   ∀k,k<w.heap.size->k≠b->some k≠r->(W1.setRow g (cur.toList.take bs.length++cs++cur.toList.drop (bs.length+cs.length)).toArray).heap[k]?=w.heap[k]?):=by
 obtain⟨cap,cur,lr,h1,h2,h3,h4,h5,h6,h7⟩:=hr
 subst hn
 obtain⟨r1,r2⟩:=Lib.written_end (news:=cs) (l:=bs.length) hB h1 hBg h2 h4 h5 h7 h3
 have c0:W1.cell? ⟨b,0,none⟩=some (.slice (some ⟨g,0,none⟩) (bs.length+cs.length) cap):=by rw[Lib.cell_of_heap h1];rfl
 refine⟨cap,cur,h2,c0,h3,h4,h5,by rw[h6]at r1 ⊢;exact r1,hb.trans r2,⟨.slice (some ⟨g,0,none⟩) (bs.length+cs.length) cap,?_,rfl⟩,fun k hk hkb hkr=>?_⟩
 ·rw[World.cell?_of_block (w:=W1) (a:=⟨b,0,none⟩) (setRow_other _ _ _ _ (Ne.symm h7))]
  exact c0
 ·rw[setRow_other _ _ _ _ (fun e=>by
   subst e
   rcases hwho with h |h
   ·exact hkr h
   ·omega)]
  exact hgr.block k hk (fun e=>hkb (by simpa using e))
theorem qw(B b:Nat)(r:Option Nat)(bs cs:List Value)(a:Addr)(n c:Nat)(w:World)(h:Lib.IsBuffer 112 5 B b bs w)(hr:RowOf b r w)(hBw:B<=w.heap.size)(h1:∀v∈bs,v.oneCell'=true)(hn:cs.length=n)(hn1:1<=n)(h0:bs=[]->n<=64/\r=none)
  (hab:a.block≠b) (hsrc:∀j v,cs[j]?=some v->w.cell? (a.add j)=some v) (h1c:∀v∈cs,v.oneCell'=true) (hlim:bs.length+n<=140737488355328) :
  Calls Tryz.prog 79 #[.pointer (some ⟨b,0,none⟩),.slice (some a) n c] w fun e w'=>e=.returned (.tuple #[.int .i64 n,.nilIface])/\Lib.IsBuffer 112 5 B b (bs++cs) w'/\Below B w w' /\
   (∃g,RowOf b (some g) w'/\(some g=r∨w.heap.size<=g))/\∀k,k<w.heap.size->k≠b->some k≠r->w'.heap[k]?=w.heap[k]?:=by
 obtain⟨hB,v0,lr,hbk,-,-⟩:=id h
 have c2:w.cell? ⟨b,2,none⟩=some (.int .i8 lr):=by rw[Lib.cell_of_heap hbk];rfl
 have f2:w.frozen? ⟨b,2,none⟩=false:=Lib.frozen_of_heap hbk 2
 have h':=h.setLast 0
 have hr':RowOf b r (w.setCell ⟨b,2,none⟩ (.int .i8 0)):=by
  obtain⟨v,hv,hvr⟩:=hr
  refine⟨v,?_,hvr⟩
  have hb2:=Lib.heap_setCell_same (i:=2) hbk (.int .i8 0)
  rw[Lib.cell_of_heap hbk]at hv
  rw[Lib.cell_of_heap hb2]
  exact hv
 have hbel0:Below B w (w.setCell ⟨b,2,none⟩ (.int .i8 0)):=(Below.refl B w).setCell (p:=⟨b,2,none⟩) hB _
 have hg0:w.grownBy (w.setCell ⟨b,2,none⟩ (.int .i8 0)) (some b):=Lib.grownBy_setCell w b 2 _
 have hsz0:(w.setCell ⟨b,2,none⟩ (.int .i8 0)).heap.size=w.heap.size:=by simp[World.setCell]
 have hinfo:(Tryz.prog.info? 5).map (·.size)=some 1:=by
  obtain⟨i0,hi,-,hz1,-⟩:=info_parts DG
  rw[hi];simp[hz1]
 clear hbk v0
 have key:∀W1 g,tG b g bs.length n bs W1->B<=g->(w.setCell ⟨b,2,none⟩ (.int .i8 0)).grownBy W1 (some b)->Below B (w.setCell ⟨b,2,none⟩ (.int .i8 0)) W1->(some g=r∨w.heap.size<=g) ->
   ∃cap,W1.cell? ⟨b,0,none⟩=some (.slice (some ⟨g,0,none⟩) (bs.length+n) cap)/\bs.length+n<=cap/\cap<=maxLen/\∃W2,(∀dLen dCap,dLen=n->(Builtin.copy_ #[22,22] 3 #[.slice (some ⟨g,bs.length,none⟩) dLen dCap,.slice (some a) n c]).run Tryz.prog W1=.ok (goInt n) W2) /\
    Lib.IsBuffer 112 5 B b (bs++cs) W2/\Below B w W2/\(∃g,RowOf b (some g) W2/\(some g=r∨w.heap.size<=g))/\∀k,k<w.heap.size->k≠b->some k≠r->W2.heap[k]?=w.heap[k]?:=by
  intro W1 g hrow hBg hgr hbe hwho
  have hgW:=Lib.grownBy_trans hg0 hgr
  obtain⟨cap,cur,q1,q2,q3,q4,q5,q6,q7,q8,q9⟩:=GA (cs:=cs) hB hrow hn hBg hgW (hbel0.trans hbe) hwho
  refine⟨cap,q2,q3,q4,_,fun dLen dCap hd=>?_,q6,q7,⟨g,q8,hwho⟩,q9⟩
  subst hd
  have hsrc1:∀j v,cs[j]?=some v->W1.cell? (a.add j)=some v:=fun j v hj=>hgW.cell (hsrc j v hj) (by rw[Lib.block_add];exact fun e=>hab (Option.some.inj e))
  have hcp:=run_copy_row (P:=Tryz.prog) W1 22 22 3 5 g bs.length dLen dCap a dLen c cur 5 cs Tryz.underlying22 hinfo q1 (by rw[hn];exact(Nat.min_self _).symm) hsrc1 (by omega) h1c
  rw[hn]at hcp
  rw[hn]
  exact hcp
 go_enter Tryz.func79,Tryz.ntmps79
 go_wp2_with fail
 refine(MD B b n r bs _ h' hr' hn1).mono ?_
 rintro e W1 (⟨rfl,g,hrow,hgr,hBg,hgrow,hbe⟩ |⟨rfl,rfl,hnr⟩)
 ·obtain⟨cap,d0,hcap,hcm,W2,hcp,hfin⟩:=key W1 g hrow hBg hgrow hbe (.inl hgr)
  have hfin':=Lib.hid hfin
  clear h' hr' hbel0 hg0 hsz0 key hrow hgr hBg hgrow hbe hfin c2 f2
  unfold maxLen at hcm
  have hcp1:=hcp n (cap-bs.length) rfl
  have hne:¬cap=bs.length:=by omega
  go_wp2
  go_ret2
  exact⟨rfl,hfin'.out⟩
 ·go_wp2_with fail
  refine(Jj B b n r bs _ h' hr' hnr (by rw[hsz0];exact hBw) h1 hn1 h0 hlim).mono ?_
  rintro e W1 ⟨rfl,g,hrow,hge,hgrow,hbe⟩
  rw[hsz0]at hge
  obtain⟨cap,d0,hcap,hcm,W2,hcp,hfin⟩:=key W1 g hrow (by omega) hgrow hbe (.inr hge)
  have hfin':=Lib.hid hfin
  clear h' hr' hbel0 hg0 hsz0 key hrow hge hgrow hbe hfin c2 f2 hnr
  unfold maxLen at hcm
  have hcp1:=hcp n (cap-bs.length) rfl
  have hne:¬cap=bs.length:=by omega
  go_wp2
  go_ret2
  exact⟨rfl,hfin'.out⟩
end
section
open Go Go.Rx Go.RowKit
noncomputable abbrev wD(x0:(Hook.X (bD)))(n:Nat):List SV:=([(.slc 0 0 ((↑x0:Int).toNat) ((↑x0:Int).toNat) false false),(.int .u64 ((↑n:Int)) false),(.tup []),(.tup []),(.int .i64 0 true),(.int .i64 0 true)]++List.replicate 19 az)
noncomputable abbrev wE(x0:(Hook.X (bD))):SObj:=(.ints .u8 (List.replicate (↑x0:Int).toNat (0:Int)) 5 0 0)
theorem Iq(n:Nat)(w:World):al Tryz.prog F2 200 81 [.int .u64 n false] (SS.at w) =
(.hc 89 [(.int .u64 ((↑n:Int)) false)] (SS.mk [] [] true w []) (bD) fun x0 w0 b0=>(.need ((0:Int)<=(↑x0:Int)/\(↑x0:Int)<=(↑x0:Int)/\(↑(1:Nat):Int)*(↑x0:Int)<=(2:Int)^48/\(↑x0:Int)<(2:Int)^63) (.loop 90 (av Tryz.prog 90 3) (wD x0 n) (SS.mk [(wE x0)] [] true w0 b0) (LoopHook.X (mu)) (LoopHook.out (mu) (wD x0 n) (SS.mk [(wE x0)] [] true w0 b0)) (fun x1 w1 b1=>(.need ((0:Int)<=(↑x1.fst.i:Int)/\(↑x1.fst.i:Int)<(↑x1.fst.r:Int)) (.need (0+(↑x1.fst.i:Int).toNat*1<x1.fst.l.length) (.need (an 0 0 (0+(↑x1.fst.i:Int).toNat*1) 1=true) (.need ((0:Int)<=i64.wrap ((↑x1.fst.i:Int)+(1:Int))/\i64.wrap ((↑x1.fst.i:Int)+(1:Int))<=(↑(↑x0:Int).toNat:Int)) (.leaf .ret [(.slc 0 (if(↑x0:Int).toNat=0 then 0 else 0) ((i64.wrap ((↑x1.fst.i:Int)+(1:Int))).toNat-0) ((↑x0:Int).toNat-0) false false)] (SS.mk [(.ints .u8 (x1.fst.l.set (0+(↑x1.fst.i:Int).toNat*1) (u8.wrap (↑x1.fst.x:Int))) 5 0 0)] [] true w1 b1))))))) (LoopHook.Y (mu)) (LoopHook.out' (mu) (wD x0 n) (SS.mk [(wE x0)] [] true w0 b0)) (fun x1 w1 b1=>(.bad "slice: no integer"))))):=by kernel_rfl
theorem Ox(n:Nat)(w:World):(by have h:=Iq n w;unfold wE wD at h;exact type_of% h):=Iq n w
theorem EZ(n:Nat)(w:World)(hn:n<2^64):Calls Tryz.prog 81 #[.int .u64 n] w (bB (fun v w'=>∃A k c,v=.slice A k c/\k<=c/\Bts w' w'.heap.size A k (uv n)/\Fresh w A) w):=by
 refine aF (hk:=F2) (n:=200) (args:=[.int .u64 n false]) ⟨trivial,trivial⟩ ?_
 rw[Ox]
 refine mt (fun r=>n<128^r/\1<=r/\r<=10) (Fine.start _ _) rfl (fun β w0 _=>yw n w0 hn) ?_
 rintro r w1 bs ⟨hr1,hr2,hr3⟩ hb hbs
 refine aa ⟨by omega,by omega,by omega,by omega⟩ ?_
 refine jg (w:=w) (Fine.mk' hb hbs) rfl 1 rfl xv yu dZ (fun z=>z.r-z.i) (fun _ z _=>z.r=r/\z.l.length=r/\z.i<r/\z.x<128^(r-z.i)/\(∀v∈z.l,0<=v/\v<256)/\((z.l.take z.i).map fun v=>UInt8.ofNat v.toNat)++uv z.x=uv n)
  (fun _ z _=>z.r=r/\z.l.length=r/\z.i<r/\z.x<128/\(∀v∈z.l,0<=v/\v<256)/\((z.l.take z.i).map fun v=>UInt8.ofNat v.toNat)++uv z.x=uv n) (fun _ _ _=>False) (fun _=>ar) 200 (by simp) (by simp[xv]) (by simp[xv]) (fun _=>⟨by simp[SV.ok],trivial,trivial,trivial⟩) (fun _=>⟨rfl,by simp[dZ,SObj.ok]⟩)
  rfl rfl (by simp) (by simp) (fun _=>⟨⟨by simp[SV.ok],trivial,trivial,trivial⟩,rfl,by simp[dZ,SObj.ok]⟩) (fun _=>⟨trivial,rfl,by simp[dZ,SObj.ok]⟩) ?_ ?_ ?_ ?_
 ·rintro β w0 z w2 g hb0 ⟨rfl,hl,hi,hx,hv,hu⟩ hk hge
  refine ah (LR z (ac β 1) w2 g) ?_
  have hkf:KFine (ac β 1) w0 (SS.mk (dZ z) [] true w2 (ac β 1)):=⟨rfl,hk,fun b hb=>.inl hb⟩
  refine ae (fun h128=>?_) (fun h128=>?_)
  ·simp only[decide_eq_true_eq]at h128
   have h1:z.i+1<z.r:=by
    rcases Nat.lt_or_ge (z.i+1) z.r with h |h
    ·exact h
    ·have:z.r-z.i=1:=by omega
     rw[this]at hx
     omega
   refine aa ⟨by omega,by omega⟩ (aa (by simp;omega) (aa (by simp[an]) ?_))
   refine aJ ⟨rfl,hk,fun b hb=>.inl hb⟩ fun β' w' hst hk'=>?_
   refine⟨⟨z.x/128,z.i+1,z.r,_⟩,?_,?_,hst.objsAt rfl (by simp[dZ,SObj.ok]),⟨rfl,by simp[hl],h1,?_,?_,?_⟩,hk'⟩
   ·show z.r-(z.i+1)<z.r-z.i
    omega
   ·rw[d7,aq (by omega) (by omega)]
    have:=hst.base 0 (by show 0<1;omega)
    simp only[yu,af,SV.den]
    rw[this]
    rfl
   ·have h2:z.r-z.i=(z.r-(z.i+1))+1:=by omega
    rw[h2,Nat.pow_succ]at hx
    exact Nat.div_lt_of_lt_mul (by rw[Nat.mul_comm];exact hx)
   ·intro v hv'
    rcases List.mem_or_eq_of_mem_set hv' with h |h
    ·exact hv v h
    ·rw[h];exact mK _
   ·have e1:(0:Nat)+(z.i:Int).toNat*1=z.i:=by simp
    have e2:=G8 ⟨z.x%256,Nat.mod_lt _ (by omega)⟩
    dsimp only at e2 ⊢
    rw[e1,rE z.x,e2,eW _ _ _ (by omega),List.map_append,List.append_assoc,<- hu]
    congr 1
    rw[cx (n:=z.x) (by omega)]
    simp only[List.map_cons,List.map_nil,List.cons_append,List.nil_append,Int.toNat_natCast]
    rw[show z.x%256%128=z.x%128 by omega]
  ·simp only[decide_eq_false_iff_not]at h128
   refine aJ ⟨rfl,hk,fun b hb=>.inl hb⟩ fun β' w' hst hk'=>⟨.inl ⟨z,rfl,?_,hst.objsAt rfl (by simp[dZ,SObj.ok]),rfl,hl,hi,by omega,hv,hu⟩,hk'⟩
   have:=hst.base 0 (by show 0<1;omega)
   simp only[yu,af,SV.den]
   rw[this]
 ·intro β w0 hst hb0
  refine⟨⟨n,0,r,List.replicate r 0⟩,rfl,?_,rfl,by simp,by show 0<r;omega,by simpa using hr1,by simp,by simp⟩
  intro i o hi
  exact hst.at_ i o (by simpa [dZ] using hi)
 ·rintro w0 z w' ⟨rfl,hl,hi,hx,hv,hu⟩ hb0 hb1 g bs' hbs'
  dsimp only
  refine aa ⟨by omega,by omega⟩ (aa (by simp;omega) (aa (by simp[an]) (aa (by show(0:Int)<=i64.wrap ((z.i:Int)+1)/\_;rw[aq (by omega) (by omega)];omega) ?_)))
  refine aQ (Fine.mk' hb1 hbs') fun β w2 hst hb2=>?_
  have h0:=hst.at_ 0 _ rfl
  have hlt:=hst.lt 0 (by simp[SS.n])
  have e1:(i64.wrap ((z.i:Int)+1)).toNat-0=z.i+1:=by rw[aq (by omega) (by omega)];omega
  have hbt:=da (k:=z.i+1) h0 ?_ (by simp;omega) hlt
  ·have e2:(0:Nat)+(z.i:Int).toNat*1=z.i:=by simp
   rw[e2,eW _ _ _ (by omega),List.map_append,rE]at hbt
   have e3:((z.l.take z.i).map fun v=>UInt8.ofNat v.toNat)++[((z.x%256:Nat):Int)].map (fun v=>UInt8.ofNat v.toNat)=uv n:=by
    rw[<- hu,bO hx]
    simp only[List.map_cons,List.map_nil,Int.toNat_natCast]
    rw[Nat.mod_eq_of_lt (show z.x<256 by omega)]
   rw[e3]at hbt
   refine⟨some ⟨β 0,0,none⟩,z.i+1,z.r,?_,by omega,hbt,fun a ha=>?_⟩
   ·rw[e1]
    simp[SV.den]
   ·cases ha
    exact(Fine.mk' hb1 hbs').new (hst.old rfl) 0 (by simp[SS.n])
  ·intro v hv'
   rcases List.mem_or_eq_of_mem_set hv' with h |h
   ·exact hv v h
   ·rw[h];exact mK _
 ·rintro w0 z w' h
  exact h.elim
end
section
open Go.Shelf Go.Proofs
def Tryz.lays156_ren:Go.Shelf.Ren:=⟨fun |156=>80 |165=>95 |166=>87 |169=>71 |240=>135 |241=>141 |276=>159 |277=>161 |n=>n,fun |31=>113 |9=>9 |3=>3 |4=>4 |0=>0 |20=>20 |72=>93 |76=>115 |70=>91 |37=>22 |75=>53 |127=>123 |164=>143 |5=>5 |80=>66 |n=>n,fun |n=>n⟩
theorem Tryz.lays156:Go.Proofs.Lays.n156 Tryz.prog Tryz.lays156_ren:={
 mixed:=by kernel_rfl
 f156:=Tryz.func80.trans (congrArg some (by kernel_rfl))
 f165:=Tryz.func95.trans (congrArg some (by kernel_rfl))
 f166:=Tryz.func87.trans (congrArg some (by kernel_rfl))
 f169:=Tryz.func71.trans (congrArg some (by kernel_rfl))
 f240:=Tryz.func135.trans (congrArg some (by kernel_rfl))
 f241:=Tryz.func141.trans (congrArg some (by kernel_rfl))
 f276:=Tryz.func159.trans (congrArg some (by kernel_rfl))
 f277:=Tryz.func161.trans (congrArg some (by kernel_rfl))
 t0:=Tryz.underlying0
 a0:=Tryz.isAgg0
 z0:=Tryz.sizeOf0
 v0:=Tryz.zeroValue0
 t3:=Tryz.underlying3
 a3:=Tryz.isAgg3
 z3:=Tryz.sizeOf3
 v3:=Tryz.zeroValue3
 t4:=Tryz.underlying4
 a4:=Tryz.isAgg4
 z4:=Tryz.sizeOf4
 v4:=Tryz.zeroValue4
 t9:=Tryz.underlying9
 a9:=Tryz.isAgg9
 z9:=Tryz.sizeOf9
 v9:=Tryz.zeroValue9
 t20:=Tryz.underlying20
 a20:=Tryz.isAgg20
 z20:=Tryz.sizeOf20
 v20:=Tryz.zeroValue20
 t31:=Tryz.underlying113
 a31:=Tryz.isAgg113
 z31:=Tryz.sizeOf113
 v31:=Tryz.zeroValue113
 t37:=Tryz.underlying22
 a37:=Tryz.isAgg22
 z37:=Tryz.sizeOf22
 v37:=Tryz.zeroValue22
 t70:=Tryz.underlying91
 a70:=Tryz.isAgg91
 z70:=Tryz.sizeOf91
 v70:=Tryz.zeroValue91
 t72:=Tryz.underlying93
 a72:=Tryz.isAgg93
 z72:=Tryz.sizeOf93
 v72:=Tryz.zeroValue93
 t75:=Tryz.underlying53
 a75:=Tryz.isAgg53
 z75:=Tryz.sizeOf53
 v75:=Tryz.zeroValue53
 t76:=Tryz.underlying115
 a76:=Tryz.isAgg115
 z76:=Tryz.sizeOf115
 v76:=Tryz.zeroValue115
 t127:=Tryz.underlying123
 a127:=Tryz.isAgg123
 z127:=Tryz.sizeOf123
 v127:=Tryz.zeroValue123
 t164:=Tryz.underlying143
 a164:=Tryz.isAgg143
 z164:=Tryz.sizeOf143
 v164:=Tryz.zeroValue143 }
theorem Tryz.Builder_Extra_156:Builder.Extra Tryz.prog Tryz.lays156_ren:={
 sizeBuilder:=by kernel_rfl
 liesBuilder:=by kernel_rfl
 t5:=Tryz.underlying5
 a5:=Tryz.isAgg5
 z5:=Tryz.sizeOf5
 v5:=Tryz.zeroValue5
 infoByte:=by kernel_rfl
 cellsByte:=by kernel_rfl
 sizeByte:=by kernel_rfl
 neB5:=by decide }
open Go.RowKit in
theorem Tryz.strings_Join(bk o c:Nat)(xs:List ByteArray)(sep:ByteArray)(w:World)(hcells:∀(j:Nat) x,xs[j]?=some x->w.cell? ⟨bk,o+j,none⟩=some (.string x))(hbk:bk<w.heap.size)(hN:xs.length<=140737488355328)(hcap:xs.length<=c)(hlen:(Lib.join (xs.map (·.data.toList)) sep.data.toList).length<=140737488355328) :
  Calls Tryz.prog 80 #[.slice (some ⟨bk,o,none⟩) xs.length c,.string sep] w fun e w'=>e=.returned (.string ⟨(Lib.join (xs.map (·.data.toList)) sep.data.toList).toArray⟩)/\Below w.heap.size w w':=Any.strings_Join Tryz.lays156 Tryz.Builder_Extra_156 bk o c xs sep w hcells hbk hN hcap hlen
end
section
open Go Go.RowKit Go.Rx
def MW(l:List CT)(w:World)(v:Value)(w':World):Prop:=∃A n c,v=.tuple #[.slice A n c,.nilIface]/\n<=c/\Bts (Rx.since w w') w'.heap.size A n (am l)
theorem qt(w:World)(o:Obj):(w.alloc o).heap[w.heap.size]?=some o:=Array.getElem?_push_size
theorem fX{T e:TypeId}{B b:Nat}{bs:List Value}{w w':World}{X:Nat}(h:Lib.IsBuffer T e B b bs w)(hb:Below X w w')(hX:w.heap.size<=X):Lib.IsBuffer T e B b bs w':=by
 have hlt:=h.lt
 obtain⟨h1,v,lr,h2,h3,h4⟩:=h
 exact⟨h1,v,lr,by rw[hb.block b (by omega)];exact h2,mA h3 hb hX,h4⟩
theorem RowOf.keep{b:Nat}{r:Option Nat}{w w':World}{X:Nat}(h:RowOf b r w)(hb:Below X w w')(hX:b<X):RowOf b r w':=by
 obtain⟨v,h1,h2⟩:=h
 exact⟨v,by rw[World.cell?_of_block (a:=⟨b,0,none⟩) (hb.block b hX)];exact h1,h2⟩
theorem y9{B b:Nat}{r:Option Nat}{bs:List Value}{w:World}(h:Lib.IsBuffer 112 5 B b bs w)(hr:RowOf b r w){k:Nat}{cs:Array Value}{T:TypeId}(hk:w.heap[k]?=some (.cells cs T (0,0)))(h1:T≠112)(h2:T≠5):k≠b/\some k≠r:=by
 obtain⟨_,v,lr,hb,hown,_⟩:=h
 obtain⟨v',hv,hvr⟩:=hr
 rw[Lib.cell_of_heap hb]at hv
 simp at hv
 subst hv
 refine⟨fun e=>?_,fun e=>Er hown hk h2 (by rw[hvr];exact e)⟩
 subst e
 rw[hb]at hk
 simp only[Option.some.injEq,Obj.cells.injEq]at hk
 exact h1 hk.2.1.symm
def Todo(b j:Nat)(L:List (List UInt8))(w:World):Prop:=∃cur,w.heap[b]?=some (.cells cur 9 (0,0))/\∀i x,L[i]?=some x->cur[j+i]?=some (Value.string ⟨x.toArray⟩)
theorem Todo.keep{b j:Nat}{L:List (List UInt8)}{w w':World}(h:Todo b j L w)(hb:w'.heap[b]?=w.heap[b]?):Todo b j L w':=by
 obtain⟨cur,h1,h2⟩:=h
 exact⟨cur,by rw[hb];exact h1,h2⟩
theorem Todo.lt{b j:Nat}{L:List (List UInt8)}{w:World}(h:Todo b j L w):b<w.heap.size:=by
 obtain⟨cur,h1,_⟩:=h
 exact cS h1
theorem Todo.drop{b j:Nat}{x:List UInt8}{L:List (List UInt8)}{w:World}(h:Todo b j (x :: L) w):Todo b (j+1) L w:=by
 obtain⟨cur,h1,h2⟩:=h
 exact⟨cur,h1,fun i y hy=>by
  have:=h2 (i+1) y hy
  rw[Nat.add_assoc,Nat.add_comm 1]
  exact this⟩
theorem Todo.cell{b j:Nat}{x:List UInt8}{L:List (List UInt8)}{w:World}(h:Todo b j (x :: L) w):w.cell? ⟨b,j,none⟩=some (.string ⟨x.toArray⟩):=by
 obtain⟨cur,h1,h2⟩:=h
 exact cellOf h1 (by simpa using h2 0 x rfl)
theorem Todo.ne{b j:Nat}{L:List (List UInt8)}{w:World}(h:Todo b j L w){B bb:Nat}{r:Option Nat}{bs:List Value}(hi:Lib.IsBuffer 112 5 B bb bs w)(hr:RowOf bb r w):b≠bb/\some b≠r:=by
 obtain⟨cur,h1,_⟩:=h
 exact y9 hi hr h1 (by decide) (by decide)
def Rel10(l:List CT)(w:World)(bb:Nat)(sp:Value)(wr:World):Prop:=∃(done rest:List CT) (A:Option Addr) (c':Nat),l=done++rest/\sp=.slice A (aN rest).length c'/\(aN rest).length<=c'/\(rest≠[]->∃b j,A=some ⟨b,j,none⟩/\Todo b j (aN rest) wr) /\
 Lib.IsBuffer 112 5 bb bb (fP (am done)) wr/\(∃r,RowOf bb r wr/\(done=[]->r=none))/\Below w.heap.size w wr/\w.heap.size<=bb
def K7:Value->Nat
 | .slice _ n _=>n
 |_=>0
theorem Dm:∀k∈bc,0<k:=by decide
theorem dU(done:List CT)(x:CT):am (done++[x])=am done++(bW x.c.code x.c.val++x.c.val):=by simp[am,bg]
theorem qp{done:List CT}(h:am done=[]):done=[]:=by
 cases done with
 |nil=>rfl
 |cons x r=>
  have h1:=(dh _ x.hs.tab).1
  have h2:(bW x.c.code x.c.val++x.c.val)++am r=[]:=h
  unfold bW at h2
  simp only[List.append_eq_nil_iff]at h2
  rw[h2.1.1.1]at h1
  simp at h1
theorem AR{l:List UInt8}(h:fP l=[]):l=[]:=by simpa [fP] using h
theorem Rel10.next{l done rs:List CT}{x:CT}{w w':World}{bb bs js kk c'' g:Nat}{A:Option Addr}{vals:List UInt8}(hl:l=done++x :: rs)(hkk:kk=(aN rs).length)(hc:kk<=c'')(hA:rs≠[]->A=some ⟨bs,js,none⟩/\Todo bs js (aN rs) w')(hb:Lib.IsBuffer 112 5 bb bb (fP vals) w')(hv:vals=am (done++[x]))
  (hr:RowOf bb (some g) w') (hB:Below w.heap.size w w') (hbb:w.heap.size<=bb):Rel10 l w bb (.slice A kk c'') w':=by
 subst hkk hv
 exact⟨done++[x],rs,A,c'',by rw[hl];simp,rfl,hc,fun h=>⟨bs,js,(hA h).1,(hA h).2⟩,hb,⟨some g,hr,fun h=>by simp at h⟩,hB,hbb⟩
structure Mid (w:World) (bb bs js g b5 o5 p:Nat) (L:List (List UInt8)) (val V:List UInt8) (po:Array Value) (W:World):Prop where
 todo:Todo bs js L W
 below:Below w.heap.size w W
 isb:Lib.IsBuffer 112 5 bb bb (fP V) W
 row:RowOf bb (some g) W
 bts:Bts W W.heap.size (some ⟨b5,o5,none⟩) val.length val
 ne1:b5≠bb
 ne2:b5≠g
 prot:W.heap[p]?=some (.cells po 88 (0,0))
 bbge:w.heap.size<=bb
 lt5:b5<W.heap.size
theorem Mid.next{w:World}{bb bs js g b5 o5 p:Nat}{L:List (List UInt8)}{val V:List UInt8}{po:Array Value}{W W':World}(h:Mid w bb bs js g b5 o5 p L val V po W)(hb:Below W.heap.size W W'):Mid w bb bs js g b5 o5 p L val V po W':=
 ⟨h.todo.keep (hb.block _ h.todo.lt),h.below.trans (hb.mono h.below.size),fX h.isb hb (Nat.le_refl _),h.row.keep hb h.isb.lt,h.bts.below hb hb.size,h.ne1,h.ne2,(hb.block _ (cS h.prot)).trans h.prot,h.bbge,Nat.lt_of_lt_of_le h.lt5 hb.size⟩
theorem Mid.wrote{w:World}{bb bs js g b5 o5 p:Nat}{L:List (List UInt8)}{val V V':List UInt8}{po:Array Value}{W W':World}(h:Mid w bb bs js g b5 o5 p L val V po W)(hi:Lib.IsBuffer 112 5 bb bb (fP V++fP V') W')(hb:Below bb W W'){g':Nat}(hr:RowOf bb (some g') W')(hg:some g'=some g∨W.heap.size<=g')(hk:∀k,k<W.heap.size->k≠bb->some k≠some g->W'.heap[k]?=W.heap[k]?) :
  Mid w bb bs js g' b5 o5 p L val (V++V') po W':=by
 obtain⟨n1,n2⟩:=y9 h.isb h.row h.prot (by decide) (by decide)
 obtain⟨m1,m2⟩:=h.todo.ne h.isb h.row
 have hlt:=h.lt5
 have k5:=hk b5 hlt h.ne1 (fun e=>h.ne2 (by simpa using e))
 refine⟨h.todo.keep (hk _ h.todo.lt m1 m2),h.below.trans (hb.mono h.bbge),by simpa [fP] using hi,hr,⟨h.bts.1,fun h0=>?_⟩,h.ne1,fun e=>?_,(hk _ (cS h.prot) n1 n2).trans h.prot,h.bbge,Nat.lt_of_lt_of_le hlt hb.size⟩
 ·obtain⟨a,ha,hl,hx⟩:=h.bts.2 h0
  cases ha
  exact⟨_,rfl,Nat.lt_of_lt_of_le hlt hb.size,fun i y hi=>by
   show W'.cell? _=_
   rw[World.cell?_of_block (w:=W) (by rw[aL];exact k5)]
   exact hx i y hi⟩
 ·rcases hg with hg |hg
  ·have hg:g'=g:=by simpa using hg
   exact h.ne2 (by rw[e,hg])
  ·omega
theorem EO{bb g:Nat}{V:List Value}{W:World}(hi:Lib.IsBuffer 112 5 bb bb V W)(hr:RowOf bb (some g) W):g<W.heap.size:=by
 obtain⟨_,v,lr,hb,hown,_⟩:=hi
 obtain⟨v',hv,hvr⟩:=hr
 rw[Lib.cell_of_heap hb]at hv
 simp at hv
 subst hv
 rcases hown.2 with⟨rfl,_⟩ |⟨g',cap,cur,rfl,_,hg,_⟩
 ·cases hvr
 ·have:g'=g:=by simpa [Value.ownBlock] using hvr
  subst this
  exact cS hg
theorem Mid.write{w:World}{bb bs js g b5 o5 p:Nat}{L:List (List UInt8)}{val V:List UInt8}{po:Array Value}{W:World}(h:Mid w bb bs js g b5 o5 p L val V po W)(a:Addr)(n c:Nat)(V':List UInt8)(hn:Bts W W.heap.size (some a) n V')(hn1:1<=n)(hV:V≠[])(hab:a.block≠bb)(hlim:V.length+V'.length<=140737488355328) :
  Calls Tryz.prog 79 #[.pointer (some ⟨bb,0,none⟩),.slice (some a) n c] W fun e W'=>e=.returned (.tuple #[.int .i64 n,.nilIface])/\∃g',Mid w bb bs js g' b5 o5 p L val (V++V') po W':=by
 have hl:=hn.1
 refine(qw bb bb (some g) (fP V) (fP V') a n c W h.isb h.row (Nat.le_of_lt h.isb.lt) (it _) (by rw[List.length_map,hl]) hn1 (fun e=>absurd (AR e) hV) hab (jy hn) (it _) (by rw[List.length_map,hl];exact hlim)).mono ?_
 rintro e W' ⟨rfl,hi,hb,⟨g',hr,hg⟩,hk⟩
 exact⟨rfl,g',h.wrote hi hb hr hg hk⟩
theorem rm{rs:List CT}(h:rs≠[]):0<(aN rs).length:=List.length_pos_iff.2 (te h)
theorem Mid.rel{l done rs:List CT}{x:CT}{w:World}{bb bs js g b5 o5 p c'':Nat}{y:List UInt8}{val:List UInt8}{po:Array Value}{W:World}{A:Option Addr}(h:Mid w bb bs js g b5 o5 p (y :: aN rs) val (am (done++[x])) po W)(hl:l=done++x :: rs)(hc:(aN rs).length<=c'')(hA:rs≠[]->A=some ⟨bs,js+1,none⟩):Rel10 l w bb (.slice A (aN rs).length c'') W:=
 Rel10.next (bs:=bs) (js:=js+1) hl rfl hc (fun hn=>⟨hA hn,h.todo.drop⟩) h.isb rfl h.row h.below h.bbge
theorem Mid.rel0{l:List CT}{rs:List CT}{w:World}{bb:Nat}{W:World}{A:Option Addr}{c'':Nat}{Q:Prop}(h0:(aN rs).length=0)(h:(aN rs).length<=c''->(rs≠[]->Q)->Rel10 l w bb (.slice A (aN rs).length c'') W):Rel10 l w bb (.slice A 0 c'') W:=by
 have:=h (by omega) (fun e=>by have:=rm e;omega)
 rw[h0]at this
 exact this
theorem qo{l done rs:List CT}{x:CT}(hl:l=done++x :: rs)(h:(am l).length<2^40):(am (done++[x])).length<2^40:=by
 have e:am l=am (done++[x])++am rs:=by rw[hl];simp[am]
 rw[e,List.length_append]at h
 omega
theorem qT:∀L:List (List UInt8),Lib.join L [47]=sW L
 |[]=>rfl
 |[x]=>Lib.join_one x [47]
 |x :: y :: r=>by
  rw[Lib.join_cons,lj x (by simp),<- qT (y :: r),Lib.join_cons]
  simp[Lib.joinTail]
theorem Jo(rr:List UInt8)(bs js c k0:Nat)(w:World)(htd:Todo bs js (ck rr) w)(hk:(ck rr).length=k0+1)(hc:k0+1<=c)(hl:rr.length<=2147483647) :
  Calls Tryz.prog 80 #[.slice (some ⟨bs,js,none⟩) (k0+1) c,.string ⟨#[47]⟩] w fun e w'=>e=.returned (.string ⟨rr.toArray⟩)/\Below w.heap.size w w':=by
 have e1:((ck rr).map fun y=>(⟨y.toArray⟩:ByteArray)).length=k0+1:=by rw[List.length_map,hk]
 have e2:Lib.join ((((ck rr).map fun y=>(⟨y.toArray⟩:ByteArray))).map (·.data.toList)) (⟨#[47]⟩:ByteArray).data.toList=rr:=by
  rw[List.map_map]
  have:((fun b:ByteArray=>b.data.toList) ∘ fun y:List UInt8=>(⟨y.toArray⟩:ByteArray))=id:=by funext y;rfl
  rw[this,List.map_id]
  exact(qT _).trans (sX rr)
 have hlc:=qH rr
 obtain⟨cur,hg,hx⟩:=htd
 have h:=Tryz.strings_Join bs js c ((ck rr).map fun y=>(⟨y.toArray⟩:ByteArray)) ⟨#[47]⟩ w (fun j x hj=>by
  rw[List.getElem?_map]at hj
  cases hy:(ck rr)[j]? with
  |none=>rw[hy]at hj;cases hj
  |some y=>
   rw[hy]at hj
   simp only[Option.map_some,Option.some.injEq]at hj
   subst hj
   exact cellOf hg (hx j y hy)) (cS hg) (by rw[e1];omega) (by rw[e1];exact hc) (by rw[e2];omega)
 rw[e1,e2]at h
 exact h
theorem Lc(v:Value)(w:World):(method 431 147 v "StringToBytes").run Tryz.prog w=.ok (390,v) w:=by kernel_rfl
theorem Ld(v:Value)(w:World):(method 431 147 v "ValidateBytes").run Tryz.prog w=.ok (391,v) w:=by kernel_rfl
theorem pu(l:List CT)(hok:OkL l)(h0:l≠[])(hlen:(bN l).length<2^40)(hby:(am l).length<2^40)(hvl:∀x∈l,x.c.val.length<=2147483647)(w:World)(ht:Tens w) :
  Calls Tryz.prog 63 #[.string ⟨(bN l).toArray⟩] w (bB (MW l w) w):=by
 have hidv:=Hid.mk hvl
 have hidy:=Hid.mk hby
 clear hvl hby
 have hid:=Hid.mk (And.intro hok (And.intro h0 (And.intro hlen ht)))
 obtain⟨u,x,hux,hx⟩:=qq l hok h0
 have htrim:=FK u x hx (by have:=congrArg List.length hux;simp at this;omega)
 rw[<- hux]at htrim
 have hid1:=Hid.mk htrim
 clear hok h0 hlen ht hux hx htrim
 go_enter Tryz.func63,Tryz.ntmps63
 go_wp2_with fail
 refine(hid1.out _).mono ?_
 rintro e w1 ⟨v,rfl,rfl,hb1⟩
 have hidb1:=Hid.mk hb1
 clear hb1
 go_wp2_with fail
 refine(C7 (bN l) hid.out.2.2.1 _).mono ?_
 rintro e w2 ⟨v,rfl,⟨b,c,rfl,hc,hst,cur,hgb,htk⟩,hb2⟩
 have hcut:=FT l hid.out.1 hid.out.2.1
 obtain⟨m,hm⟩:∃m,(aN l).length=m+1:=⟨(aN l).length-1,by
  have:=te hid.out.2.1
  have:=List.length_pos_iff.2 this
  omega⟩
 have hlen2:(ck (bN l)).length=m+2:=by rw[hcut,List.length_cons,hm]
 rw[hcut]at htk
 rw[hlen2]at hc hst ⊢
 rw[hcut]at hst
 obtain⟨a0,ha0,hab,hcells⟩:=hst.2 (by omega)
 cases ha0
 have d0:w2.cell? ⟨b,0,none⟩=some (.string ⟨#[]⟩):=hcells 0 [] rfl
 have hbw:=hidb1.out
 have s1:=hbw.size
 have hnew:=qt w1 (.cells #[.slice none 0 0,.int .i64 0,.int .i8 0] 112)
 have isb:Lib.IsBuffer 112 5 w1.heap.size w1.heap.size [] w2:=fX (Lib.fresh_isBuffer _ _ _) hb2 (Nat.le_refl _)
 have htodo:Todo b 1 (aN l) w2:=by
  refine⟨cur,hgb,fun i x hi=>?_⟩
  have hi':i<(aN l).length:=(List.getElem?_eq_some_iff.1 hi).1
  have e1:(cur.toList.take ([] :: aN l).length)[1+i]?=cur.toList[1+i]?:=by rw[List.getElem?_take,if_pos (by simp only[List.length_cons];omega)]
  rw[<- Array.getElem?_toList,<- e1,htk,Nat.add_comm 1 i]
  simp[yh,hi]
 have hrow:RowOf w1.heap.size none w2:=⟨.slice none 0 0,by
  rw[World.cell?_of_block (w:=w1.alloc (.cells #[.slice none 0 0,.int .i64 0,.int .i8 0] 112)) (a:=⟨w1.heap.size,0,none⟩) (hb2.block _ (by rw[cp];exact Nat.lt_succ_self _)),Lib.cell_of_heap hnew]
  rfl,rfl⟩
 have hrel0:Rel10 l w w1.heap.size (.slice (some ⟨b,1,none⟩) (m+1) (c-1)) w2:=
  ⟨[],l,some ⟨b,1,none⟩,c-1,rfl,by rw[hm],by rw[hm];omega,fun _=>⟨b,1,rfl,htodo⟩,isb,⟨none,hrow,fun _=>rfl⟩,(hbw.alloc s1 _).trans (hb2.mono (by rw[cp];omega)),s1⟩
 have hid2:=Hid.mk hrel0
 clear hb2 hst hm hcells hcut hlen2 hab hbw s1 isb hrel0 hgb htk hnew htodo hrow
 go_wp2
 go_loopw [5] (fun sp wr=>Rel10 l w w1.heap.size sp wr) (fun sp _=>K7 sp)
 case atStart=>exact hid2.out
 case round=>
  obtain⟨done,rest,A,c',hl,rfl,hc',hA,hbuf,⟨r,hr,hr0⟩,hnx,hbb⟩:=hrel
  rcases rest with _ |⟨x,rs⟩
  ·have hpl:(aN []).length=0:=rfl
   rw[hpl]at hc' ⊢
   have hid3:=Hid.mk (And.intro hl (And.intro hbuf (And.intro hnx hbb)))
   clear hl hbuf hnx hbb hr hr0 hA hpl
   go_wp2_with fail
   refine(Tryz.Buffer_Bytes _ _ _ _ hid3.out.2.1).mono ?_
   rintro e w3 ⟨v,rfl,hown,k,rfl⟩
   have hid4:=Hid.mk hown
   clear hown
   go_wp2
   have e1:done=l:=by rw[hid3.out.1,List.append_nil]
   simp[bodyPost,results,Tryz.results63,go_sem]
   have hown:=hid4.out
   rw[e1,List.length_map]at hown
   have hne:am l≠[]:=fun e=>hid.out.2.1 (qp e)
   obtain⟨b',c'',rfl,hc'',hb',hge'⟩:=uo hown hne
   refine⟨_,rfl,⟨_,_,_,rfl,hc'',⟨hb'.1,fun h=>?_⟩⟩,hid3.out.2.2.1.trans ⟨rfl,rfl,rfl,Nat.le_refl _,fun _ _=>rfl⟩⟩
   obtain⟨a,ha,hlt,hx⟩:=hb'.2 h
   cases ha
   exact⟨_,rfl,hlt,fun i x hi=>(dd _ _ _ _).2 ⟨by rw[aL];exact Nat.le_trans hid3.out.2.2.2 hge',hx i x hi⟩⟩
  ·have hxt:=x.hs.tab
   obtain⟨bs,js,rfl,htd⟩:=hA (by simp)
   have htdc:Todo bs js ((ai x.c.code).name :: (aN (x :: rs)).drop 1) wr:=htd
   have e0:=htdc.cell
   have hpl:(aN (x :: rs)).length=((aN (x :: rs)).length-1)+1:=by
    have:0<(aN (x :: rs)).length:=by rw[dP];simp[Cf,tR]
    omega
   rw[hpl]at hc' ⊢
   generalize hkk:(aN (x :: rs)).length-1=kk at hc' hpl ⊢
   have hid3:=Hid.mk (And.intro hl (And.intro hbuf (And.intro hr (And.intro hr0 (And.intro hnx (And.intro hbb (And.intro htdc hpl)))))))
   clear hl hbuf hnx hbb hr hr0 hA htd htdc hpl hkk
   go_wp2_with fail
   refine(cG x.c.code hxt _).mono ?_
   rintro e w3 ⟨v,rfl,⟨⟨nm,vA,vn,vc,sz,pa,tr⟩,rfl,⟨i1,i2,i3,i4,i5⟩,hfr,hvb⟩,hb3⟩
   dsimp only at i1 i2 i3 i4 i5 hfr hvb
   simp only[PV.val]
   subst i1 i2 i3
   rw[i4]
   obtain⟨q,hq⟩:∃q:Nat,x.c.code=((q+1:Nat):Int):=⟨x.c.code.toNat-1,by have:=Dm _ hxt;omega⟩
   have hvn:0<vn:=by have:=(dh _ hxt).1;rw[hvb.1];omega
   obtain⟨va,hva,hvl,_⟩:=hvb.2 hvn
   subst hva
   have hid4:=Hid.mk (And.intro hfr (And.intro hvb (And.intro hb3 hvl)))
   have hvx:=hidv.out x (by rw[hid3.out.1];simp)
   have hcls:(∃o:Value,(ai x.c.code).tr=o/\o.oneCell'=true/\((o=.nilIface/\(ai x.c.code).size=0/\x.c.val=[]/\x.txt=[])∨(∃tv,o=.iface 147 tv/\(ai x.c.code).size≠0/\FM tv x.c.val x.txt w.heap.size w))):=by
    rcases x.hs.cls with⟨h1,h2,h3,h4⟩ |h1
    ·exact⟨_,h2,rfl,.inl ⟨rfl,h1,h3,h4⟩⟩
    ·obtain⟨tv,h2,h3⟩:=JO x.hs h1 hvx w hid.out.2.2.2
     exact⟨_,h2,rfl,.inr ⟨tv,rfl,h1,h3⟩⟩
   clear hfr hvb hb3 hvl i4 i5 hvn
   obtain⟨o,htr,ho1,hcls⟩:=hcls
   rw[htr]
   have hidc:=Hid.mk hcls
   rcases hcls with⟨rfl,hz,_,_⟩ |⟨tv,rfl,hz,_⟩
   all_goals (
    go_wp2_with fail
    obtain⟨hl,hbuf,hr,hr0,hnx,hbb,htd,hpl⟩:=hid3.out
    obtain⟨hfr,hvb,hb3,hvl⟩:=hid4.out
    have hlt:=hbuf.lt
    have n3:=hb3.size
    have isb3:=fX hbuf hb3 (Nat.le_refl _)
    have hr3:=hr.keep hb3 hlt
    have htd3:=htd.keep (hb3.block bs htd.lt)
    generalize hobj:Obj.cells _ 88=po
    have hal:=(Below.refl w3.heap.size w3).alloc (Nat.le_refl _) po
    have isb4:=fX isb3 hal (Nat.le_refl _)
    have hr4:=hr3.keep hal isb3.lt
    have htd4:=htd3.keep (hal.block bs htd3.lt)
    have hpo:=qt w3 po
    have B4:Below w.heap.size w (w3.alloc po):=(hnx.trans (hb3.mono hnx.size)).alloc (Nat.le_trans hnx.size n3) _
    have hva:=hfr va rfl
    have hvne:va.block≠w1.heap.size:=by
     have:w1.heap.size<wr.heap.size:=hlt
     have:wr.heap.size<=va.block:=hva
     omega
    have hdl:(fP (am done)).length+vn<=140737488355328:=by
     have h1:=hidy.out
     have h2:=(dh _ hxt).2
     have h3:=hvb.1
     rw[hl]at h1
     simp only[am,fP,List.flatMap_append,List.length_append,List.length_map]at h1 ⊢
     omega
    have hvn:1<=vn:=by have:=(dh _ hxt).1;rw[hvb.1];omega
    have h64:fP (am done)=[]->vn<=64/\r=none:=fun h=>⟨by have:=(dh _ hxt).2;rw[hvb.1];omega,hr0 (qp (AR h))⟩
    have hvb4:=hvb.below hal (Nat.le_refl _)
    refine(qw w1.heap.size w1.heap.size r (fP (am done)) (fP (ai x.c.code).vc) va vn vc _ isb4 hr4 (by rw[cp];have:w1.heap.size<wr.heap.size:=hlt;omega) (it _) (by rw[hvb.1,List.length_map]) hvn h64 hvne (jy hvb4) (it _) hdl).mono ?_
    rintro e w4 ⟨rfl,isb5,hb4,⟨g,hr5,hgr⟩,hkept⟩
    have gp4:w4.heap[w3.heap.size]?=some po:=by
     obtain⟨pcs,hpcs⟩:∃cs,po=.cells cs 88 (0,0):=⟨_,hobj.symm⟩
     have hpo':=hpo
     rw[hpcs]at hpo'
     rw[hpcs]at isb4 hr4
     obtain⟨n1,n2⟩:=y9 isb4 hr4 hpo' (by decide) (by decide)
     rw[hkept _ (by rw[cp];omega) n1 n2]
     exact hpo
    have htd5:Todo bs js ((ai x.c.code).name :: (aN (x :: rs)).drop 1) w4:=by
     obtain⟨n1,n2⟩:=htd4.ne isb4 hr4
     exact htd4.keep (hkept _ htd4.lt n1 n2)
    have B5:Below w.heap.size w w4:=B4.trans (hb4.mono hbb)
    subst hobj
    have d3:=cellOf (i:=3) gp4 rfl
    have d4:=cellOf (i:=4) gp4 rfl
    have d5:=cellOf (i:=5) gp4 rfl
    have hvc:fP (am done)++fP (ai x.c.code).vc=fP (am done++(ai x.c.code).vc):=by simp[fP]
    rw[hvc]at isb5
    have hid5:=Hid.mk (And.intro hl (And.intro gp4 (And.intro htd5 (And.intro B5 (And.intro isb5 (And.intro hr5 (And.intro hpl hbb)))))))
    clear gp4 htd5 B5 isb5 hr5 hkept hb4 isb4 hl hbuf hnx hbb hr hr0 htd hpl hfr hvb hb3 hvl hlt n3 hva hdl e0 isb3 hr3 htd3 hal hr4 htd4 hpo B4 hvne hvn h64 hvb4 hgr hvc)
   ·have hz':(ai ((q:Int)+1)).size=0:=by have:=hz;rw[hq]at this;simpa using this
    have hpc:aN (x :: rs)=(ai x.c.code).name :: aN rs:=by
     rw[dP]
     unfold Cf tR
     rw[if_pos hz]
     rfl
    have hcls1:x.c.val=[]:=by
     rcases hidc.out with⟨_,_,h,_⟩ |⟨_,_,h,_⟩
     ·exact h
     ·exact absurd hz h
    have hkr:kk=(aN rs).length:=by
     have:=hid5.out.2.2.2.2.2.2.1
     rw[hpc]at this
     simp at this
     omega
    have hval:am done++(ai x.c.code).vc=am (done++[x]):=by
     rw[dU,hcls1]
     unfold bW
     rw[if_neg (by omega)]
     simp
    have hidk:=Hid.mk (And.intro hkr (And.intro hval hpc))
    clear hkr hval hpc hcls1
    have hrel:∀A c'',kk<=c''->(rs≠[]->A=some ⟨bs,js+1,none⟩)->Rel10 l w w1.heap.size (.slice A kk c'') w4:=fun A c'' hc hA=>by
     obtain⟨hl,gp4,htd5,B5,isb5,hr5,hpl,hbb⟩:=hid5.out
     obtain⟨hkr,hval,hpc⟩:=hidk.out
     refine Rel10.next (bs:=bs) (js:=js+1) hl hkr hc (fun h=>⟨hA h,?_⟩) isb5 hval hr5 B5 hbb
     have htd:=htd5.drop
     rw[hpc]at htd
     exact htd
    have hrel':=Hid.mk hrel
    clear hrel
    have hkr:=hidk.out.1
    subst hkr
    rcases(show c'=1∨2<=c' by omega) with hc1 |hc2
    ·subst hc1
     have h0:(aN rs).length=0:=by omega
     have hrel0:∀A c'',Rel10 l w w1.heap.size (.slice A 0 c'') w4:=fun A c''=>by
      have:=hrel'.out A c'' (by omega) (fun h=>by have:=rm h;omega)
      rw[h0]at this
      exact this
     have hrel0':=Hid.mk hrel0
     clear hrel0
     go_wp2
     refine⟨?_,?measure⟩
     case measure=>show 0<(aN rs).length+1;omega
     exact⟨_,_,_,_,_,_,_,_,_,_,_,_,_,_,_,_,_,_,_,_,_,_,_,_,_,_,_,_,_,_,_,_,_,_,_,_,_,_,_,_,_,_,_,_,_,_,_,_,_,_,_,_,_,_,_,_,_,_,_,_,_,_,_,_,_,_,_,_,_,_,_,_,_,_,_,_,hrel0'.out _ _,rfl⟩
    ·go_wp2
     refine⟨?_,?measure⟩
     case measure=>show(aN rs).length<(aN rs).length+1;omega
     exact⟨_,_,_,_,_,_,_,_,_,_,_,_,_,_,_,_,_,_,_,_,_,_,_,_,_,_,_,_,_,_,_,_,_,_,_,_,_,_,_,_,_,_,_,_,_,_,_,_,_,_,_,_,_,_,_,_,_,_,_,_,_,_,_,_,_,_,_,_,_,_,_,_,_,_,_,_,hrel'.out _ _ (by omega) (fun h=>rfl),rfl⟩
   ·have hz':¬(ai ((q:Int)+1)).size=0:=by have:=hz;rw[hq]at this;simpa using this
    rcases hpth:(ai x.c.code).path with _ |_
    ·have hpth':(ai ((q:Int)+1)).path=false:=by have:=hpth;rw[hq]at this;simpa using this
     have hpc:aN (x :: rs)=(ai x.c.code).name :: x.txt :: aN rs:=by
      rw[dP]
      unfold Cf tR
      rw[if_neg hz,hpth]
      rfl
     have hkr:kk=(aN rs).length+1:=by
      have:=hid5.out.2.2.2.2.2.2.1
      rw[hpc]at this
      simp at this
      omega
     subst hkr
     have htd5:=hid5.out.2.2.1.drop
     rw[hpc]at htd5
     have e5:=htd5.cell
     have hidk:=Hid.mk (And.intro htd5 hpc)
     clear htd5 hpc
     rw[hpth']at d4
     go_wp2_with fail
     have htw:FM tv x.c.val x.txt w.heap.size w:=by
      rcases hidc.out with⟨h,_⟩ |⟨tv',h,_,h2⟩
      ·cases h
      ·cases h
       exact h2
     have B5:=hid5.out.2.2.2.1
     have hst:=htw.1 w4.drew ⟨B5.os,B5.tape,B5.output,B5.size,B5.block⟩ B5.size
     have hidw:=Hid.mk htw
     clear htw B5
     have hmS:=Lc
     go_region_with (
      go_at_call 390
      refine hst.mono ?_
      rintro e w5 ⟨v,rfl,⟨b5,o5,c5,rfl,q1,q2,q3⟩,hb5⟩)
     all_goals
      have hb45:Below w4.heap.size w4 w5:=⟨hb5.os,hb5.tape,hb5.output,hb5.size,hb5.block⟩
      obtain⟨hl,gp4,_,B4,isb4,hr4,hpl,hbb⟩:=hid5.out
      have hb5':w4.heap.size<=b5:=q3
      have hg4:=EO isb4 hr4
      have hlt4:=isb4.lt
      have hv0:0<x.c.val.length:=x.hs.val_pos hz
      have hlt5:b5<w5.heap.size:=by
       obtain⟨a,ha,hl5,_⟩:=q2.2 hv0
       cases ha
       exact hl5
      have hmid:Mid w w1.heap.size bs (js+1) g b5 o5 w3.heap.size (x.txt :: aN rs) x.c.val (am done++(ai x.c.code).vc) _ w5:=⟨hidk.out.1.keep (hb45.block bs hidk.out.1.lt),B4.trans (hb45.mono B4.size),fX isb4 hb45 (Nat.le_refl _),hr4.keep hb45 isb4.lt,q2,by omega,by omega,(hb45.block _ (cS gp4)).trans gp4,hbb,hlt5⟩
      have d3:=cellOf (i:=3) hmid.prot rfl
      have d5:=cellOf (i:=5) hmid.prot rfl
      have hval:=hidw.out.2 w5 b5 o5 c5 w5.heap.size hmid.below hmid.below.size q2 (Nat.le_refl _) q1
      have hmV:=Ld
      have hid6:=Hid.mk hmid
      have hidl:=Hid.mk (And.intro hl hv0)
      clear hb45 hl gp4 B4 isb4 hr4 hpl hbb hb5 hb5' hg4 hlt4 hv0 hlt5 hmid q2 q3 hst
      go_wp2_with fail
      refine hval.mono ?_
      rintro e w6 ⟨rfl,hb6⟩
      have hmid:=hid6.out.next hb6
      have d3:=cellOf (i:=3) hmid.prot rfl
      have hid7:=Hid.mk hmid
      clear hmid hval
      have hvc0:am done++(ai x.c.code).vc≠[]:=fun e=>by
       have h1:=(dh _ hxt).1
       rw[List.append_eq_nil_iff]at e
       rw[e.2]at h1
       simp at h1
      have hlim:=qo hidl.out.1 hidy.out
      by_cases hneg:(ai ((q:Int)+1)).size<0
      ·have hall:(am done++(ai x.c.code).vc++uv x.c.val.length)++x.c.val=am (done++[x]):=by
        rw[dU]
        unfold bW
        rw[if_pos (by rw[hq];simpa using hneg)]
        simp
       have hida:=Hid.mk (And.intro hvc0 (And.intro hlim hall))
       clear hvc0 hlim hall
       go_wp2_with fail
       refine(EZ x.c.val.length _ (by omega)).mono ?_
       rintro e w7 ⟨v,rfl,⟨uA,uk,uc,rfl,hu1,hu2,hu3⟩,hb7⟩
       have hmid:=hid7.out.next hb7
       have huk:1<=uk:=by rw[hu2.1];exact fv _
       obtain⟨ua,rfl,hul,_⟩:=hu2.2 huk
       have hua:ua.block≠w1.heap.size:=by
        have h1:=hu3 ua rfl
        have h2:=hid7.out.isb.lt
        omega
       have hlm:=hida.out.2.1
       rw[<- hida.out.2.2]at hlm
       simp only[List.length_append]at hlm
       have hwr:=hmid.write ua uk uc (uv x.c.val.length) hu2 huk hida.out.1 hua (by simp only[List.length_append];omega)
       clear hmid hu2 hu3 hul hua hlm hb7
       go_wp2_with fail
       refine hwr.mono ?_
       rintro e w8 ⟨rfl,g8,hm8⟩
       have hlm:=hida.out.2.1
       rw[<- hida.out.2.2]at hlm
       simp only[List.length_append]at hlm
       have hwr2:=hm8.write ⟨b5,o5,none⟩ x.c.val.length c5 x.c.val hm8.bts hidl.out.2 (fun e=>by have:=hida.out.1;rw[List.append_eq_nil_iff]at e;exact this e.1) hm8.ne1 (by simp only[List.length_append];omega)
       clear hwr hm8 hlm
       go_wp2_with fail
       refine hwr2.mono ?_
       rintro e w9 ⟨rfl,g9,hm9⟩
       rw[hida.out.2.2]at hm9
       have hid9:=Hid.mk hm9
       clear hm9 hwr2
       have hrel':=Hid.mk fun A c'' hc hA=>Mid.rel (A:=A) (c'':=c'') hid9.out hidl.out.1 hc hA
       clear hid9
       rcases(show c'=2∨3<=c' by omega) with hc1 |hc2
       ·subst hc1
        have h0:(aN rs).length=0:=by omega
        have hrel0:=Hid.mk fun A c''=>Mid.rel0 h0 (hrel'.out A c'')
        clear hrel'
        go_wp2
        refine⟨?_,?measure⟩
        case measure=>show 0<(aN rs).length+1+1;omega
        exact⟨_,_,_,_,_,_,_,_,_,_,_,_,_,_,_,_,_,_,_,_,_,_,_,_,_,_,_,_,_,_,_,_,_,_,_,_,_,_,_,_,_,_,_,_,_,_,_,_,_,_,_,_,_,_,_,_,_,_,_,_,_,_,_,_,_,_,_,_,_,_,_,_,_,_,_,_,hrel0.out _ _,rfl⟩
       ·go_wp2
        refine⟨?_,?measure⟩
        case measure=>show(aN rs).length<(aN rs).length+1+1;omega
        exact⟨_,_,_,_,_,_,_,_,_,_,_,_,_,_,_,_,_,_,_,_,_,_,_,_,_,_,_,_,_,_,_,_,_,_,_,_,_,_,_,_,_,_,_,_,_,_,_,_,_,_,_,_,_,_,_,_,_,_,_,_,_,_,_,_,_,_,_,_,_,_,_,_,_,_,_,_,hrel'.out _ _ (by omega) (fun h=>rfl),rfl⟩
      ·have hall:(am done++(ai x.c.code).vc)++x.c.val=am (done++[x]):=by
        rw[dU]
        unfold bW
        rw[if_neg (by rw[hq];simpa using hneg)]
        simp
       have hlm:=hlim
       rw[<- hall]at hlm
       simp only[List.length_append]at hlm
       have hwr2:=hid7.out.write ⟨b5,o5,none⟩ x.c.val.length c5 x.c.val hid7.out.bts hidl.out.2 hvc0 hid7.out.ne1 (by simp only[List.length_append];omega)
       clear hlm hvc0 hlim
       have hida:=Hid.mk hall
       clear hall
       go_wp2_with fail
       refine hwr2.mono ?_
       rintro e w9 ⟨rfl,g9,hm9⟩
       rw[hida.out]at hm9
       have hid9:=Hid.mk hm9
       clear hm9 hwr2
       have hrel':=Hid.mk fun A c'' hc hA=>Mid.rel (A:=A) (c'':=c'') hid9.out hidl.out.1 hc hA
       clear hid9
       rcases(show c'=2∨3<=c' by omega) with hc1 |hc2
       ·subst hc1
        have h0:(aN rs).length=0:=by omega
        have hrel0:=Hid.mk fun A c''=>Mid.rel0 h0 (hrel'.out A c'')
        clear hrel'
        go_wp2
        refine⟨?_,?measure⟩
        case measure=>show 0<(aN rs).length+1+1;omega
        exact⟨_,_,_,_,_,_,_,_,_,_,_,_,_,_,_,_,_,_,_,_,_,_,_,_,_,_,_,_,_,_,_,_,_,_,_,_,_,_,_,_,_,_,_,_,_,_,_,_,_,_,_,_,_,_,_,_,_,_,_,_,_,_,_,_,_,_,_,_,_,_,_,_,_,_,_,_,hrel0.out _ _,rfl⟩
       ·go_wp2
        refine⟨?_,?measure⟩
        case measure=>show(aN rs).length<(aN rs).length+1+1;omega
        exact⟨_,_,_,_,_,_,_,_,_,_,_,_,_,_,_,_,_,_,_,_,_,_,_,_,_,_,_,_,_,_,_,_,_,_,_,_,_,_,_,_,_,_,_,_,_,_,_,_,_,_,_,_,_,_,_,_,_,_,_,_,_,_,_,_,_,_,_,_,_,_,_,_,_,_,_,_,hrel'.out _ _ (by omega) (fun h=>rfl),rfl⟩
    ·have hpth':(ai ((q:Int)+1)).path=true:=by have:=hpth;rw[hq]at this;simpa using this
     obtain⟨hvt,rr,hrr⟩:=x.hs.pathU hpth
     have hrs:rs=[]:=OkL.last (hid5.out.1 ▸ hid.out.1) hpth
     subst hrs
     have hpc:aN [x]=(ai x.c.code).name :: ck rr:=by
      rw[dP]
      unfold Cf tR
      rw[if_neg hz,hpth,hrr]
      simp[aN]
     have hkr:kk=(ck rr).length:=by
      have:=hid5.out.2.2.2.2.2.2.1
      rw[hpc]at this
      simp at this
      omega
     obtain⟨k0,hk0⟩:∃k0,(ck rr).length=k0+1:=⟨(ck rr).length-1,by have:=List.length_pos_iff.2 (tX rr);omega⟩
     rw[hk0]at hkr
     subst hkr
     have htd5:=hid5.out.2.2.1.drop
     rw[hpc]at htd5
     have hidk:=Hid.mk (And.intro htd5 (And.intro hpc (And.intro hk0 (And.intro hrr hvt))))
     clear htd5 hpc hk0 hrr hvt
     rw[hpth']at d4
     have hjoin:=Jo rr bs (js+1) (c'-1) k0 w4 hidk.out.1 hidk.out.2.2.1 (by omega) (by have h1:=hidk.out.2.2.2.1;have h2:=hidk.out.2.2.2.2;rw[h1]at h2;have:=congrArg List.length h2;simp at this;omega)
     have hrl:rr.length<=2147483647:=by have h1:=hidk.out.2.2.2.1;have h2:=hidk.out.2.2.2.2;rw[h1]at h2;have:=congrArg List.length h2;simp at this;omega
     go_wp2_with fail
     refine hjoin.mono ?_
     rintro e w4' ⟨rfl,hb4'⟩
     have hslash:(⟨#[47]⟩:ByteArray)++⟨rr.toArray⟩=⟨x.txt.toArray⟩:=by
      rw[hidk.out.2.2.2.1]
      apply ByteArray.ext
      simp
     have d5:∀o,(w4'.alloc o).cell? ⟨w3.heap.size,5,none⟩=some (.iface 147 tv):=fun o=>by
      have h1:=cS hid5.out.2.1
      have h2:=(hb4'.block _ h1).trans hid5.out.2.1
      have h3:=((Below.refl w4'.heap.size w4').alloc (Nat.le_refl _) o).block _ (cS h2)
      exact cellOf (i:=5) (h3.trans h2) rfl
     have hidj:=Hid.mk hb4'
     clear hb4' hjoin
     go_wp2_with fail
     have hb4':=hidj.out
     have hal:=(Below.refl w4'.heap.size w4').alloc (Nat.le_refl _) (.cells #[.string ⟨x.txt.toArray⟩] 9)
     have h4W:=hb4'.trans (hal.mono hb4'.size)
     have hnb:=qt w4' (.cells #[.string ⟨x.txt.toArray⟩] 9)
     have e5:=cellOf (i:=0) hnb rfl
     have d5:=d5 (.cells #[.string ⟨x.txt.toArray⟩] 9)
     have htn:Todo w4'.heap.size 0 (x.txt :: aN []) (w4'.alloc (.cells #[.string ⟨x.txt.toArray⟩] 9)):=⟨_,hnb,fun i y hi=>by
      match i,hi with
      |0,hi=>
       simp only[List.getElem?_cons_zero,Option.some.injEq]at hi
       subst hi
       rfl
      |i+1,hi=>simp[aN]at hi⟩
     have hid5W:Hid (l=done++[x]/\(w4'.alloc (.cells #[.string ⟨x.txt.toArray⟩] 9)).heap[w3.heap.size]?=_/\True/\Below w.heap.size w (w4'.alloc (.cells #[.string ⟨x.txt.toArray⟩] 9))/\Lib.IsBuffer 112 5 w1.heap.size w1.heap.size (fP (am done++(ai x.c.code).vc)) (w4'.alloc (.cells #[.string ⟨x.txt.toArray⟩] 9))/\RowOf w1.heap.size (some g) (w4'.alloc (.cells #[.string ⟨x.txt.toArray⟩] 9))/\True/\w.heap.size<=w1.heap.size):=Hid.mk (by
      obtain⟨hl,gp4,_,B4,isb4,hr4,hpl,hbb⟩:=hid5.out
      exact⟨hl,(h4W.block _ (cS gp4)).trans gp4,trivial,B4.trans (h4W.mono B4.size),fX isb4 h4W (Nat.le_refl _),hr4.keep h4W isb4.lt,trivial,hbb⟩)
     have hidk:=Hid.mk htn
     clear hal h4W hnb htn hb4' hidj
     generalize hW5:w4'.alloc (.cells #[.string ⟨x.txt.toArray⟩] 9)=W5 at *
     generalize hnbk:w4'.heap.size=nb at *
     clear hW5 hnbk
     have htw:FM tv x.c.val x.txt w.heap.size w:=by
      rcases hidc.out with⟨h,_⟩ |⟨tv',h,_,h2⟩
      ·cases h
      ·cases h
       exact h2
     have B5:=hid5W.out.2.2.2.1
     have hst:=htw.1 W5.drew ⟨B5.os,B5.tape,B5.output,B5.size,B5.block⟩ B5.size
     have hidw:=Hid.mk htw
     clear htw B5
     have hmS:=Lc
     go_region_with (
      go_at_call 390
      refine hst.mono ?_
      rintro e w5 ⟨v,rfl,⟨b5,o5,c5,rfl,q1,q2,q3⟩,hb5⟩)
     all_goals
      have hb45:Below W5.heap.size W5 w5:=⟨hb5.os,hb5.tape,hb5.output,hb5.size,hb5.block⟩
      obtain⟨hl,gp4,_,B4,isb4,hr4,hpl,hbb⟩:=hid5W.out
      have hb5':W5.heap.size<=b5:=q3
      have hg4:=EO isb4 hr4
      have hlt4:=isb4.lt
      have hv0:0<x.c.val.length:=x.hs.val_pos hz
      have hlt5:b5<w5.heap.size:=by
       obtain⟨a,ha,hl5,_⟩:=q2.2 hv0
       cases ha
       exact hl5
      have hmid:Mid w w1.heap.size nb 0 g b5 o5 w3.heap.size (x.txt :: aN []) x.c.val (am done++(ai x.c.code).vc) _ w5:=⟨hidk.out.keep (hb45.block nb hidk.out.lt),B4.trans (hb45.mono B4.size),fX isb4 hb45 (Nat.le_refl _),hr4.keep hb45 isb4.lt,q2,by omega,by omega,(hb45.block _ (cS gp4)).trans gp4,hbb,hlt5⟩
      have d3:=cellOf (i:=3) hmid.prot rfl
      have d5:=cellOf (i:=5) hmid.prot rfl
      have hval:=hidw.out.2 w5 b5 o5 c5 w5.heap.size hmid.below hmid.below.size q2 (Nat.le_refl _) q1
      have hmV:=Ld
      have hid6:=Hid.mk hmid
      have hidl:=Hid.mk (And.intro hl hv0)
      clear hb45 hl gp4 B4 isb4 hr4 hpl hbb hb5 hb5' hg4 hlt4 hv0 hlt5 hmid q2 q3 hst
      go_wp2_with fail
      refine hval.mono ?_
      rintro e w6 ⟨rfl,hb6⟩
      have hmid:=hid6.out.next hb6
      have d3:=cellOf (i:=3) hmid.prot rfl
      have hid7:=Hid.mk hmid
      clear hmid hval
      have hvc0:am done++(ai x.c.code).vc≠[]:=fun e=>by
       have h1:=(dh _ hxt).1
       rw[List.append_eq_nil_iff]at e
       rw[e.2]at h1
       simp at h1
      have hlim:=qo hidl.out.1 hidy.out
      by_cases hneg:(ai ((q:Int)+1)).size<0
      ·have hall:(am done++(ai x.c.code).vc++uv x.c.val.length)++x.c.val=am (done++[x]):=by
        rw[dU]
        unfold bW
        rw[if_pos (by rw[hq];simpa using hneg)]
        simp
       have hida:=Hid.mk (And.intro hvc0 (And.intro hlim hall))
       clear hvc0 hlim hall
       go_wp2_with fail
       refine(EZ x.c.val.length _ (by omega)).mono ?_
       rintro e w7 ⟨v,rfl,⟨uA,uk,uc,rfl,hu1,hu2,hu3⟩,hb7⟩
       have hmid:=hid7.out.next hb7
       have huk:1<=uk:=by rw[hu2.1];exact fv _
       obtain⟨ua,rfl,hul,_⟩:=hu2.2 huk
       have hua:ua.block≠w1.heap.size:=by
        have h1:=hu3 ua rfl
        have h2:=hid7.out.isb.lt
        omega
       have hlm:=hida.out.2.1
       rw[<- hida.out.2.2]at hlm
       simp only[List.length_append]at hlm
       have hwr:=hmid.write ua uk uc (uv x.c.val.length) hu2 huk hida.out.1 hua (by simp only[List.length_append];omega)
       clear hmid hu2 hu3 hul hua hlm hb7
       go_wp2_with fail
       refine hwr.mono ?_
       rintro e w8 ⟨rfl,g8,hm8⟩
       have hlm:=hida.out.2.1
       rw[<- hida.out.2.2]at hlm
       simp only[List.length_append]at hlm
       have hwr2:=hm8.write ⟨b5,o5,none⟩ x.c.val.length c5 x.c.val hm8.bts hidl.out.2 (fun e=>by have:=hida.out.1;rw[List.append_eq_nil_iff]at e;exact this e.1) hm8.ne1 (by simp only[List.length_append];omega)
       clear hwr hm8 hlm
       go_wp2_with fail
       refine hwr2.mono ?_
       rintro e w9 ⟨rfl,g9,hm9⟩
       rw[hida.out.2.2]at hm9
       have hid9:=Hid.mk hm9
       clear hm9 hwr2
       have hm:=hid9.out
       have hrelE:Rel10 l w w1.heap.size (.slice (some ⟨nb,0,none⟩) 0 0) _:=Rel10.next (rs:=[]) (bs:=0) (js:=0) hidl.out.1 rfl (Nat.le_refl _) (fun h=>absurd rfl h) hm.isb rfl hm.row hm.below hm.bbge
       have hrel0:=Hid.mk hrelE
       clear hm hid9 hrelE
       go_wp2
       refine⟨?_,?measure⟩
       case measure=>show 0<k0+1+1;omega
       exact⟨_,_,_,_,_,_,_,_,_,_,_,_,_,_,_,_,_,_,_,_,_,_,_,_,_,_,_,_,_,_,_,_,_,_,_,_,_,_,_,_,_,_,_,_,_,_,_,_,_,_,_,_,_,_,_,_,_,_,_,_,_,_,_,_,_,_,_,_,_,_,_,_,_,_,_,_,hrel0.out,rfl⟩
      ·have hall:(am done++(ai x.c.code).vc)++x.c.val=am (done++[x]):=by
        rw[dU]
        unfold bW
        rw[if_neg (by rw[hq];simpa using hneg)]
        simp
       have hlm:=hlim
       rw[<- hall]at hlm
       simp only[List.length_append]at hlm
       have hwr2:=hid7.out.write ⟨b5,o5,none⟩ x.c.val.length c5 x.c.val hid7.out.bts hidl.out.2 hvc0 hid7.out.ne1 (by simp only[List.length_append];omega)
       clear hlm hvc0 hlim
       have hida:=Hid.mk hall
       clear hall
       go_wp2_with fail
       refine hwr2.mono ?_
       rintro e w9 ⟨rfl,g9,hm9⟩
       rw[hida.out]at hm9
       have hid9:=Hid.mk hm9
       clear hm9 hwr2
       have hm:=hid9.out
       have hrelE:Rel10 l w w1.heap.size (.slice (some ⟨nb,0,none⟩) 0 0) _:=Rel10.next (rs:=[]) (bs:=0) (js:=0) hidl.out.1 rfl (Nat.le_refl _) (fun h=>absurd rfl h) hm.isb rfl hm.row hm.below hm.bbge
       have hrel0:=Hid.mk hrelE
       clear hm hid9 hrelE
       go_wp2
       refine⟨?_,?measure⟩
       case measure=>show 0<k0+1+1;omega
       exact⟨_,_,_,_,_,_,_,_,_,_,_,_,_,_,_,_,_,_,_,_,_,_,_,_,_,_,_,_,_,_,_,_,_,_,_,_,_,_,_,_,_,_,_,_,_,_,_,_,_,_,_,_,_,_,_,_,_,_,_,_,_,_,_,_,_,_,_,_,_,_,_,_,_,_,_,_,hrel0.out,rfl⟩
end
section
open Go Go.Rx Go.RowKit
structure RCv where
 k:Nat
 n:Nat
@[reducible] def eB:Hook:={ X:=RCv,out:=fun _ s x=>(.tup [.int .i64 x.k false,.int .i64 x.n false,.one .nilIface rfl],s.objs) }
@[reducible] def qr:Hook:={ X:=Addr,out:=fun _ s x=>(.xp x,s.objs) }
@[reducible] def kr:Hook:={ X:=Unit,out:=fun _ s _=>(.one .nilIface rfl,s.objs) }
def KM:Hooks:={ calls:=fun f=>if f=96 then some eB else if f=67 then some bh else if f=85 then some qr else if f=91 then some kr else none,loops:=fun _ _=>none }
noncomputable abbrev gb(x1:(Hook.X (bh)))(x0:(Hook.X (eB))):SObj:=(.cells [(.str x1.name false),(.int .i64 ((↑x0.k:Int)) false),(.xs x1.A x1.n x1.c),(.int .i64 x1.size false),(.bool x1.path false),(.one (x1.tr).1 (x1.tr).2)] 6 88 0 0)
noncomputable abbrev gc(x0:(Hook.X (eB))):Int:=(i64.wrap ((0:Int)+(↑x0.n:Int)))
noncomputable abbrev nV(x0 x3:(Hook.X (eB))):Int:=(i64.wrap ((0:Int)+(↑x0.n:Int))+(↑x3.n:Int))
noncomputable abbrev nW(x0:(Hook.X (eB)))(x1:(Hook.X (bh))):Int:=(i64.wrap ((0:Int)+(↑x0.n:Int))+i64.wrap (x1.size.tdiv (8:Int)))
noncomputable abbrev Fs:ByteArray:=(ByteArray.mk #[105,110,118,97,108,105,100,32,118,97,108,117,101,32,102,111,114,32,115,105,122,101])
noncomputable abbrev z2:SV:=(.tup [(.int .i64 0 true),(.one (.pointer none) rfl),(.ifc 105 (.ptr 1 0))])
noncomputable abbrev vq(x0:(Hook.X (eB)))(c:Nat):Prop:=((0:Int)<=i64.wrap ((0:Int)+(↑x0.n:Int))/\i64.wrap ((0:Int)+(↑x0.n:Int))<=(↑c:Int))
noncomputable abbrev kH(x0 x3:(Hook.X (eB))):Int:=(i64.wrap (nV x0 x3)+(↑x3.k:Int))
noncomputable abbrev z6(w3:World)(c:Nat)(A:Option Addr)(x0 x3:(Hook.X (eB)))(x2:(Hook.X (qr))):SObj:=(.cells [(.str (bytesAt w3 (if c=0 then A else Option.map (fun x=>x.add 0) A) ((i64.wrap (kH x0 x3)).toNat-0)) false),(.xp x2),(.int .i64 (i64.wrap (nV x0 x3)) false)] 3 64 0 0)
noncomputable abbrev z7(w2:World)(c:Nat)(A:Option Addr)(x0:(Hook.X (eB)))(x1:(Hook.X (bh)))(x2:(Hook.X (qr))):SObj:=(.cells [(.str (bytesAt w2 (if c=0 then A else Option.map (fun x=>x.add 0) A) ((i64.wrap (nW x0 x1)).toNat-0)) false),(.xp x2),(.int .i64 (gc x0) false)] 3 64 0 0)
noncomputable abbrev vp(w2:World)(c:Nat)(A:Option Addr)(x0:(Hook.X (eB)))(x2:(Hook.X (qr))):SObj:=(.cells [(.str (bytesAt w2 (if c=0 then A else Option.map (fun x=>x.add 0) A) ((gc x0).toNat-0)) false),(.xp x2),(.int .i64 (gc x0) false)] 3 64 0 0)
noncomputable abbrev m8(x1:(Hook.X (bh)))(x0:(Hook.X (eB)))(w3:World)(b3:List Nat):T:=(.leaf .ret [z2] (SS.mk [(gb x1 x0),(.cells [(.str Fs true)] 1 107 0 0)] [] true w3 b3))
theorem Mu(A:Option Addr)(n c:Nat)(w:World):al Tryz.prog KM 1000 83 [.xs A n c] (SS.mk [] [] true w []) =
(.hc 96 [(.xs A n c)] (SS.mk [] [] true w []) (eB) fun x0 w0 b0=>(.hc 67 [(.int .i64 ((↑x0.k:Int)) false)] (SS.mk [] [] true w0 b0) (bh) fun x1 w1 b1=>(.split ((↑x0.k:Int) == (0:Int)) (.leaf .ret [z2] (SS.mk [(gb x1 x0),(.cells [(.str (ByteArray.mk #[110,111,32,112,114,111,116,111,99,111,108,32,119,105,116,104,32,99,111,100,101]) true)] 1 107 0 0)] [] true w1 b1)) (.hc 85 [(.int .i64 ((↑x0.k:Int)) false)] (SS.mk [(gb x1 x0)] [] true w1 b1) (qr) fun x2 w2 b2=>(.split (x1.size == (0:Int)) (.need (vq x0 c) (.need (canBytes w2 b2 (if c=0 then A else Option.map (fun x=>x.add 0) A) ((gc x0).toNat-0)) (.hc 91 [(.ptr 1 0)] (SS.mk [(gb x1 x0),(vp w2 c A x0 x2)] [] true w2 b2) (kr) fun x3 w3 b3=>(.leaf .ret [(.tup [(.int .i64 (gc x0) false),(.ptr 1 0),(.one .nilIface rfl)])] (SS.mk [(gb x1 x0),(vp w2 c A x0 x2)] [] true w3 b3))))) (.split (decide (x1.size<(0:Int))) (.need (vq x0 n) (.hc 96 [(.xs (if c=(gc x0).toNat then A else Option.map (fun x=>x.add ((gc x0).toNat*1)) A) (n-(gc x0).toNat) (c-(gc x0).toNat))] (SS.mk [(gb x1 x0)] [] true w2 b2) (eB) fun x3 w3 b3=>(.need ((0:Int)<=i64.wrap (nV x0 x3)/\i64.wrap (nV x0 x3)<=(↑n:Int)) (.split (decide ((↑(n-(i64.wrap (nV x0 x3)).toNat):Int)<(↑x3.k:Int))) (m8 x1 x0 w3 b3) (.split (decide ((↑x3.k:Int)<=(0:Int))) (m8 x1 x0 w3 b3) (.need ((0:Int)<=i64.wrap (kH x0 x3)/\i64.wrap (kH x0 x3)<=(↑c:Int)) (.need (canBytes w3 b3 (if c=0 then A else Option.map (fun x=>x.add 0) A) ((i64.wrap (kH x0 x3)).toNat-0)) (.hc 91 [(.ptr 1 0)] (SS.mk [(gb x1 x0),(z6 w3 c A x0 x3 x2)] [] true w3 b3) (kr) fun x4 w4 b4=>(.leaf .ret [(.tup [(.int .i64 (i64.wrap (kH x0 x3)) false),(.ptr 1 0),(.one .nilIface rfl)])] (SS.mk [(gb x1 x0),(z6 w3 c A x0 x3 x2)] [] true w4 b4)))))))))) (.need (vq x0 n) (.split (decide ((↑(n-(gc x0).toNat):Int)<i64.wrap (x1.size.tdiv (8:Int)))) (m8 x1 x0 w2 b2) (.split (decide (i64.wrap (x1.size.tdiv (8:Int))<=(0:Int))) (m8 x1 x0 w2 b2) (.need ((0:Int)<=i64.wrap (nW x0 x1)/\i64.wrap (nW x0 x1)<=(↑c:Int)) (.need (canBytes w2 b2 (if c=0 then A else Option.map (fun x=>x.add 0) A) ((i64.wrap (nW x0 x1)).toNat-0)) (.hc 91 [(.ptr 1 0)] (SS.mk [(gb x1 x0),(z7 w2 c A x0 x1 x2)] [] true w2 b2) (kr) fun x3 w3 b3=>(.leaf .ret [(.tup [(.int .i64 (i64.wrap (nW x0 x1)) false),(.ptr 1 0),(.one .nilIface rfl)])] (SS.mk [(gb x1 x0),(z7 w2 c A x0 x1 x2)] [] true w3 b3)))))))))))))):=by kernel_rfl
theorem Ri(A:Option Addr)(n c:Nat)(w:World):(by have h:=Mu A n c w;unfold m8 vp z7 z6 kH vq z2 Fs nW nV gc gb at h;exact type_of% h):=Mu A n c w
theorem Bts.pre{w:World}{B n:Nat}{A:Option Addr}{P R:List UInt8}(h:Bts w B A n (P++R)):Bts w B A P.length P:=by
 have hl:=h.1
 rw[List.length_append]at hl
 refine⟨rfl,fun h0=>?_⟩
 obtain⟨a,ha,hb,hx⟩:=h.2 (by omega)
 exact⟨a,ha,hb,fun i y hi=>hx i y (by rw[List.getElem?_append_left (List.getElem?_eq_some_iff.1 hi).1];exact hi)⟩
theorem Bts.suf{w:World}{B n c m:Nat}{A:Option Addr}{P R:List UInt8}(h:Bts w B A n (P++R))(hm:m=P.length)(hc:n<=c):Bts w B (if c=m then A else A.map (fun x=>x.add (m*1))) (n-m) R:=by
 have hl:=h.1
 rw[List.length_append]at hl
 refine⟨by omega,fun h0=>?_⟩
 obtain⟨a,ha,hb,hx⟩:=h.2 (by omega)
 subst ha
 rw[if_neg (by omega)]
 refine⟨a.add (m*1),rfl,by rw[aL];exact hb,fun i y hi=>?_⟩
 rw[add_add]
 have:=hx (m+i) y (by rw[List.getElem?_append_right (by omega)];rw[hm];simpa using hi)
 have e:m*1+i*1=(m+i)*1:=by omega
 rw[e]
 exact this
theorem jIO(A:Option Addr)(c:Nat):(if c=(0:Nat) then A else Option.map (fun x=>x.add (0:Nat)) A)=A:=by
 split
 ·rfl
 ·cases A <;> rfl
def OM(x:CT)(w:World)(v:Value)(w':World):Prop:=∃p,v=.tuple #[.int .i64 ((bg x).length:Int),.pointer (some ⟨p,0,none⟩),.nilIface]/\CN w p x.c.code x.c.val w'
theorem Simple.fixLen{k:Int}{val txt:List UInt8}(hs:Simple k val txt)(h:0<(ai k).size):i64.wrap ((ai k).size.tdiv 8)=(val.length:Int):=by
 cases hs with
 |N _ hz=>omega
 |P _ hz=>rw[hz];rfl
 |F _ hz=>rw[hz];rfl
 |S _ hz _ _ l hl=>rw[hz,hl];rfl
 |C _ hz=>rw[hz];rfl
 |M _ hz=>rw[hz];rfl
 |D _ hz=>omega
 |Z _ hz=>omega
 |U _ hz=>omega
theorem ro(x:CT)(rest:List UInt8)(A:Option Addr)(n c B:Nat)(w:World)(h:Bts w B A n (bg x++rest))(hB:B<=w.heap.size)(hc:n<=c)(hn:(n:Int)<2^46)(hl:x.c.val.length<=2147483647)(ht:Tens w) :
  Calls Tryz.prog 83 #[.slice A n c] w (bB (OM x w) w):=by
 have hk:=x.hs.tab
 have hs:=x.hs
 have hcbe:=kg x
 have hhd:bg x=bW x.c.code x.c.val++x.c.val:=rfl
 have hnl:=h.1
 rw[List.length_append]at hnl
 obtain⟨kn,hkn⟩:∃kn,kn=x.c.code.toNat:=⟨_,rfl⟩
 have hkk:((kn:Nat):Int)=x.c.code:=by rw[hkn];exact Int.toNat_of_nonneg (tn _ hk)
 have hk2:kn<=7367777:=by have:=(E5 _ hk).2;omega
 rw[<- hkn]at hcbe
 have hul:=iP 9 kn (by omega)
 refine aF (hk:=KM) (n:=1000) (args:=[.xs A n c]) ⟨trivial,trivial⟩ ?_
 refine ah (Ri A n c w) ?_
 refine c7 (R:=fun(y:RCv) _ _=>y=⟨kn,(uv kn).length⟩) (Fine.start w _) (fun y=>⟨rfl,trivial,trivial,trivial,trivial⟩) (fun β w0 hst ho hb=>?_) ?_
 ·have h0:=h.below (hb.mono hB) (Nat.le_refl _)
  rw[hcbe,List.append_assoc,List.append_assoc]at h0
  refine(f6 A n c kn _ B w0 h0 (Nat.le_trans hB hb.size) (by omega)).mono ?_
  rintro e w' ⟨v,rfl,rfl,hb'⟩
  exact⟨⟨kn,_⟩,rfl,hb',rfl⟩
 rintro y wA w0 b0 hbA rfl hbA0 hb0 hbs0
 dsimp only
 rw[hkk]
 refine pI (Fine.mk' hb0 fun b hb=>(hbs0 b hb).1) rfl (fun w1 _=>Bz _ hk w1) (fun p w1 w2 b2 hx hfr hbt hb01 hb12 hb2 hbs2=>?_)
 refine ae (fun h0=>?_) (fun _=>?_)
 ·have h0':x.c.code=0:=by simpa using h0
  rw[h0']at hk
  exact absurd hk (by decide)
 refine c7 (w:=w) (R:=fun(p:Addr) wc w'=>∃b,p=⟨b,0,none⟩/\ProtN wc b x.c.code w') (Fine.mk' hb2 fun b hb=>(hbs2 b hb).1) (fun y=>⟨rfl,trivial⟩) (fun β wc hst ho hb=>?_) ?_
 ·refine(Ew _ hk wc).mono ?_
  rintro e w' ⟨v,rfl,⟨b,rfl,h1⟩,hb'⟩
  exact⟨⟨b,0,none⟩,rfl,hb',b,rfl,h1⟩
 rintro pp wc w3 b3 hbc ⟨bq,rfl,hP⟩ hbc3 hb3 hbs3
 have wk:∀ {w':World},Keep b3 w3 w'->Below w.heap.size w w':=fun hk=>hk.below hb3 (Nat.le_refl _) fun i hi=>(hbs3 i hi).1
 have fin:∀ {w4:World}{b4:List Nat}{S:ByteArray}{N off:Int}{o0:SObj},Keep b3 w3 w4->(∀i∈b4,i∈b3∨w3.heap.size<=i)->S=⟨(bW x.c.code x.c.val++x.c.val).toArray⟩->off=((bW x.c.code x.c.val).length:Int)->N=((bg x).length:Int) ->
   (T.call 91 [.ptr 1 0] (SS.mk [o0,.cells [.str S false,.xp ⟨bq,0,none⟩,.int .i64 off false] 3 64 0 0] [] true w4 b4) (Hook.X kr) (Hook.out kr [.ptr 1 0] (SS.mk [o0,.cells [.str S false,.xp ⟨bq,0,none⟩,.int .i64 off false] 3 64 0 0] [] true w4 b4)) fun _ w5 b5=>
    (T.leaf .ret [.tup [.int .i64 N false,.ptr 1 0,.one .nilIface rfl]] (SS.mk [o0,.cells [.str S false,.xp ⟨bq,0,none⟩,.int .i64 off false] 3 64 0 0] [] true w5 b5))).holds (c8 Tryz.prog (bH fun v w'=>OM x w v w'/\Below w.heap.size w w')):=by
  rintro w4 b4 S N off o0 hk34 hbs4 rfl rfl rfl
  refine aY (w:=w3) (bs:=b3) (R:=fun(_:Unit) _ _=>True) ⟨rfl,hk34,hbs4⟩ (fun y=>⟨rfl,trivial⟩) (fun β wd hst ho hkc=>?_) ?_
  ·have hPw:=hP.keep hkc fun i hi=>.inl (hbs3 i hi).2
   refine(BL hs hl (mg (hst.at_ 1 _ rfl) (hst.lt 1 (by simp[SS.n])) hPw) (Nat.le_refl _) (ht.below (wk hkc) ht.lt)).mono ?_
   rintro e w' ⟨rfl,hb'⟩
   exact⟨(),rfl,hb',trivial⟩
  rintro _ wd w5 b5 hkd _ hbd5 hk35 hbs5
  refine aJ (w:=w3) (bs:=b3) ⟨rfl,hk35,fun i hi=>(hbs5 i hi).1⟩ fun β w6 hst hk36=>⟨_,rfl,⟨β 1,rfl,?_,hst.lt 1 (by simp[SS.n]),bq,qF (hst.at_ 1 _ rfl),(hP.keep hk36 fun i hi=>.inl (hbs3 i hi).2).from hbc.size⟩,wk hk36⟩
  have:=hb3.size
  rcases(hst.old rfl).pos (i:=1) (by simp[SS.n]) with hm |hm
  ·rcases(hbs5 _ hm).1 with h |h
   ·exact(hbs3 _ h).1
   ·omega
  ·have:=hk35.size
   have hm':w5.heap.size<=β 1:=hm
   omega
 rw[hx.size]
 have hu1:i64.wrap ((0:Int)+((uv kn).length:Int))=((uv kn).length:Int):=by rw[aq (by omega) (by omega)];omega
 have h3:∀ {w':World},Keep b3 w3 w'->Bts w' B A n (bg x++rest):=fun hk'=>h.below ((wk hk').mono hB) (Nat.le_refl _)
 have can:∀ {w':World}{bs:List Nat}{P R:List UInt8},Keep b3 w3 w'->(∀i∈bs,i∈b3∨w3.heap.size<=i)->bg x++rest=P++R->canBytes w' bs A P.length/\bytesAt w' A P.length=⟨P.toArray⟩:=fun{w'} {bs} {P} {R} hk' hbs' he=>by
  have hb':=wk hk'
  have hbp:=h3 hk'
  rw[he]at hbp
  refine⟨(Bts.pre hbp).canBytes (Nat.le_trans hB hb'.size) fun i hi=>?_,(Bts.pre hbp).bytesAt⟩
  have:=hb3.size
  rcases hbs' i hi with h |h
  ·exact Nat.le_trans hB (hbs3 i h).1
  ·omega
 have hhl:bW x.c.code x.c.val=uv kn++(if(ai x.c.code).size<0 then uv x.c.val.length else[]):=by
  unfold bW
  rw[rG _ hk,<- hkn]
 simp only[hu1,jIO,Nat.sub_zero,Int.toNat_natCast]
 have r33:=Keep.refl b3 w3
 have i33:∀i∈b3,i∈b3∨w3.heap.size<=i:=fun i hi=>.inl hi
 have hcl:(bg x).length=(bW x.c.code x.c.val).length+x.c.val.length:=by rw[hhd,List.length_append]
 refine ae (fun hz=>?_) (fun hz=>ak (fun hneg=>?_) (fun hneg=>?_))
 ·have hz':(ai x.c.code).size=0:=by simpa using hz
  have hv0:x.c.val=[]:=by
   rcases x.hs.cls with⟨_,_,h,_⟩ |h
   ·exact h
   ·exact absurd hz' h
  have hcu:bg x=uv kn:=by rw[hcbe,if_neg (by omega),hv0];simp
  have hhu:bW x.c.code x.c.val=uv kn:=by rw[hhl,if_neg (by omega),List.append_nil]
  have hlu:(bg x).length=(uv kn).length:=by rw[hcu]
  obtain⟨c1,c2⟩:=can (P:=uv kn) (R:=rest) r33 i33 (by rw[hcu])
  rw[c2]
  refine aa ⟨by omega,by omega⟩ (aa c1 ?_)
  exact fin r33 i33 (by rw[hhu,hv0];simp) (by rw[hhu]) (by rw[hlu])
 ·have hlen2:=iP 9 x.c.val.length (by omega)
  rw[if_pos hneg]at hhl hcbe
  have hhlen:(bW x.c.code x.c.val).length=(uv kn).length+(uv x.c.val.length).length:=by rw[hhl,List.length_append]
  refine aa ⟨by omega,by omega⟩ ?_
  refine aY (w:=w3) (bs:=b3) (R:=fun(y:RCv) _ _=>y=⟨x.c.val.length,(uv x.c.val.length).length⟩) ⟨rfl,r33,i33⟩ (fun y=>⟨rfl,trivial,trivial,trivial,trivial⟩) (fun β wd hst ho hkd=>?_) ?_
  ·have hb':=h3 hkd
   rw[hcbe,List.append_assoc,List.append_assoc]at hb'
   have hsf:=Bts.suf hb' rfl hc
   refine(f6 _ (n-(uv kn).length) (c-(uv kn).length) x.c.val.length (x.c.val++rest) B wd hsf (Nat.le_trans hB (wk hkd).size) (by omega)).mono ?_
   rintro e w' ⟨v,rfl,rfl,hb'⟩
   exact⟨⟨_,_⟩,rfl,hb',rfl⟩
  rintro y wd w4 b4 hkd rfl hbd4 hk34 hbs4
  have i34:∀i∈b4,i∈b3∨w3.heap.size<=i:=fun i hi=>(hbs4 i hi).1
  have hv0:=x.hs.val_pos (by omega)
  dsimp only
  have hu2:i64.wrap (((uv kn).length:Int)+((uv x.c.val.length).length:Int))=(((uv kn).length+(uv x.c.val.length).length:Nat):Int):=by rw[aq (by omega) (by omega)];omega
  have hu3:i64.wrap ((((uv kn).length+(uv x.c.val.length).length:Nat):Int)+(x.c.val.length:Int))=((bg x).length:Int):=by rw[aq (by omega) (by omega)];omega
  simp only[hu2,hu3,Int.toNat_natCast]
  obtain⟨c1,c2⟩:=can (P:=bg x) (R:=rest) hk34 i34 rfl
  rw[c2]
  refine aa ⟨by omega,by omega⟩ (ak (fun h=>absurd h (by omega)) (fun _=>ak (fun h=>absurd h (by omega)) (fun _=>aa ⟨by omega,by omega⟩ (aa c1 ?_))))
  exact fin hk34 i34 (by rw[hhd]) (by rw[hhlen]) rfl
 ·have hz':(ai x.c.code).size≠0:=by simpa using hz
  rw[if_neg hneg,List.append_nil]at hhl
  have hsz:i64.wrap ((ai x.c.code).size.tdiv 8)=(x.c.val.length:Int):=x.hs.fixLen (by omega)
  have hv0:=x.hs.val_pos hz'
  have hhlen:(bW x.c.code x.c.val).length=(uv kn).length:=by rw[hhl]
  simp only[hsz]
  have hu3:i64.wrap (((uv kn).length:Int)+(x.c.val.length:Int))=((bg x).length:Int):=by rw[aq (by omega) (by omega)];omega
  simp only[hu3,Int.toNat_natCast]
  obtain⟨c1,c2⟩:=can (P:=bg x) (R:=rest) r33 i33 rfl
  rw[c2]
  refine aa ⟨by omega,by omega⟩ (ak (fun h=>absurd h (by omega)) (fun _=>ak (fun h=>absurd h (by omega)) (fun _=>aa ⟨by omega,by omega⟩ (aa c1 ?_))))
  exact fin r33 i33 (by rw[hhd]) (by rw[hhlen]) rfl
end
section
open Go Go.Rx Go.RowKit
structure RMx where
 A:Option Addr
 k:Nat
 c:Nat
 m:Nat
structure RCx where
 m:Nat
 p:Addr
@[reducible] def kv:Hook:={ X:=RCx,out:=fun _ s x=>(.tup [.int .i64 x.m false,.xp x.p,.one .nilIface rfl],s.objs) }
def IL:SE->List Nat
 | .normal=>[5,0,6,7]
 | .exit 0=>[5,6]
 |_=>[]
def D7:LoopHook:=cl 51 RMx (.exit 0) [5,6] (fun x=>[.xs x.A x.k x.c,.int .i64 x.m false]) Unit .ret [] (fun _=>[])
def G5:Hooks:={ calls:=fun _=>none,loops:=fun _ _=>some D7 }
def Jm:Hooks:={ calls:=fun f=>if f=83 then some kv else none,loops:=fun _ _=>none }
noncomputable abbrev vr(A:Option Addr)(n c:Nat):List SV:=([(.xs A n c),(.tup []),(.int .i64 0 true),(.one (.slice none 0 0) rfl),(.one .nilIface rfl),(.one (.slice none 0 0) rfl),(.int .i64 0 true),(.bool false true),(.tup []),(.tup []),(.tup []),(.xs A n c),(.int .i64 ((↑n:Int)) false),(.bool false true)]++List.replicate 37 az)
theorem Mv(A:Option Addr)(n c:Nat)(w:World):al Tryz.prog G5 1000 65 [.xs A n c] (SS.at w) =
(.split ((↑n:Int) == (0:Int)) (.leaf .ret [(.tup [(.int .i64 0 true),(.one (.slice none 0 0) rfl),(.ifc 105 (.ptr 0 0))])] (SS.mk [(.cells [(.str (ByteArray.mk #[101,109,112,116,121,32,109,117,108,116,105,97,100,100,114]) true)] 1 107 0 0)] [] true w [])) (.loop 65 (av Tryz.prog 65 7) (vr A n c) (SS.mk [] [] true w []) (LoopHook.X (D7)) (LoopHook.out (D7) (vr A n c) (SS.mk [] [] true w [])) (fun x0 w0 b0=>(.leaf .ret [(.tup [(.int .i64 ((↑x0.fst.m:Int)) false),(.xs x0.fst.A x0.fst.k x0.fst.c),(.one .nilIface rfl)])] (SS.mk [] [] true w0 b0))) (LoopHook.Y (D7)) (LoopHook.out' (D7) (vr A n c) (SS.mk [] [] true w [])) (fun x0 w0 b0=>(.leaf .ret [(.tup [(.raw (x0.snd 2)),(.raw (x0.snd 3)),(.raw (x0.snd 4))])] (SS.mk [] [] true w0 b0))))):=by kernel_rfl
theorem Rj(A:Option Addr)(n c:Nat)(w:World):(by have h:=Mv A n c w;unfold vr at h;exact type_of% h):=Mv A n c w
noncomputable abbrev nX(w0:World)(x0:(Hook.X (kv))):List SV:=[(.str (bK w0 (x0.p.add 0)) false),(.xp (cP w0 (x0.p.add 1))),(.int .i64 (aj w0 (x0.p.add 2)) false)]
noncomputable abbrev sc(c:Nat)(x0:(Hook.X (kv)))(A:Option Addr)(n:Nat):SV:=(.xs (if c=(↑x0.m:Int).toNat then A else Option.map (fun x=>x.add ((↑x0.m:Int).toNat*1)) A) (n-(↑x0.m:Int).toNat) (c-(↑x0.m:Int).toNat))
noncomputable abbrev vt:ByteArray:=(ByteArray.mk #[117,110,101,120,112,101,99,116,101,100,32,99,111,109,112,111,110,101,110,116,32,97,102,116,101,114,32,112,97,116,104,32,99,111,109,112,111,110,101,110,116])
noncomputable abbrev lM(w0:World)(x0:(Hook.X (kv))):Bool:=(nk w0 (((cP w0 ((x0.p.add 1).add 0)).add 4).add 0))
theorem Lf(A:Option Addr)(n c m:Nat)(sw:Bool)(w:World)(g:Nat->Value):aO Tryz.prog Jm 1000 65 (av Tryz.prog 65 7) (ay ((IL .normal).zip [.one (.slice none 0 0) rfl,.xs A n c,.int .i64 m false,.bool sw false]) g 51 0) (fun e a s=>.leaf e (fG IL e a) s) (SS.mk [] [] true w []) =
(.split (decide ((↑n:Int) > (0:Int))) (.hc 83 [(.xs A n c)] (SS.mk [] [] true w []) (kv) fun x0 w0 b0=>(.need ((0:Int)<=(↑x0.m:Int)/\(↑x0.m:Int)<=(↑n:Int)) (.split sw (.leaf .ret [] (SS.mk [(.cells [(.str vt true)] 1 107 0 0)] [] true w0 b0)) (.need (canRead w0 b0 (x0.p.add 1) [SV.xp (cP w0 ((x0.p.add 1).add 0))]) (.need (canRead w0 b0 ((cP w0 ((x0.p.add 1).add 0)).add 4) [SV.bool (lM w0 x0) false]) (.need (canRead w0 b0 x0.p [SV.str (bK w0 (x0.p.add 0)) false,SV.xp (cP w0 (x0.p.add 1)),SV.int i64 (aj w0 (x0.p.add 2)) false]) (.need (32<=281474976710656) (.need ((↑(1:Nat):Int)<=i64.max) (.choose (.appendCap 1 0 64) fun c1=>(.leaf .normal [(.slc 1 0 1 c1 true false),(sc c x0 A n),(.int .i64 (i64.wrap ((↑m:Int)+(↑x0.m:Int))) false),(.bool (lM w0 x0) false)] (SS.mk [(.cells (nX w0 x0) 3 64 0 0),(.cells (nX w0 x0) (c1*3) 64 0 0)] [] true w0 b0))))))))))) (.leaf (.exit 0) [(.one (.slice none 0 0) rfl),(.int .i64 ((↑m:Int)) false)] (SS.mk [] [] true w []))):=by kernel_rfl
theorem Qx(A:Option Addr)(n c m:Nat)(sw:Bool)(w:World)(g:Nat->Value):(by have h:=Lf A n c m sw w g;unfold lM vt sc nX at h;exact type_of% h):=Lf A n c m sw w g
theorem L3(A:Option Addr)(n c m kk cc:Nat)(sw:Bool)(Ls:List Value)(w:World)(bs:List Nat)(g:Nat->Value):aO Tryz.prog Jm 1000 65 (av Tryz.prog 65 7) (ay ((IL .normal).zip [.slc 0 0 kk cc false false,.xs A n c,.int .i64 m false,.bool sw false]) g 51 0) (fun e a s=>.leaf e (fG IL e a) s) (SS.mk [.vals Ls (cc*3) 64 0 0] [] true w bs) =
(.split (decide ((↑n:Int) > (0:Int))) (.hc 83 [(.xs A n c)] (SS.mk [(.vals Ls (cc*3) 64 0 0)] [] true w bs) (kv) fun x0 w0 b0=>(.need ((0:Int)<=(↑x0.m:Int)/\(↑x0.m:Int)<=(↑n:Int)) (.split sw (.leaf .ret [] (SS.mk [(.vals Ls (cc*3) 64 0 0),(.cells [(.str vt true)] 1 107 0 0)] [] true w0 b0)) (.need (canRead w0 b0 (x0.p.add 1) [SV.xp (cP w0 ((x0.p.add 1).add 0))]) (.need (canRead w0 b0 ((cP w0 ((x0.p.add 1).add 0)).add 4) [SV.bool (lM w0 x0) false]) (.need (canRead w0 b0 x0.p [SV.str (bK w0 (x0.p.add 0)) false,SV.xp (cP w0 (x0.p.add 1)),SV.int i64 (aj w0 (x0.p.add 2)) false]) (.split (decide (kk+1<=cc)) (.need (0+kk*3=Ls.length/\Ls.length+(af id [SV.str (bK w0 (x0.p.add 0)) false,SV.xp (cP w0 (x0.p.add 1)),SV.int i64 (aj w0 (x0.p.add 2)) false]).length<=cc*3/\an 0 0 Ls.length (af id [SV.str (bK w0 (x0.p.add 0)) false,SV.xp (cP w0 (x0.p.add 1)),SV.int i64 (aj w0 (x0.p.add 2)) false]).length=true) (.leaf .normal [(.slc 0 0 (kk+1) cc false false),(sc c x0 A n),(.int .i64 (i64.wrap ((↑m:Int)+(↑x0.m:Int))) false),(.bool (lM w0 x0) false)] (SS.mk [(.vals (Ls++af id [SV.str (bK w0 (x0.p.add 0)) false,SV.xp (cP w0 (x0.p.add 1)),SV.int i64 (aj w0 (x0.p.add 2)) false]) (cc*3) 64 0 0),(.cells (nX w0 x0) 3 64 0 0)] [] true w0 b0))) (.need (0+kk*3<=Ls.length/\Builtin.nextslicecap (kk+1) cc*32<=281474976710656/\(↑(kk+1):Int)<=i64.max) (.choose (.appendCap (kk+1) cc 64) fun c1=>(.leaf .normal [(.slc 2 0 (kk+1) c1 false false),(sc c x0 A n),(.int .i64 (i64.wrap ((↑m:Int)+(↑x0.m:Int))) false),(.bool (lM w0 x0) false)] (SS.mk [(.vals Ls (cc*3) 64 0 0),(.cells (nX w0 x0) 3 64 0 0),(.vals (List.take (kk*3) (List.drop 0 Ls)++af id [SV.str (bK w0 (x0.p.add 0)) false,SV.xp (cP w0 (x0.p.add 1)),SV.int i64 (aj w0 (x0.p.add 2)) false]) (c1*3) 64 0 0)] [] true w0 b0))))))))))) (.leaf (.exit 0) [(.slc 0 0 kk cc false false),(.int .i64 ((↑m:Int)) false)] (SS.mk [(.vals Ls (cc*3) 64 0 0)] [] true w bs))):=by kernel_rfl
theorem QT(A:Option Addr)(n c m kk cc:Nat)(sw:Bool)(Ls:List Value)(w:World)(bs:List Nat)(g:Nat->Value):(by have h:=L3 A n c m kk cc sw Ls w bs g;unfold lM vt sc nX at h;exact type_of% h):=L3 A n c m kk cc sw Ls w bs g
def MaX(w:World)(B:Nat)(x:CT)(vs:List Value):Prop:=∃b,vs=[.string ⟨(bW x.c.code x.c.val++x.c.val).toArray⟩,.pointer (some ⟨b,0,none⟩),.int .i64 ((bW x.c.code x.c.val).length:Int)]/\ProtB w B b x.c.code
theorem MaX.lasts:Lasts MaX 3 where
 sub B B' a b' x vs hs hB:=by
  rintro⟨b,h1,h2,A,c,h3,h4,h5⟩
  exact⟨b,h1,by omega,A,c,hs.block _ _ _ _ h2 h3,h4.sub hs hB,h5⟩
 len _ _ _ _:=by
  rintro⟨b,rfl,_⟩
  rfl
 pos:=by omega
theorem ProtN.since{wc w2:World}{b:Nat}{k:Int}(h:ProtN wc b k w2):ProtB (Rx.since wc w2) w2.heap.size b k:=by
 obtain⟨h0,h1,A,c,h2,h3,h4,h5⟩:=h
 exact⟨h1,A,c,(ew _ _ _ _ _ _).2 ⟨h0,h2⟩,Bts.since h3 h5,h4⟩
theorem CN.reads{wc w2:World}{p:Nat}{k:Int}{val:List UInt8}(h:CN wc p k val w2){bs:List Nat}(hbs:∀i∈bs,i<wc.heap.size):∃b,
  canRead w2 bs ((⟨p,0,none⟩:Addr).add 1) [SV.xp (cP w2 (((⟨p,0,none⟩:Addr).add 1).add 0))]/\cP w2 (((⟨p,0,none⟩:Addr).add 1).add 0)=⟨b,0,none⟩/\cP w2 ((⟨p,0,none⟩:Addr).add 1)=⟨b,0,none⟩ /\
  canRead w2 bs ((⟨b,0,none⟩:Addr).add 4) [SV.bool (nk w2 (((⟨b,0,none⟩:Addr).add 4).add 0)) false]/\nk w2 (((⟨b,0,none⟩:Addr).add 4).add 0)=(ai k).path /\
  canRead w2 bs ⟨p,0,none⟩ [SV.str (bK w2 ((⟨p,0,none⟩:Addr).add 0)) false,SV.xp (cP w2 ((⟨p,0,none⟩:Addr).add 1)),SV.int i64 (aj w2 ((⟨p,0,none⟩:Addr).add 2)) false] /\
  bK w2 ((⟨p,0,none⟩:Addr).add 0)=⟨(bW k val++val).toArray⟩/\aj w2 ((⟨p,0,none⟩:Addr).add 2)=((bW k val).length:Int)/\ProtB (Rx.since wc w2) w2.heap.size b k:=by
 obtain⟨h0,h1,b,h2,h3⟩:=h
 have h3s:=h3.since
 obtain⟨q0,q1,A,c,q2,_⟩:=h3
 have c0:w2.cell? ⟨p,0,none⟩=some (.string ⟨(bW k val++val).toArray⟩):=cellOf h2 rfl
 have c1:w2.cell? ⟨p,1,none⟩=some (.pointer (some ⟨b,0,none⟩)):=cellOf h2 rfl
 have c2:w2.cell? ⟨p,2,none⟩=some (.int .i64 ((bW k val).length:Int)):=cellOf h2 rfl
 have c4:w2.cell? ⟨b,4,none⟩=some (.bool (ai k).path):=cellOf q2 rfl
 have a0:(⟨p,0,none⟩:Addr).add 0=⟨p,0,none⟩:=rfl
 have a1:(⟨p,0,none⟩:Addr).add 1=⟨p,1,none⟩:=rfl
 have a2:(⟨p,0,none⟩:Addr).add 2=⟨p,2,none⟩:=rfl
 have a4:(⟨b,0,none⟩:Addr).add 4=⟨b,4,none⟩:=rfl
 have np:p ∉ bs:=fun hm=>by have:=hbs _ hm;omega
 have nb:b ∉ bs:=fun hm=>by have:=hbs _ hm;omega
 have e0:bK w2 ⟨p,0,none⟩=⟨(bW k val++val).toArray⟩:=by simp[bK,c0]
 have e1:cP w2 ⟨p,1,none⟩=⟨b,0,none⟩:=by simp[cP,c1]
 have e2:aj w2 ⟨p,2,none⟩=((bW k val).length:Int):=by simp[aj,c2]
 have e4:nk w2 ⟨b,4,none⟩=(ai k).path:=by simp[nk,c4]
 refine⟨b,?_⟩
 rw[a0,a1,a2,a4]
 refine⟨db h1 np (by rw[Rx.add_zero,e1];exact c1),by rw[Rx.add_zero];exact e1,e1,db q1 nb (by rw[Rx.add_zero,e4];exact c4),by rw[Rx.add_zero];exact e4,⟨h1,np,fun j v hj=>?_⟩,e0,e2,h3s⟩
 match j,hj with
 |0,hj=>simp only[List.getElem?_cons_zero,Option.some.injEq]at hj;subst hj;rw[e0];exact c0
 |1,hj=>simp only[List.getElem?_cons_succ,List.getElem?_cons_zero,Option.some.injEq]at hj;subst hj;rw[e1];exact c1
 |2,hj=>simp only[List.getElem?_cons_succ,List.getElem?_cons_zero,Option.some.injEq]at hj;subst hj;rw[e2];exact c2
 |j+3,hj=>simp at hj
def MP{γ:Type}(R:World->Nat->γ->List Value->Prop)(size:Nat)(l:List γ)(us:List Value)(w0:World)(e:SE)(lv:List Value)(w':World):Prop:=
 e=.exit 0/\∃A k c,lv=.slice A k c :: us/\RowAt R size (Rx.since w0 w') w'.heap.size A k l/\k<=c
section
variable {P:Program}{γ:Type}{R:World->Nat->γ->List Value->Prop}{size:Nat}{et:TypeId}{w0 w1:World}{l:List γ}{n i:Nat}{Ls:List Value}{svs:Nat->List SV}
theorem Dv(hR:Lasts R size)(hn:n=l.length)(hi:¬i<n)(h:IR R l n w0 i none [] w1)(hb0:Below w0.heap.size w0 w1){v:SV}(hv:∀β,SV.den β v=.slice none 0 0){ps:List SV}{us:List Value}(hps:∀β,af β ps=us) :
  (T.leaf (.exit 0) (v :: ps) (SS.mk [] [] true w1 [])).holds (c8 P (rA et size svs (fun i=>n-i) (IR R l n w0) (MP R size l us w0) w0 i)):=by
 have hkf:KFine [] w1 (SS.mk [] [] true w1 []):=⟨rfl,Keep.refl _ _,by simp⟩
 refine aJ hkf fun β w' hst hk=>⟨⟨rfl,none,0,0,by simp[af,hv,hps],?_,Nat.le_refl _⟩,hk.below hb0 (Nat.le_refl _) (by simp)⟩
 have hle:=h.2.len (hR.len _ _)
 have hi':=h.1
 have hz:=hR.pos
 rw[List.length_take]at hle
 simp only[List.length_nil]at hle
 have hl0:l=[]:=by
  refine List.eq_nil_of_length_eq_zero ?_
  have h1:min i l.length=l.length:=by omega
  rw[h1]at hle
  rcases Nat.mul_eq_zero.1 hle.symm with h |h
  ·exact h
  ·omega
 subst hl0
 exact⟨rfl,fun h=>absurd h (Nat.lt_irrefl 0)⟩
theorem Dw(hR:Lasts R size)(hn:n=l.length)(hi:¬i<n){b kk cc:Nat}(h:IR R l n w0 i (some ⟨b,0,none⟩) Ls w1)(hb0:Below w0.heap.size w0 w1)(hb1:w0.heap.size<=b)(hLs:Ls.length=kk*size)(hkc:kk<=cc){ps:List SV}{us:List Value}(hps:∀β,af β ps=us) :
  (T.leaf (.exit 0) (.slc 0 0 kk cc false false :: ps) (SS.mk [.vals Ls (cc*size) et 0 0] [] true w1 [b])).holds { P:=P,β0:=fun _=>b,n0:=1,Q:=rA et size svs (fun i=>n-i) (IR R l n w0) (MP R size l us w0) w0 i }:=by
 refine aJ ⟨rfl,Keep.refl _ _,fun b hb=>.inl hb⟩ fun β' w' hst hk=>⟨⟨rfl,_,kk,cc,by simp only[af,hps];rfl,?_,hkc⟩,hk.below hb0 (Nat.le_refl _) (by simpa using hb1)⟩
 have hi':=h.1
 have hrow:=h.2
 rw[List.take_of_length_le (by omega)]at hrow
 obtain⟨rest,e2,e3⟩:=hst.at_ 0 _ rfl
 have hb0':β' 0=b:=hst.base 0 (by show 0<1;omega)
 have hacc:AccAt w0 w' et size (some ⟨β' 0,0,none⟩) kk cc Ls:=.inr ⟨β' 0,rfl,by omega,hst.lt 0 (by simp[SS.n]),hLs,hkc,rest,e2,e3⟩
 have hrow':Row (R (Rx.since w0 w') w'.heap.size) l Ls:=hrow.imp fun x vs hx=>hR.sub _ _ _ _ _ _ (C1 _ _ _ _) (Nat.le_refl _) (hR.sub _ _ _ _ _ _ (yx (A':=some ⟨b,0,none⟩) hk (fun b' hb'=>by
  simp at hb'
  subst hb'
  exact⟨_,rfl,rfl⟩) fun a' ha'=>by cases ha';exact .inl (by simp)) hk.size hx)
 exact zt (S:=fun b=>w0.heap.size<=b) hacc hrow' (hR.len _ _) hR.pos (fun a ha=>by cases ha;show w0.heap.size<=β' 0;omega)
end
def yj(l:List CT)(i:Nat):Nat:=match l[i]? with
 |some x=>(bg x).length
 |none=>0
def fI(A:Option Addr)(n c:Nat)(l:List CT):Nat->Option Addr×Nat×Nat
 |0=>(A,n,c)
 |i+1=>((if(fI A n c l i).2.2=yj l i then(fI A n c l i).1 else(fI A n c l i).1.map fun x=>x.add (yj l i*1)),(fI A n c l i).2.1-yj l i,(fI A n c l i).2.2-yj l i)
def ti(l:List CT):Nat->Bool
 |0=>false
 |i+1=>match l[i]? with
  |some x=>(ai x.c.code).path
  |none=>false
theorem A6{l:List CT}{i:Nat}{x:CT}(h:l[i]?=some x):l.drop i=x :: l.drop (i+1):=by
 obtain⟨hi,rfl⟩:=List.getElem?_eq_some_iff.1 h
 exact List.drop_eq_getElem_cons hi
theorem Dn{w:World}{B n c:Nat}{A:Option Addr}{l:List CT}(h:Bts w B A n (am l))(hc:n<=c):∀i,i<=l.length->Bts w B (fI A n c l i).1 (fI A n c l i).2.1 (am (l.drop i))/\(fI A n c l i).2.1<=(fI A n c l i).2.2
 |0,_=>⟨h,hc⟩
 |i+1,hi=>by
  obtain⟨h1,h2⟩:=Dn h hc i (by omega)
  have hx:l[i]?=some (l[i]'(by omega)):=List.getElem?_eq_getElem (by omega)
  rw[A6 hx]at h1
  have e:am (l[i]'(by omega) :: l.drop (i+1))=bg (l[i]'(by omega))++am (l.drop (i+1)):=rfl
  rw[e]at h1
  have hs:yj l i=(bg (l[i]'(by omega))).length:=by simp only[yj,hx]
  exact⟨Bts.suf h1 hs h2,by show _-_<=_-_;omega⟩
theorem OkL.saw:∀ {l:List CT},OkL l->∀i,i<l.length->ti l i=false
 |[],_,i,hi=>absurd hi (by simp)
 |x :: r,h,0,_=>rfl
 |x :: r,h,1,hi=>by
  show(ai x.c.code).path=false
  cases hp:(ai x.c.code).path with
  |false=>rfl
  |true=>
   have:=h.1 hp
   subst this
   simp at hi
 |x :: r,h,i+2,hi=>OkL.saw h.2 (i+1) (by have h2:=hi;simp only[List.length_cons]at h2;omega)
theorem k9{l:List CT}(h:l≠[]):0<(am l).length:=by
 cases l with
 |nil=>exact absurd rfl h
 |cons x r=>
  have:=(dh _ x.hs.tab).1
  show 0<(bg x++am r).length
  unfold bg bW
  simp only[List.length_append]
  omega
def Py(l:List CT)(n:Nat)(w:World)(v:Value)(w':World):Prop:=∃A k c,v=.tuple #[.int .i64 (n:Int),.slice A k c,.nilIface]/\RowAt MaX 3 (Rx.since w w') w'.heap.size A k l/\k<=c
theorem EL(l:List CT)(hok:OkL l)(h0:l≠[])(A:Option Addr)(n c B:Nat)(w:World)(h:Bts w B A n (am l))(hB:B<=w.heap.size)(hc:n<=c)(hn:(n:Int)<2^46)(hl:∀x∈l,x.c.val.length<=2147483647)(hll:l.length<2^40)(ht:Tens w) :
  Calls Tryz.prog 65 #[.slice A n c] w (bB (Py l n w) w):=by
 have hnn:=h.1
 have hpos:=k9 h0
 obtain⟨svs,hsvs⟩:∃svs:Nat->List SV,svs=fun i=>[.xs (fI A n c l i).1 (fI A n c l i).2.1 (fI A n c l i).2.2,.int .i64 ((am (l.take i)).length:Int) false,.bool (ti l i) false]:=⟨_,rfl⟩
 have hcur:=Dn h hc
 have hround:∀i,i<l.length->∃x,l[i]?=some x/\x∈l/\am (l.drop i)=bg x++am (l.drop (i+1))/\yj l i=(bg x).length/\ti l (i+1)=(ai x.c.code).path/\(am (l.take (i+1))).length=(am (l.take i)).length+(bg x).length/\(am (l.take i)).length+(bg x).length<=n:=fun i hi=>by
  have hx:l[i]?=some (l[i]'hi):=List.getElem?_eq_getElem hi
  have h1:=dV l (i+1)
  have h2:=fc hx
  rw[h2,List.length_append]at h1
  refine⟨_,hx,List.getElem_mem hi,by rw[A6 hx];rfl,by simp only[yj,hx],by simp only[ti,hx],by rw[h2,List.length_append],by omega⟩
 refine aF (hk:=G5) (n:=1000) (args:=[.xs A n c]) ⟨trivial,trivial⟩ ?_
 rw[Rj]
 refine ae (fun hz=>?_) (fun _=>?_)
 ·have:(n:Int)=0:=by simpa using hz
  omega
 refine La (Fine.start _ _) 64 3 IL (α:=Nat) svs (fun i=>l.length-i) (IR MaX l l.length) (MP MaX 3 l [.int .i64 n])
  (fun _=>Jm) 1000 (by simp) (by simp[IL]) (by simp[IL]) (fun i=>by rw[hsvs];exact⟨trivial,trivial,trivial,trivial⟩) rfl rfl rfl (by simp) (by simp) (fun _=>⟨trivial,trivial,trivial⟩) (fun _=>trivial) ?_ ?_ ?_ ?_
 ·rintro w0 i w1 g hbw0 hI hb0 hbw
  have hi:=hI.1
  obtain⟨hcb,hcc⟩:=hcur i hi
  have hB1:B<=w1.heap.size:=Nat.le_trans hB hbw.size
  have hcb1:=hcb.below (hbw.mono hB) (Nat.le_refl _)
  subst hsvs
  refine ah (Qx _ _ _ _ _ w1 g) (ak (fun hlt=>?_) (fun hge=>?_))
  rotate_left
  ·have hi2:¬i<l.length:=fun hlt=>by
    obtain⟨x,hx,hm,hd,_⟩:=hround i hlt
    have h1:=hcb.1
    rw[hd]at h1
    have h2:=k9 (l:=[x]) (by simp)
    have e:am [x]=bg x:=by simp[am]
    rw[e]at h2
    rw[List.length_append]at h1
    omega
   exact Dv MaX.lasts rfl hi2 hI hb0 (fun _=>rfl) (us:=[.int .i64 n]) (fun _=>by rw[List.take_of_length_le (by omega),<- hnn];rfl)
  have hi2:i<l.length:=by
   rcases Nat.lt_or_ge i l.length with h |h
   ·exact h
   ·have h1:=hcb.1
    rw[List.drop_eq_nil_of_le h]at h1
    have h2:(fI A n c l i).2.1=0:=h1
    omega
  obtain⟨x,hx,hm,hd,hsz,hsw,htk,hle⟩:=hround i hi2
  rw[hd]at hcb1
  have hni:=hcb1.1
  rw[List.length_append]at hni
  have hin:(fI A n c l i).2.1<=n:=by
   rw[hcb.1,hnn]
   have:am l=am (l.take i)++am (l.drop i):=by unfold am;rw[<- List.flatMap_append,List.take_append_drop]
   rw[this,List.length_append]
   omega
  refine aY (w:=w1) (bs:=[]) (R:=fun(y:RCx) wc w'=>∃p,y=⟨(bg x).length,⟨p,0,none⟩⟩/\CN wc p x.c.code x.c.val w') ⟨rfl,Keep.refl _ _,by simp⟩ (fun y=>⟨rfl,trivial,trivial,trivial,trivial⟩) (fun β wc hst ho hkc=>?_) ?_
  ·have hbc:=hkc.belowB hB1 (by simp)
   refine(ro x (am (l.drop (i+1))) _ _ _ B wc (hcb1.below hbc (Nat.le_refl _)) (Nat.le_trans hB1 hkc.size) hcc (by omega) (hl x hm) (ht.below (hbw.trans ((hkc.belowB (Nat.le_refl _) (by simp)).mono hbw.size)) ht.lt)).mono ?_
   rintro e w' ⟨v,rfl,⟨p,rfl,h1⟩,hb'⟩
   exact⟨⟨_,⟨p,0,none⟩⟩,rfl,hb',p,rfl,h1⟩
  rintro y wc w2 b2 hkc ⟨p,rfl,hC⟩ hbc2 hk12 hbs2
  dsimp only
  obtain⟨q,r1,e1,e1',r2,e2,r3,e3,e4,hP⟩:=hC.reads (bs:=b2) fun i hi=>(hbs2 i hi).2
  rw[e1]at r1
  rw[e3,e4,e1']at r3
  rw[e1,e1',e2,e3,e4]
  rw[e2]at r2
  refine aa ⟨by omega,by omega⟩ (ae (fun hs=>?_) (fun _=>aa r1 (aa r2 (aa r3 ?_))))
  ·rw[hok.saw i hi2]at hs
   cases hs
  refine IQ MaX.lasts hi2 hx hI hb0 hkc hbc2 hk12 hbs2 (by omega) (by decide) (vs:=[.string ⟨(bW x.c.code x.c.val++x.c.val).toArray⟩,.pointer (some ⟨q,0,none⟩),.int .i64 ((bW x.c.code x.c.val).length:Int)]) (fun _=>rfl) (fun _=>rfl) ⟨q,rfl,hP⟩ (fun β=>?_)
  have hw:i64.wrap (((am (l.take i)).length:Int)+((bg x).length:Int))=((am (l.take (i+1))).length:Int):=by rw[htk,aq (by omega) (by omega)];omega
  rw[hw]
  show af β _=af id [.xs (fI A n c l (i+1)).1 (fI A n c l (i+1)).2.1 (fI A n c l (i+1)).2.2,.int .i64 ((am (l.take (i+1))).length:Int) false,.bool (ti l (i+1)) false]
  rw[hsw]
  simp only[fI,hsz,Int.toNat_natCast,af,SV.den]
 ·rintro w0 i w1 g b kk cc Ls hbw0 hI hb0 hbw hb1 hb2 hLs hkcc
  have hi:=hI.1
  obtain⟨hcb,hcc⟩:=hcur i hi
  have hB1:B<=w1.heap.size:=Nat.le_trans hB hbw.size
  have hcb1:=hcb.below (hbw.mono hB) (Nat.le_refl _)
  have hBb:∀b'∈[b],B<=b':=fun b' hb'=>by
   have:=hbw0.size
   simp at hb'
   omega
  subst hsvs
  refine ah (QT _ _ _ _ kk cc _ Ls w1 [b] g) (ak (fun hlt=>?_) (fun hge=>?_))
  rotate_left
  ·have hi2:¬i<l.length:=fun hlt=>by
    obtain⟨x,hx,hm,hd,_⟩:=hround i hlt
    have h1:=hcb.1
    rw[hd]at h1
    have h2:=k9 (l:=[x]) (by simp)
    have e:am [x]=bg x:=by simp[am]
    rw[e]at h2
    rw[List.length_append]at h1
    omega
   exact Dw MaX.lasts rfl hi2 hI hb0 hb1 hLs hkcc (us:=[.int .i64 n]) (fun _=>by rw[List.take_of_length_le (by omega),<- hnn];rfl)
  have hi2:i<l.length:=by
   rcases Nat.lt_or_ge i l.length with h |h
   ·exact h
   ·have h1:=hcb.1
    rw[List.drop_eq_nil_of_le h]at h1
    have h2:(fI A n c l i).2.1=0:=h1
    omega
  obtain⟨x,hx,hm,hd,hsz,hsw,htk,hle⟩:=hround i hi2
  rw[hd]at hcb1
  have hni:=hcb1.1
  rw[List.length_append]at hni
  have hin:(fI A n c l i).2.1<=n:=by
   rw[hcb.1,hnn]
   have:am l=am (l.take i)++am (l.drop i):=by unfold am;rw[<- List.flatMap_append,List.take_append_drop]
   rw[this,List.length_append]
   omega
  refine aY (w:=w1) (bs:=[b]) (R:=fun(y:RCx) wc w'=>∃p,y=⟨(bg x).length,⟨p,0,none⟩⟩/\CN wc p x.c.code x.c.val w') ⟨rfl,Keep.refl _ _,fun b hb=>.inl hb⟩ (fun y=>⟨rfl,trivial,trivial,trivial,trivial⟩) (fun β wc hst ho hkc=>?_) ?_
  ·have hbc:=hkc.belowB hB1 hBb
   refine(ro x (am (l.drop (i+1))) _ _ _ B wc (hcb1.below hbc (Nat.le_refl _)) (Nat.le_trans hB1 hkc.size) hcc (by omega) (hl x hm) (ht.below (hkc.below hbw (Nat.le_refl _) (fun b' hb'=>by have:=hbw0.size;simp at hb';omega)) ht.lt)).mono ?_
   rintro e w' ⟨v,rfl,⟨p,rfl,h1⟩,hb'⟩
   exact⟨⟨_,⟨p,0,none⟩⟩,rfl,hb',p,rfl,h1⟩
  rintro y wc w2 b2 hkc ⟨p,rfl,hC⟩ hbc2 hk12 hbs2
  dsimp only
  obtain⟨q,r1,e1,e1',r2,e2,r3,e3,e4,hP⟩:=hC.reads (bs:=b2) fun i hi=>(hbs2 i hi).2
  rw[e1]at r1
  rw[e3,e4,e1']at r3
  rw[e1,e1',e2,e3,e4]
  rw[e2]at r2
  refine aa ⟨by omega,by omega⟩ (ae (fun hs=>?_) (fun _=>aa r1 (aa r2 (aa r3 ?_))))
  ·rw[hok.saw i hi2]at hs
   cases hs
  refine IU MaX.lasts hi2 hx hI hb0 hb1 hLs hkcc hkc hbc2 hk12 hbs2 (by omega) (by omega) (vs:=[.string ⟨(bW x.c.code x.c.val++x.c.val).toArray⟩,.pointer (some ⟨q,0,none⟩),.int .i64 ((bW x.c.code x.c.val).length:Int)]) rfl (fun _=>rfl) ⟨q,rfl,hP⟩ (fun β=>?_)
  have hw:i64.wrap (((am (l.take i)).length:Int)+((bg x).length:Int))=((am (l.take (i+1))).length:Int):=by rw[htk,aq (by omega) (by omega)];omega
  rw[hw]
  show af β _=af id [.xs (fI A n c l (i+1)).1 (fI A n c l (i+1)).2.1 (fI A n c l (i+1)).2.2,.int .i64 ((am (l.take (i+1))).length:Int) false,.bool (ti l (i+1)) false]
  rw[hsw]
  simp only[fI,hsz,Int.toNat_natCast,af,SV.den]
 ·intro β w0 hst hb
  refine⟨0,?_,Nat.zero_le _,.nil⟩
  subst hsvs
  rfl
 ·rintro β w0 hst hb e lv w' ⟨rfl,A',k,c',rfl,hmas,hkc⟩ hb0 hb1
  exact .inl ⟨⟨A',k,c',n⟩,rfl,rfl,fun g bs hbs=>aQ (Fine.mk' hb1 fun b hb=>(hbs b hb).1) fun β w2 hst2 hb2=>⟨A',k,c',rfl,hmas.sub MaX.lasts (tj (hst2.old rfl) rfl (fun b hb=>(hbs b hb).2) hb.size) (hst2.old rfl).sz,hkc⟩⟩
end
section
open Go Go.RowKit Go.Rx
theorem kO{P:Program}(w:World)(t u ty e T:TypeId)(i:TypeInfo)(ht:P.underlying t=some (.slice e))(hu:P.underlying u=some .string)(hi:P.info? e=some i)(hs1:i.size=1)
  (g sLen sCap:Nat) (cur:Array Value) (hg:w.heap[g]?=some (.cells cur T (0,0))) (s:ByteArray) (hroom:sLen+s.size<=sCap) (hfit:sLen+s.size<=cur.size) :
  (Builtin.append_ #[t,u] ty #[.slice (some ⟨g,0,none⟩) sLen sCap,.string s]).run P w =
   .ok (.slice (some ⟨g,0,none⟩) (sLen+s.size) sCap) (w.setRow g (cur.toList.take sLen++Lib.strCells s++cur.toList.drop (sLen+s.size)).toArray):=by
 have hf:=Lib.run_firstCells_string (P:=P) w 1 s
 have hst:=run_storeCells_at P g sLen T (Lib.strCells s) 0 cur w hg (by simpa [Lib.strCells_length] using hfit) (Lib.strCells_oneCell s)
 simp only[Nat.add_zero,Lib.strCells_length]at hst
 simp[Builtin.append_,run_underlying ht,run_underlying hu,sizeOf,typeInfo,hi,hs1,Builtin.lenOf,hroom,hf,Addr.add_lit,hst]
theorem Ca(w:World)(o:Obj):(w.alloc o).heap[w.heap.size]?=some o:=Array.getElem?_push_size
theorem RowAt.get'{w:World}{B:Nat}{A:Option Addr}{n i:Nat}{l:List CT}(h:RowAt MaX 3 w B A n l)(hi:i<n):∃a x,A=some a/\l[i]?=some x/\CellsAt (MaX w B) w B (a.add (i*3)) x:=by
 obtain⟨a,x,h1,_,h2,h3⟩:=h.get hi
 exact⟨a,x,h1,h2,h3⟩
theorem pv{P:Program}{w:World}{ops:Array Oper}{rest:List Oper}{o:Oper}{a:Act}{Q:Exit->Act->World->Prop}(hgd:o.guard=none)(sl x:Operand)(t u:TypeId)
  (ho:o.op=.call { callee:=.builtin .append,args:=#[sl,x],argTypes:=#[t,u] })
  (e T:TypeId) (i:TypeInfo) (ht:P.underlying t=some (.slice e)) (hu:P.underlying u=some .string) (hi:P.info? e=some i) (hs1:i.size=1)
  (g sLen sCap:Nat) (cur:Array Value) (hs:a.eval sl=.slice (some ⟨g,0,none⟩) sLen sCap) (hg:w.heap[g]?=some (.cells cur T (0,0))) (s:ByteArray) (hx:a.eval x=.string s)
  (hroom:sLen+s.size<=sCap) (hfit:sLen+s.size<=cur.size)
  (h:wpList P ops Q rest (a.put o.dst (.slice (some ⟨g,0,none⟩) (sLen+s.size) sCap)) (w.setRow g (cur.toList.take sLen++Lib.strCells s++cur.toList.drop (sLen+s.size)).toArray)):wpList P ops Q (o :: rest) a w:=by
 refine wpList_plain hgd fun K hK=>?_
 have hr:=kO (P:=P) w t u o.type e T i ht hu hi hs1 g sLen sCap cur hg s hroom hfit
 unfold Oper.wp execOp
 simp only[ho,resolve,invoke,builtin,Sem.run_bind,Sem.run_pure,Result.andThen_ok,List.map_toArray,List.map_cons,List.map_nil,hs,hx,hr]
 exact hK _ _ h
def IM(l:List CT)(n:Nat)(w:World)(o:Nat)(v i:Value)(wr:World):Prop:=∃(k:Nat) (cur:Array Value),k<=n/\i=.int .i64 (k:Int)/\v=.slice (some ⟨o,0,none⟩) (am (l.take k)).length 128/\wr.heap[o]?=some (.cells cur 104 (0,0))/\cur.size=128/\cur.toList.take (am (l.take k)).length=fP (am (l.take k))/\Below w.heap.size w wr/\w.heap.size<=o
theorem Ee{w wr:World}{B n k:Nat}{ad:Addr}{l:List CT}(h:RowAt MaX 3 w B (some ad) n l)(hB:B<=w.heap.size)(hnx:Below w.heap.size w wr)(hlt:k<n):∃x b,l[k]?=some x /\
  wr.cell? (ad.add (k*3))=some (.string ⟨(bW x.c.code x.c.val++x.c.val).toArray⟩) /\
  wr.cell? { block:=(ad.add (k*3)).block,off:=(ad.add (k*3)).off+1 } = some (.pointer (some ⟨b,0,none⟩)) /\
  wr.cell? { block:=(ad.add (k*3)).block,off:=(ad.add (k*3)).off+2 } = some (.int .i64 ((bW x.c.code x.c.val).length:Int))/\ProtB w B b x.c.code:=by
 obtain⟨ad',x,had,hx,hbx,vs,⟨b,rfl,hp⟩,hcells⟩:=RowAt.get' h hlt
 cases had
 have hc:∀j v,([.string ⟨(bW x.c.code x.c.val++x.c.val).toArray⟩,.pointer (some ⟨b,0,none⟩),.int .i64 ((bW x.c.code x.c.val).length:Int)]:List Value)[j]?=some v->wr.cell? ((ad.add (k*3)).add j)=some v:=fun j v hj=>by
  rw[World.cell?_of_block (w:=w) (hnx.block _ (by rw[aL];exact Nat.lt_of_lt_of_le hbx hB))]
  exact hcells j v hj
 exact⟨x,b,hx,hc 0 _ rfl,hc 1 _ rfl,hc 2 _ rfl,hp⟩
theorem F4:Tryz.prog.underlying 9=some .string:=by kernel_rfl
def Km(l:List CT)(n:Nat)(w:World)(z i:Value)(wr:World):Prop:=∃k:Nat,k<=n/\i=.int .i64 (k:Int)/\z=.int .i64 ((am (l.take k)).length:Int)/\Below w.heap.size w wr
theorem xV(ad:Addr)(n c:Nat)(l:List CT)(B:Nat)(w:World)(h:RowAt MaX 3 w B (some ad) n l)(hB:B<=w.heap.size)(hn:n<2^30)(hl:(am l).length<2^40)(h128l:(am l).length<128) :
  Calls Tryz.prog 60 #[.slice (some ad) n c] w (bB (MO l w) w):=by
 have hid0:=Hid.mk (And.intro h (And.intro hl hn))
 have hids:=Hid.mk h128l
 clear h hl hn h128l
 go_enter Tryz.func60,Tryz.ntmps60
 go_wp2
 go_loopw [3,12] (fun z i wr=>Km l n w z i wr) (fun _ i _=>n-(intOf i).toNat)
 case atStart=>exact⟨0,Nat.zero_le _,rfl,rfl,Below.refl _ _⟩
 case round=>
  obtain⟨k,hk,rfl,rfl,hnx⟩:=hrel
  obtain⟨h,hl,hn⟩:=hid0.out
  by_cases hlt:k<n
  ·obtain⟨ad',x,had,hx,hbx,vs,⟨b,rfl,hp⟩,hcells⟩:=RowAt.get' h hlt
   cases had
   have hc:∀j v,([.string ⟨(bW x.c.code x.c.val++x.c.val).toArray⟩,.pointer (some ⟨b,0,none⟩),.int .i64 ((bW x.c.code x.c.val).length:Int)]:List Value)[j]?=some v->wr.cell? ((ad.add (k*3)).add j)=some v:=fun j v hj=>by
    rw[World.cell?_of_block (w:=w) (hnx.block _ (by rw[aL];exact Nat.lt_of_lt_of_le hbx hB))]
    exact hcells j v hj
   have c0:wr.cell? (ad.add (k*3))=some (.string ⟨(bW x.c.code x.c.val++x.c.val).toArray⟩):=hc 0 _ rfl
   have c1:wr.cell? { block:=(ad.add (k*3)).block,off:=(ad.add (k*3)).off+1 } = some (.pointer (some ⟨b,0,none⟩)):=hc 1 _ rfl
   have c2:wr.cell? { block:=(ad.add (k*3)).block,off:=(ad.add (k*3)).off+2 } = some (.int .i64 ((bW x.c.code x.c.val).length:Int)):=hc 2 _ rfl
   have hki:(k:Int)<n:=by omega
   have hsn:=fc hx
   have hle:=dV l (k+1)
   rw[hsn,List.length_append]at hle
   have e1:(am (l.take (k+1))).length=(am (l.take k)).length+(bW x.c.code x.c.val++x.c.val).length:=by rw[hsn,List.length_append];rfl
   have e2:(bW x.c.code x.c.val++x.c.val).length=(bg x).length:=rfl
   have hsz:(⟨(bW x.c.code x.c.val++x.c.val).toArray⟩:ByteArray).size=(bW x.c.code x.c.val++x.c.val).length:=aC _
   generalize hS:(bW x.c.code x.c.val++x.c.val)=S at *
   generalize hM:(am (l.take k)).length=M at *
   have DD:(k:Int)<1073741824:=by omega
   have hM40:M+S.length<2^40:=by omega
   have hidx:=Hid.mk (And.intro hnx e1)
   clear h hl hn hcells hc hnx hx hp hbx hsn hle e1 e2 hS
   go_wp2
   refine⟨⟨k+1,by omega,rfl,?_,hidx.out.1.alloc hidx.out.1.size _⟩,Bo hki⟩
   rw[hidx.out.2]
   rfl
  ·have hki:¬(k:Int)<n:=by omega
   have hkl:l.take k=l:=List.take_of_length_le (by have:=h.1;omega)
   rw[hkl]
   generalize hZ:(am l).length=Z at *
   have hidx:=Hid.mk (And.intro hnx hZ)
   clear h hl hn hnx hkl
   by_cases h128:(Z:Int)<128
   ·go_wp2
    obtain⟨i0,hi,hz0,hz1,hz2⟩:=info_parts xH
    generalize ho:wr.heap.size=o
    have hnew:=Ca wr (.cells Tryz.zeroCells104 104)
    rw[ho]at hnew
    have hbel:Below w.heap.size w (wr.alloc (.cells Tryz.zeroCells104 104)):=hidx.out.1.alloc hidx.out.1.size _
    have hge:w.heap.size<=o:=by rw[<- ho];exact hidx.out.1.size
    generalize wr.alloc (.cells Tryz.zeroCells104 104)=wa at hnew hbel ⊢
    have hida:=Hid.mk (And.intro hnew (And.intro hbel hge))
    clear hnew hbel hge ho
    go_loopw [6,29] (fun v i wr=>IM l n w o v i wr) (fun _ i _=>n-(intOf i).toNat)
    case atStart=>exact⟨0,_,Nat.zero_le _,rfl,rfl,hida.out.1,by kernel_rfl,rfl,hida.out.2.1,hida.out.2.2⟩
    case round=>
     obtain⟨k,cur,hk,rfl,rfl,hg,hcs,htk,hnx,hge⟩:=hrel
     by_cases hlt:k<n
     ·obtain⟨x,b,hx,c0,c1,c2,_⟩:=Ee hid0.out.1 hB hnx hlt
      have hki:(k:Int)<n:=by omega
      have hsn:=fc hx
      have hle:=dV l (k+1)
      have hZl:=hidx.out.2
      rw[hsn,List.length_append]at hle
      have e2:bg x=bW x.c.code x.c.val++x.c.val:=rfl
      rw[e2]at hsn hle
      have DD:(k:Int)<1073741824:=by have:=hid0.out.2.2;omega
      generalize hS:(bW x.c.code x.c.val++x.c.val)=S at *
      have hM:(am (l.take k)).length+S.length<=128:=by omega
      have hg2:∀ob,(wr.alloc ob).heap[o]?=some (.cells cur 104 (0,0)):=fun ob=>by rw[Lib.alloc_old _ _ _ (cS hg)];exact hg
      have hidn:=Hid.mk (And.intro hsn (And.intro hM (And.intro htk (And.intro hnx (And.intro hge (And.intro hg2 hcs))))))
      clear hsn hle hZl e2 hS hM htk hnx hge hx hg
      go_wp2_with (at_builtin;refine pv rfl _ _ 22 9 rfl 5 104 i0 Tryz.underlying22 F4 hi hz1 o _ 128 cur rfl (hidn.out.2.2.2.2.2.1 _) ⟨S.toArray⟩ rfl ?c1 ?c2 ?_)
      case c1=>rw[aC];exact hidn.out.2.1
      case c2=>rw[aC,hidn.out.2.2.2.2.2.2];exact hidn.out.2.1
      obtain⟨hsn,hM,htk,hnx,hge,hg2,hcs⟩:=hidn.out
      have e1:(am (l.take (k+1))).length=(am (l.take k)).length+S.length:=by rw[hsn,List.length_append]
      have htl:(cur.toList.take (am (l.take k)).length).length=(am (l.take k)).length:=by rw[htk,List.length_map]
      refine⟨⟨k+1,_,by omega,rfl,by rw[e1],setRow_heap _ _ cur _ _ _ (hg2 _),?_,?_,(hnx.alloc hnx.size _).trans ⟨rfl,rfl,rfl,by simp,fun j hj=>setRow_other _ _ _ _ (by omega)⟩,hge⟩,Bo hki⟩
      ·simp only[List.size_toArray,List.length_append,List.length_drop,Array.length_toList,htl,Lib.strCells_length,aC,hcs]
       omega
      ·rw[e1,hsn,List.toList_toArray,<- List.append_assoc,List.take_append_of_le_length (by rw[List.length_append,htl,Lib.strCells_length,aC];exact Nat.le_refl _),List.take_of_length_le (by rw[List.length_append,htl,Lib.strCells_length,aC];exact Nat.le_refl _),htk]
       simp[fP,Lib.strCells,Lib.byteCells]
     ·have hki:¬(k:Int)<n:=by omega
      have hkl:l.take k=l:=List.take_of_length_le (by have:=hid0.out.1.1;omega)
      rw[hkl]at htk ⊢
      have hZl:=hidx.out.2
      have hfin:=Hid.mk (And.intro hg (And.intro htk (And.intro hnx (And.intro hge (And.intro hcs hZl)))))
      clear hg htk hnx hge hcs hZl hkl
      go_wp2
      go_ret
      obtain⟨hg,htk,hnx,hge,hcs,hZl⟩:=hfin.out
      refine⟨_,rfl,⟨_,_,_,rfl,⟨hZl.symm,fun _=>⟨_,rfl,cS hg,fun i y hi=>?_⟩⟩,fun _ a ha=>by cases ha;exact hge⟩,hnx⟩
      have hil:i<(am l).length:=(List.getElem?_eq_some_iff.1 hi).1
      have ea:(Addr.add ⟨o,0,none⟩ (i*1))=⟨o,i,none⟩:=by unfold Addr.add;split <;> simp_all
      rw[ea]
      refine cellOf hg ?_
      have e1:(cur.toList.take (am l).length)[i]?=cur.toList[i]?:=by rw[List.getElem?_take,if_pos hil]
      rw[<- Array.getElem?_toList,<- e1,htk]
      simp[fP,hi]
   ·exact absurd (show(Z:Int)<128 by have h1:=hids.out;omega) h128
end
section
open Go Go.RowKit
theorem I2(p:Addr)(w:World):CallsD Tryz.prog 64 #[.pointer (some p)] .returning w fun e u' w'=>e=.returned (.tuple #[])/\u'=.returning/\w'=w:=by
 refine callsD_of_wpS Tryz.func64 rfl fun c₀ cs hu=>?_
 apply wpS_seq
 apply wpS_region
 simp[wpOpsS,go_sem,recoverD,hu,Tryz.ntmps64,Exit.thenS]
 apply wpS_seq
 apply wpS_region
 simp[wpOpsS,go_sem,recoverD,hu,Exit.thenS]
 refine wpS_cond (t:=false) (by simp[Act.eval,Array.replicate]) ?_
 refine wpS_of_wp ?_
 simp only[Bool.false_eq_true,if_false]
 go_wp2
 cases c₀
 simp_all [bodyPostS,results,Tryz.results64,Exit.thenS]
theorem uj(A:Option Addr)(n c:Nat)(w:World)(R:Option Addr->Nat->Nat->World->Prop)
  (hR:∀A' k c' (w2 w3:World),w3.heap.size=w2.heap.size->(∀b,b≠w.heap.size->w3.heap[b]?=w2.heap[b]?)->R A' k c' w2->R A' k c' w3)
  (h:∀w1,Below w.heap.size w w1->w1.heap.size=w.heap.size+1->Calls Tryz.prog 65 #[.slice A n c] w1 fun e w'=>∃A' k c',e=.returned (.tuple #[.int .i64 n,.slice A' k c',.nilIface])/\0<k/\Below w1.heap.size w1 w'/\R A' k c' w') :
  Calls Tryz.prog 31 #[.slice A n c] w fun e w'=>∃A' k c',e=.returned (.tuple #[.slice A' k c',.nilIface])/\0<k/\Below w.heap.size w w'/\R A' k c' w':=by
 have hmf:∀(fn:Fn) (first cap:Array Value) (w:World),(Instr.makeFunc fn first cap).run Tryz.prog w=.ok (.func fn first cap) w:=fun _ _ _ _=>rfl
 have h1:=h (w.alloc (Obj.cells #[Value.nilIface] 53)) (Below.alloc (Below.refl _ _) (Nat.le_refl _) _) (by show(w.heap.push _).size=_;simp)
 clear h
 go_enter_defers Tryz.func31,Tryz.ntmps31
 go_wp2_with fail
 refine h1.mono ?_
 rintro e w' ⟨A',k,c',rfl,hk0,hk,hr⟩
 have hb:w'.heap[w.heap.size]?=some (.cells #[.nilIface] 53 (0,0)):=by
  rw[hk.block w.heap.size (by show w.heap.size<(w.heap.push _).size;simp)]
  show(w.heap.push _)[w.heap.size]?=_
  simp
 have hc:w'.cell? ⟨w.heap.size,0,none⟩=some .nilIface:=by simp[World.cell?,hb]
 have hz:w'.frozen? ⟨w.heap.size,0,none⟩=false:=by simp[World.frozen?,hb]
 go_wp2
 refine leaves_cons (f:=64) (args:=#[.pointer (some ⟨w.heap.size,0,none⟩)]) (by simp) (by simp[go_sem]) ?_
 refine(I2 ⟨w.heap.size,0,none⟩ _).mono ?_
 rintro e u' w'' ⟨rfl,rfl,rfl⟩
 simp[Leaves,settle,results,Tryz.results31,go_sem]
 have hs:((w'.setCell ⟨w.heap.size,0,none⟩ .nilIface).setCell ⟨w.heap.size,0,none⟩ .nilIface).cell? ⟨w.heap.size,0,none⟩=some .nilIface:=by
  simp[World.cell?,World.setCell,Array.getElem?_modify,hb]
 rw[hs]
 have hblk:∀b,b≠w.heap.size->((w'.setCell ⟨w.heap.size,0,none⟩ .nilIface).setCell ⟨w.heap.size,0,none⟩ .nilIface).heap[b]?=w'.heap[b]?:=fun b hb=>by
  rw[Below.heap_setCell _ _ _ _ (by show b≠w.heap.size;exact hb),Below.heap_setCell _ _ _ _ (by show b≠w.heap.size;exact hb)]
 have hsz:((w'.setCell ⟨w.heap.size,0,none⟩ .nilIface).setCell ⟨w.heap.size,0,none⟩ .nilIface).heap.size=w'.heap.size:=by
  simp[World.setCell]
 refine⟨_,rfl,A',k,c',rfl,hk0,⟨hk.os,hk.tape,hk.output,?_,fun b hb1=>?_⟩,hR _ _ _ _ _ hsz hblk hr⟩
 ·rw[hsz]
  have:(w.heap.push _).size<=w'.heap.size:=hk.size
  simp at this
  omega
 ·rw[hblk b (by omega),hk.block b (by show b<(w.heap.push _).size;simp;omega)]
  exact Below.heap_alloc _ _ _ hb1
theorem I3(p:Addr)(w:World):CallsD Tryz.prog 61 #[.pointer (some p)] .returning w fun e u' w'=>e=.returned (.tuple #[])/\u'=.returning/\w'=w:=by
 refine callsD_of_wpS Tryz.func61 rfl fun c₀ cs hu=>?_
 apply wpS_seq
 apply wpS_region
 simp[wpOpsS,go_sem,recoverD,hu,Tryz.ntmps61,Exit.thenS]
 apply wpS_seq
 apply wpS_region
 simp[wpOpsS,go_sem,recoverD,hu,Exit.thenS]
 refine wpS_cond (t:=false) (by simp[Act.eval,Array.replicate]) ?_
 refine wpS_of_wp ?_
 simp only[Bool.false_eq_true,if_false]
 go_wp2
 cases c₀
 simp_all [bodyPostS,results,Tryz.results61,Exit.thenS]
theorem Gg(v:Value)(w:World)(R:Option Addr->Nat->Nat->World->Prop)(S:World->Option Addr->Nat->Nat->World->Prop)
  (hR:∀A' k c' (w2 w3:World),w3.heap.size=w2.heap.size->(∀b,b≠w.heap.size->w3.heap[b]?=w2.heap[b]?)->R A' k c' w2->R A' k c' w3)
  (h:∀w1,Below w.heap.size w w1->w1.heap.size=w.heap.size+1->Calls Tryz.prog 63 #[v] w1 fun e w'=>∃A n c,e=.returned (.tuple #[.slice A n c,.nilIface])/\Below w1.heap.size w1 w'/\S w1 A n c w')
  (h2:∀A n c w1 w2 w3,Below w.heap.size w w1->w1.heap.size=w.heap.size+1->Below w1.heap.size w1 w2->S w1 A n c w2->w3.heap.size=w2.heap.size->Below w.heap.size w w3->(∀b,b≠w.heap.size->w3.heap[b]?=w2.heap[b]?)->Calls Tryz.prog 31 #[.slice A n c] w3 fun e w'=>∃A' k c',e=.returned (.tuple #[.slice A' k c',.nilIface])/\0<k/\Below w3.heap.size w3 w'/\R A' k c' w') :
  Calls Tryz.prog 29 #[v] w fun e w'=>∃A' k c',e=.returned (.tuple #[.slice A' k c',.nilIface])/\0<k/\Below w.heap.size w w'/\R A' k c' w':=by
 have hmf:∀(fn:Fn) (first cap:Array Value) (w:World),(Instr.makeFunc fn first cap).run Tryz.prog w=.ok (.func fn first cap) w:=fun _ _ _ _=>rfl
 have hal:=Below.alloc (Below.refl w.heap.size w) (Nat.le_refl _) (Obj.cells #[Value.nilIface] 53)
 have hal2:(w.alloc (Obj.cells #[Value.nilIface] 53)).heap.size=w.heap.size+1:=by show(w.heap.push _).size=_;simp
 have h1:=h (w.alloc (Obj.cells #[Value.nilIface] 53)) hal hal2
 clear h
 go_enter_defers Tryz.func29,Tryz.ntmps29
 go_wp2_with fail
 refine h1.mono ?_
 rintro e w2 ⟨A,n,c,rfl,hk,hr⟩
 have hb2:w2.heap[w.heap.size]?=some (.cells #[.nilIface] 53 (0,0)):=by
  rw[hk.block w.heap.size (by show w.heap.size<(w.heap.push _).size;simp)]
  show(w.heap.push _)[w.heap.size]?=_
  simp
 have hc:w2.cell? ⟨w.heap.size,0,none⟩=some .nilIface:=by simp[World.cell?,hb2]
 have hz:w2.frozen? ⟨w.heap.size,0,none⟩=false:=by simp[World.frozen?,hb2]
 have hs:(w2.setCell ⟨w.heap.size,0,none⟩ .nilIface).cell? ⟨w.heap.size,0,none⟩=some .nilIface:=by
  simp[World.cell?,World.setCell,Array.getElem?_modify,hb2]
 have hblk2:∀b,b≠w.heap.size->(w2.setCell ⟨w.heap.size,0,none⟩ .nilIface).heap[b]?=w2.heap[b]?:=fun b hb=>Below.heap_setCell _ _ _ _ (by show b≠w.heap.size;exact hb)
 have hsz2:(w2.setCell ⟨w.heap.size,0,none⟩ .nilIface).heap.size=w2.heap.size:=by
  simp[World.setCell]
 have hle:w.heap.size+1<=w2.heap.size:=by rw[<- hal2];exact hk.size
 have hbw3:Below w.heap.size w (w2.setCell ⟨w.heap.size,0,none⟩ .nilIface):=⟨hk.os,hk.tape,hk.output,by rw[hsz2];omega,fun b hb1=>by
  rw[hblk2 b (by omega),hk.block b (by show b<(w.heap.push _).size;simp;omega)]
  exact Below.heap_alloc _ _ _ hb1⟩
 have h3:=h2 A n c _ w2 _ hal hal2 hk hr hsz2 hbw3 hblk2
 go_wp2_with fail
 refine h3.mono ?_
 rintro e w' ⟨A',k,c',rfl,hk0,hk3,hr3⟩
 have hb:w'.heap[w.heap.size]?=some (.cells #[.nilIface] 53 (0,0)):=by
  rw[hk3.block w.heap.size (by rw[hsz2];omega)]
  simp[World.setCell,Array.getElem?_modify,hb2]
 have hc3:w'.cell? ⟨w.heap.size,0,none⟩=some .nilIface:=by simp[World.cell?,hb]
 have hz3:w'.frozen? ⟨w.heap.size,0,none⟩=false:=by simp[World.frozen?,hb]
 go_wp2
 refine leaves_cons (f:=61) (args:=#[.pointer (some ⟨w.heap.size,0,none⟩)]) (by simp) (by simp[go_sem]) ?_
 refine(I3 ⟨w.heap.size,0,none⟩ _).mono ?_
 rintro e u' w'' ⟨rfl,rfl,rfl⟩
 simp[Leaves,settle,results,Tryz.results29,go_sem]
 have hs3:(w'.setCell ⟨w.heap.size,0,none⟩ .nilIface).cell? ⟨w.heap.size,0,none⟩=some .nilIface:=by
  simp[World.cell?,World.setCell,Array.getElem?_modify,hb]
 rw[hs3]
 have hblk:∀b,b≠w.heap.size->(w'.setCell ⟨w.heap.size,0,none⟩ .nilIface).heap[b]?=w'.heap[b]?:=fun b hb=>Below.heap_setCell _ _ _ _ (by show b≠w.heap.size;exact hb)
 have hsz:(w'.setCell ⟨w.heap.size,0,none⟩ .nilIface).heap.size=w'.heap.size:=by
  simp[World.setCell]
 have hbw:=hbw3.trans (hk3.mono hbw3.size)
 refine⟨_,rfl,A',k,c',rfl,hk0,⟨hbw.os,hbw.tape,hbw.output,by rw[hsz];exact hbw.size,fun b hb1=>?_⟩,hR _ _ _ _ _ hsz hblk hr3⟩
 rw[hblk b (by omega),hbw.block b hb1]
end
section
open Go Go.Rx Go.RowKit
structure MC where
 s:ByteArray
 v:ByteArray
 A:Option Addr
 k:Nat
 c:Nat
 A':Option Addr
 k':Nat
 c':Nat
@[reducible] def zi:Hook:={ X:=MC,out:=fun _ s x=>(.tup [.str x.s false,.str x.v false,.xs x.A x.k x.c,.xs x.A' x.k' x.c'],s.objs) }
structure MN where
 cd:Int
 A:Option Addr
 k:Nat
 c:Nat
 ok:Bool
@[reducible] def nA:Hook:={ X:=MN,out:=fun _ s x=>(.tup [.agg [.int .i64 x.cd false,.xs x.A x.k x.c],.bool x.ok false],s.objs) }
def KJ:Hooks:={ eager:=true,calls:=fun f=>if f=14 then some bi else if f=6∨f=13∨f=20 then some bx else if f=17∨f=18 then some aR else if f=19 then some bn else if f=15 then some zi else if f=16 then some nA else none,loops:=fun _ _=>none }
noncomputable abbrev gW(code:Int)(A:Option Addr)(n c:Nat):SObj:=(.cells [(.int .i64 code false),(.xs A n c)] 2 31 0 0)
noncomputable abbrev vl(x1:(Hook.X (bi))):List SV:=[(.str x1.name false),(.int .i64 x1.cd false),(.int .i64 x1.size false),(.bool x1.path false),(.one (.slice none 0 0) rfl)]
noncomputable abbrev eH(code:Int)(A:Option Addr)(n c:Nat)(x1:(Hook.X (bi)))(x4:(Hook.X (nA)))(w4:World)(b4:List Nat):SS:=(SS.mk [(gW code A n c),(gW code A n c),(.cells (vl x1) 5 34 0 0),(.cells [(.int .i64 x4.cd false),(.xs x4.A x4.k x4.c)] 2 31 0 0),(gW code A n c)] [] true w4 b4)
noncomputable abbrev vi(code:Int)(A:Option Addr)(n c:Nat)(x1:(Hook.X (bi)))(w2:World)(b2:List Nat):SS:=(SS.mk [(gW code A n c),(gW code A n c),(.cells (vl x1) 5 34 0 0),(.cells [(.int .i64 0 true),(.one (.slice none 0 0) rfl)] 2 31 0 0)] [] true w2 b2)
noncomputable abbrev vj(code:Int)(A:Option Addr)(n c:Nat)(x1:(Hook.X (bi)))(w1:World)(b1:List Nat):SS:=(SS.mk [(gW code A n c),(gW code A n c),(.cells (vl x1) 5 34 0 0)] [] true w1 b1)
noncomputable abbrev nU(code:Int)(A:Option Addr)(n c:Nat):List SObj:=[(gW code A n c),(gW code A n c)]
noncomputable abbrev lL(code:Int)(A:Option Addr)(n c:Nat):SV:=(.agg [(.int .i64 code false),(.xs A n c)])
noncomputable abbrev vk(code:Int)(A:Option Addr)(n c:Nat)(x1:(Hook.X (bi)))(x4:(Hook.X (nA)))(w4:World)(b4:List Nat)(x2:(Hook.X (zi))):T:=(.hc 6 [] (eH code A n c x1 x4 w4 b4) (bx) fun x5 w5 b5=>(.split x5 (.hc 18 [(.slc 4 0 1 1 true true)] (eH code A n c x1 x4 w5 b5) (aR) fun x6 w6 b6=>(.split (x2.s.toList == ByteArray.toList x6) (.hc 17 [(lL code A n c)] (eH code A n c x1 x4 w6 b6) (aR) fun x7 w7 b7=>(.split (x2.v.toList == ByteArray.toList x7) (.need (canBytes w7 b7 x2.A x2.k) (.hc 19 [(.slc 4 0 1 1 true true)] (eH code A n c x1 x4 w7 b7) (bn) fun x8 w8 b8=>(.need (canBytes w8 b8 x2.A x2.k) (.need (bytesAt w8 x2.A x2.k=bytesAt w7 x2.A x2.k) (.need (canBytes w8 b8 x8.A x8.k) (.split ((bytesAt w7 x2.A x2.k).toList == (bytesAt w8 x8.A x8.k).toList) (.need (canBytes w8 b8 x2.A' x2.k') (.need (canBytes w8 b8 A n) (.split ((bytesAt w8 x2.A' x2.k').toList == (bytesAt w8 A n).toList) (.split x4.ok (.hc 20 [(lL code A n c),(.agg [(.int .i64 x4.cd false),(.xs x4.A x4.k x4.c)])] (eH code A n c x1 x4 w8 b8) (bx) fun x9 w9 b9=>(.leaf .ret [(.bool x9 false)] (eH code A n c x1 x4 w9 b9))) (.leaf .ret [(.bool false true)] (eH code A n c x1 x4 w8 b8))) (.leaf .ret [(.bool false true)] (eH code A n c x1 x4 w8 b8))))) (.leaf .ret [(.bool false true)] (eH code A n c x1 x4 w8 b8)))))))) (.leaf .ret [(.bool false true)] (eH code A n c x1 x4 w7 b7)))) (.leaf .ret [(.bool false true)] (eH code A n c x1 x4 w6 b6)))) (.leaf .ret [(.bool false true)] (eH code A n c x1 x4 w5 b5))))
theorem Mt(code:Int)(A:Option Addr)(n c:Nat)(w:World):al Tryz.prog KJ 1000 4 [.agg [.int .i64 code false,.xs A n c]] (SS.at w) =
(.split (decide ((↑n:Int) > (2147483647:Int))) (.leaf .ret [(.bool true true)] (SS.mk (nU code A n c) [] true w [])) (.hc 13 [(lL code A n c)] (SS.mk (nU code A n c) [] true w []) (bx) fun x0 w0 b0=>(.split (!x0) (.hc 6 [] (SS.mk (nU code A n c) [] true w0 b0) (bx) fun x1 w1 b1=>(.leaf .ret [(.bool x1 false)] (SS.mk (nU code A n c) [] true w1 b1))) (.hc 14 [(.int .i64 code false)] (SS.mk (nU code A n c) [] true w0 b0) (bi) fun x1 w1 b1=>(.hc 15 [(lL code A n c)] (vj code A n c x1 w1 b1) (zi) fun x2 w2 b2=>(.both (.need (code=code) (.need (A=A/\n=n/\c=c) (.need (x1.name=x1.name) (.hc 17 [(lL code A n c)] (vi code A n c x1 w2 b2) (aR) fun x3 w3 b3=>(.need (x1.name=x1.name) (.hc 16 [(.str x1.name false),(.str x3 false)] (vi code A n c x1 w3 b3) (nA) fun x4 w4 b4=>(vk code A n c x1 x4 w4 b4 x2))))))) (.hc 17 [(lL code A n c)] (vj code A n c x1 w2 b2) (aR) fun x3 w3 b3=>(.need (x1.name=x1.name) (.both (.need (x1.name=x1.name) (.hc 16 [(.str x1.name false),(.str x3 false)] (vi code A n c x1 w3 b3) (nA) fun x4 w4 b4=>(vk code A n c x1 x4 w4 b4 x2))) (.hc 16 [(.str x1.name false),(.str x3 false)] (vj code A n c x1 w3 b3) (nA) fun x4 w4 b4=>(vk code A n c x1 x4 w4 b4 x2))))))))))):=by kernel_rfl
theorem Rg(code:Int)(A:Option Addr)(n c:Nat)(w:World):(by have h:=Mt code A n c w;unfold vk lL nU vj vi eH vl gW at h;exact type_of% h):=Mt code A n c w
end
section
open Go Go.Rx Go.RowKit
theorem Rk(k:Int)(A:Option Addr)(n c:Nat)(k':Int)(A':Option Addr)(n' c':Nat)(w:World):al Tryz.prog ar 1000 20 [.agg [.int .i64 k false,.xs A n c],.agg [.int .i64 k' false,.xs A' n' c']] (SS.at w) =
 (.split (k == k')
  (.need (canBytes w [] A n)
  (.need (canBytes w [] A' n')
  (.leaf .ret [(.bool ((bytesAt w A n).toList == (bytesAt w A' n').toList) false)] (SS.mk [(.cells [(.int .i64 k false),(.xs A n c)] 2 31 0 0),(.cells [(.int .i64 k' false),(.xs A' n' c')] 2 31 0 0)] [] true w []))))
  (.leaf .ret [(.bool false true)] (SS.mk [(.cells [(.int .i64 k false),(.xs A n c)] 2 31 0 0),(.cells [(.int .i64 k' false),(.xs A' n' c')] 2 31 0 0)] [] true w []))):=by kernel_rfl
theorem ra(k:Int)(A:Option Addr)(n c:Nat)(A':Option Addr)(n' c':Nat)(l:List UInt8)(B:Nat)(w:World)(h:Bts w B A n l)(h':Bts w B A' n' l)(hB:B<=w.heap.size) :
  Calls Tryz.prog 20 #[.agg #[.int .i64 k,.slice A n c],.agg #[.int .i64 k,.slice A' n' c']] w (bB (gv fun b=>b=true) w):=by
 refine aF (hk:=ar) (n:=1000) (args:=[.agg [.int .i64 k false,.xs A n c],.agg [.int .i64 k false,.xs A' n' c']]) ⟨⟨trivial,trivial,trivial⟩,⟨trivial,trivial,trivial⟩,trivial⟩ ?_
 refine ah (Rk k A n c k A' n' c' w) ?_
 refine ae (fun _=>aa (h.canBytes hB (by simp)) (aa (h'.canBytes hB (by simp)) (aQ (Fine.start _ _) fun β w' _ _=>⟨_,rfl,?_⟩))) (fun hne=>by simp at hne)
 rw[h.bytesAt,h'.bytesAt]
 simp
end
end Go.Proofs.YtnklanajebphpaaGreatDoor
