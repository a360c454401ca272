/- Joined texts: K34 K35 K41 S8 K45 K47 K48 S13 S5k S6k S14 S15 K51 K43 S9 S11 Sh2 S12. -/
import Derived.Test.YtnklanajebphpaaGreatDoorW9
import Derived.Laws.AppendOwnNone
import Derived.Test.YtnklanajebphpaaGreatDoorW8
import Derived.Test.YtnklanajebphpaaGreatDoorW6
import Derived.Lib.AppendStr
import Derived.OwnWalk
import Derived.Shelf.LaysM
import Derived.Shelf.Bytes.WriteAny
import Derived.Test.YtnklanajebphpaaGreatDoorProg
import Derived.Test.YtnklanajebphpaaGreatDoorW2
set_option maxRecDepth 100000
set_option maxHeartbeats 4000000
set_option linter.unusedVariables false
set_option linter.unusedSimpArgs false
namespace Go.Proofs.YtnklanajebphpaaGreatDoor
open IntKind
section
open Go Go.Rx Go.RowKit
@[reducible] def pd:Hook:={ X:=Nat,out:=fun _ s x=>(.int .u64 x false,s.objs) }
def Ki:Hooks:={ calls:=fun f=>if f=14 then some bL else if f=47∨f=48∨f=49 then some aL else if f=50 then some pd else none,loops:=fun _ _=>none }
noncomputable abbrev gD(code:Int)(A:Option Addr)(n c:Nat)(x0:(Hook.X (bL)))(w0:World)(b0:List Nat):SS:=(SS.mk [(.cells [(.int .i64 code false),(.xs A n c)] 2 31 0 0),(.cells [(.str x0.name false),(.int .i64 x0.cd false),(.int .i64 x0.size false),(.bool x0.path false),(.one (.slice none 0 0) rfl)] 5 34 0 0)] [] true w0 b0)
theorem LY(code:Int)(A:Option Addr)(n c:Nat)(w:World):am Tryz.prog Ki 1000 17 [.agg [.int .i64 code false,.xs A n c]] (SS.at w) =
(.hc 14 [(.int .i64 code false)] (SS.mk [(.cells [(.int .i64 code false),(.xs A n c)] 2 31 0 0)] [] true w []) (bL) fun x0 w0 b0=>(.split (x0.size == (0:Int)) (.leaf .ret [(.str (ByteArray.mk #[]) true)] (gD code A n c x0 w0 b0)) (.split (code == (4:Int)) (.hc 47 [(.xs A n c)] (gD code A n c x0 w0 b0) (aL) fun x1 w1 b1=>(.leaf .ret [(.str x1 false)] (gD code A n c x0 w1 b1))) (.split (code == (41:Int)) (.hc 48 [(.xs A n c)] (gD code A n c x0 w0 b0) (aL) fun x1 w1 b1=>(.leaf .ret [(.str x1 false)] (gD code A n c x0 w1 b1))) (.split (decide (x0.size > (0:Int))) (.hc 50 [(.xs A n c)] (gD code A n c x0 w0 b0) (pd) fun x1 w1 b1=>(.hc 49 [(.int .u64 ((↑x1:Int)) false)] (gD code A n c x0 w1 b1) (aL) fun x2 w2 b2=>(.leaf .ret [(.str x2 false)] (gD code A n c x0 w2 b2)))) (.need (canBytes w0 b0 A n) (.leaf .ret [(.str (bytesAt w0 A n) false)] (gD code A n c x0 w0 b0)))))))):=by kernel_rfl
theorem QB(code:Int)(A:Option Addr)(n c:Nat)(w:World):(by have h:=LY code A n c w;unfold gD at h;exact type_of% h):=LY code A n c w
theorem Px{k:Int}(hk:k∈aY)(hs:(an k).size=0)(hp:(an k).path=false)(ht:∀β,Ec.den β=(an k).tr)(val:List UInt8)(h:(val.length:Int)=(an k).size/8):∃txt,Simple k val txt:=by
 rw[hs]at h
 have:val=[]:=List.eq_nil_of_length_eq_zero (by omega)
 subst this
 exact⟨_,.N hk hs hp ht⟩
theorem Py{k:Int}(hk:k∈aY)(hs:(an k).size=16)(hp:(an k).path=false)(ht:∀β,Cc.den β=(an k).tr)(val:List UInt8)(h:(val.length:Int)=(an k).size/8):∃txt,Simple k val txt:=by
 rw[hs]at h
 have hl:val.length=2:=by omega
 match val,hl with
 |[a,b],_=>exact⟨_,.P hk hs hp ht a b⟩
theorem Pv{k:Int}(hk:k∈aY)(hs:(an k).size=32)(hp:(an k).path=false)(ht:∀β,Ca.den β=(an k).tr)(val:List UInt8)(h:(val.length:Int)=(an k).size/8):∃txt,Simple k val txt:=by
 rw[hs]at h
 have hl:val.length=4:=by omega
 match val,hl with
 |[a,b,c,d],_=>exact⟨_,.F hk hs hp ht a b c d⟩
theorem Pz{k:Int}(hk:k∈aY)(hs:(an k).size=128)(hp:(an k).path=false)(ht:∀β,Cd.den β=(an k).tr)(val:List UInt8)(h:(val.length:Int)=(an k).size/8):∃txt,Simple k val txt:=by
 rw[hs]at h
 exact⟨_,.S hk hs hp ht val (by omega)⟩
theorem Pu{k:Int}(hk:k∈aY)(hs:(an k).size=8)(hp:(an k).path=false)(ht:∀β,B9.den β=(an k).tr)(val:List UInt8)(h:(val.length:Int)=(an k).size/8):∃txt,Simple k val txt:=by
 rw[hs]at h
 have hl:val.length=1:=by omega
 match val,hl with
 |[a],_=>exact⟨_,.C hk hs hp ht a⟩
theorem Pw{k:Int}(hk:k∈aY)(hs:(an k).size=64)(hp:(an k).path=false)(ht:∀β,Cb.den β=(an k).tr)(val:List UInt8)(h:(val.length:Int)=(an k).size/8):∃txt,Simple k val txt:=by
 rw[hs]at h
 have hl:val.length=8:=by omega
 match val,hl with
 |[a,b,c,d,e,f,g,h],_=>exact⟨_,.M hk hs hp ht a b c d e f g h⟩
theorem yL:∀k∈aY,0<=(an k).size->k≠444->k≠445->∀val:List UInt8,(val.length:Int)=(an k).size/8->∃txt,Simple k val txt:=by
 intro k hk
 simp only[aY,List.mem_cons,List.not_mem_nil,or_false]at hk
 rcases hk with rfl |rfl |rfl |rfl |rfl |rfl |rfl |rfl |rfl |rfl |rfl |rfl |rfl |rfl |rfl |rfl |rfl |rfl |rfl |rfl |rfl |rfl |rfl |rfl |rfl |rfl |rfl |rfl |rfl |rfl |rfl |rfl |rfl |rfl |rfl |rfl |rfl |rfl
 all_goals
  intro hs h1 h2 val hv
  first
   |exact absurd hs (by decide)
   |exact absurd rfl h1
   |exact absurd rfl h2
   |exact Px (by decide) rfl rfl (fun _=>rfl) val hv
   |exact Py (by decide) rfl rfl (fun _=>rfl) val hv
   |exact Pv (by decide) rfl rfl (fun _=>rfl) val hv
   |exact Pz (by decide) rfl rfl (fun _=>rfl) val hv
   |exact Pu (by decide) rfl rfl (fun _=>rfl) val hv
   |exact Pw (by decide) rfl rfl (fun _=>rfl) val hv
theorem BO:∀k∈aY,(k=42∨(53<=k/\k<=56)∨k=449)->∀val:List UInt8,Nm val->∃txt,Simple k val txt:=by
 intro k hk h val hn
 have:k=42∨k=53∨k=54∨k=55∨k=56∨k=449:=by omega
 rcases this with rfl |rfl |rfl |rfl |rfl |rfl
 ·exact⟨_,.Z hk rfl rfl (fun _=>rfl) val hn⟩
 all_goals exact⟨_,.D hk rfl rfl (fun _=>rfl) val hn⟩
theorem xE(val:List UInt8)(hp:Pth val):∃txt,Simple 400 val txt:=⟨_,.U (by decide) rfl rfl (fun _=>rfl) val hp⟩
theorem D3:∀k∈aY,0<=(an k).size->i64.wrap ((an k).size.tdiv 8)=(an k).size/8:=by decide
theorem yz(code:Int)(A:Option Addr)(n c:Nat)(l:List UInt8)(B:Nat)(w:World)(h:Bts w B A n l)(hB:B<=w.heap.size)(hn:(n:Int)<2^48) :
  Calls Tryz.prog 13 #[.agg #[.int .i64 code,.slice A n c]] w (bF (f7 fun b=>b=true->∃txt,Simple code l txt) w):=by
 have hln:=h.1
 refine aH (hk:=J0) (n:=1000) (args:=[.agg [.int .i64 code false,.xs A n c]]) ⟨⟨trivial,trivial,trivial⟩,trivial⟩ ?_
 rw[Qa]
 refine kU (Fine.start _ _) rfl (fun x w1 bs hb1 hbs hx hx2=>?_)
 have hw1:Bts w1 B A n l:=h.below (hb1.mono hB) (Nat.le_refl _)
 have hcb:canBytes w1 bs A n:=hw1.canBytes (Nat.le_trans hB hb1.size) (fun b hb=>Nat.le_trans hB (hbs b hb))
 rw[hw1.bytesAt]
 have no:∀(l1:Bool) (objs:List SObj) (w2:World) (bs2:List Nat),Below w.heap.size w w2->(∀b∈bs2,w.heap.size<=b) ->
   (T.leaf .ret [.bool false l1] (SS.mk objs [] true w2 bs2)).holds (cS Tryz.prog (bC fun v w'=>f7 (fun b=>b=true->∃txt,Simple code l txt) v w'/\Below w.heap.size w w')):=
  fun l1 objs w2 bs2 h1 h2=>aN (Fine.mk' h1 h2) fun β w' _ _=>⟨_,rfl,fun h=>Bool.noConfusion h⟩
 have yes:∀(b l1:Bool) (objs:List SObj) (w2:World) (bs2:List Nat),(b=true->∃txt,Simple code l txt)->Below w.heap.size w w2->(∀b∈bs2,w.heap.size<=b) ->
   (T.leaf .ret [.bool b l1] (SS.mk objs [] true w2 bs2)).holds (cS Tryz.prog (bC fun v w'=>f7 (fun b=>b=true->∃txt,Simple code l txt) v w'/\Below w.heap.size w w')):=
  fun b l1 objs w2 bs2 h h1 h2=>aN (Fine.mk' h1 h2) fun β w' _ _=>⟨_,rfl,h⟩
 refine af (fun _=>no _ _ _ _ hb1 hbs) (fun hok=>?_)
 obtain⟨hin,hxe⟩:=hx (by simpa using hok)
 subst hxe
 dsimp only
 refine ak (fun hpos=>af (fun hlen=>af (fun h4=>yes _ _ _ _ _ (fun h5=>?_) hb1 hbs) (fun _=>no _ _ _ _ hb1 hbs)) (fun _=>no _ _ _ _ hb1 hbs)) (fun hneg=>?_)
 ·refine yL code hin hpos (bne_iff_ne.1 h4) (bne_iff_ne.1 h5) l ?_
  rw[<- D3 code hin hpos,<- hln]
  exact eq_of_beq hlen
 have nm:∀ {w1:World}{objs:List SObj}{bs1:List Nat}{kk:Bool->World->List Nat->T}{a0:List SV},(code=42∨(53<=code/\code<=56)∨code=449)->Below w.heap.size w w1->(∀b∈bs1,w.heap.size<=b)->(∀b w2 b2,kk b w2 b2=T.leaf .ret [.bool b false] (SS.mk objs [] true w2 b2)) ->
   (T.call 38 [.str ⟨l.toArray⟩ false] (SS.mk objs [] true w1 bs1) (Hook.X bl) (Hook.out bl a0 (SS.mk objs [] true w1 bs1)) kk).holds (cS Tryz.prog (bC fun v w'=>f7 (fun b=>b=true->∃txt,Simple code l txt) v w'/\Below w.heap.size w w')):=fun{w1 objs bs1 kk a0} hc hb hbs hkk=>by
  refine ed (fun b=>b=true->Nm l/\l.length<=60) (Fine.mk' hb hbs) rfl (fun β w2 hb2 _ _=>sg l (by omega) w2) (fun b w2 bs2 hR hb2 hbs2=>?_)
  rw[hkk]
  exact yes _ _ _ _ _ (fun hbt=>BO code hin hc l (hR hbt).1) hb2 hbs2
 refine af (fun h400=>aa hcb ?_) (fun _=>af (fun h42=>aa hcb (nm (.inl (eq_of_beq h42)) hb1 hbs fun _ _ _=>rfl)) (fun _=>ak (fun h53=>ak (fun h56=>aa hcb (nm (.inr (.inl ⟨h53,h56⟩)) hb1 hbs fun _ _ _=>rfl)) (fun _=>af (fun h449=>aa hcb (nm (.inr (.inr (eq_of_beq h449))) hb1 hbs fun _ _ _=>rfl)) (fun _=>no _ _ _ _ hb1 hbs))) (fun _=>af (fun h449=>aa hcb (nm (.inr (.inr (eq_of_beq h449))) hb1 hbs fun _ _ _=>rfl)) (fun _=>no _ _ _ _ hb1 hbs))))
 have hc400:=eq_of_beq h400
 refine ed (fun b=>b=true->Pth l) (Fine.mk' hb1 hbs) rfl (fun β w2 hb2 _ _=>Dn l (by omega) w2) (fun b w2 bs2 hR hb2 hbs2=>?_)
 exact yes _ _ _ _ _ (fun hbt=>by rw[hc400];exact xE l (hR hbt)) hb2 hbs2
end
section
open Go Go.Rx Go.RowKit
theorem fK{Q:SE->List Value->World->Prop}{s:SS}{w:World}{f:FuncId}{args:List SV}{s0:SS}{k:ByteArray->World->List Nat->T}(l:List UInt8)(hf:Fine w s)(hs0:s0.objs=s.objs)
  (hc:∀β w0,Below w.heap.size w w0->St (cS Tryz.prog Q) β s w0->Old β s w0->Calls Tryz.prog f (ae β args).toArray w0 (bF (fun v _=>v=.string ⟨l.toArray⟩) w0))
  (hk:∀w' bs,Below w.heap.size w w'->(∀b∈bs,w.heap.size<=b)->(k ⟨l.toArray⟩ w' bs).holds (cS Tryz.prog Q)) :
  (T.call f args s (Hook.X aL) (Hook.out aL [] s0) k).holds (cS Tryz.prog Q):=by
 refine eK (Γ:=cS Tryz.prog Q) (R:=fun(x:ByteArray) _ _=>x=⟨l.toArray⟩) hf (fun x=>⟨hs0,trivial⟩) (fun β w0 hst ho hb=>(hc β w0 hb hst ho).mono ?_) (fun x w0 w' bs _ hr _ hb hbs=>by rw[hr];exact hk w' bs hb hbs)
 rintro e w' ⟨v,rfl,rfl,hb'⟩
 exact⟨_,rfl,hb',rfl⟩
theorem Dw{Q:SE->List Value->World->Prop}{s:SS}{w:World}{f:FuncId}{args:List SV}{s0:SS}{k:Nat->World->List Nat->T}(m:Nat)(hf:Fine w s)(hs0:s0.objs=s.objs)
  (hc:∀β w0,Below w.heap.size w w0->St (cS Tryz.prog Q) β s w0->Old β s w0->Calls Tryz.prog f (ae β args).toArray w0 (bF (fun v _=>v=.int .u64 (m:Int)) w0))
  (hk:∀w' bs,Below w.heap.size w w'->(∀b∈bs,w.heap.size<=b)->(k m w' bs).holds (cS Tryz.prog Q)) :
  (T.call f args s (Hook.X pd) (Hook.out pd [] s0) k).holds (cS Tryz.prog Q):=by
 refine eK (Γ:=cS Tryz.prog Q) (R:=fun(x:Nat) _ _=>x=m) hf (fun x=>⟨hs0,trivial⟩) (fun β w0 hst ho hb=>(hc β w0 hb hst ho).mono ?_) (fun x w0 w' bs _ hr _ hb hbs=>by rw[hr];exact hk w' bs hb hbs)
 rintro e w' ⟨v,rfl,rfl,hb'⟩
 exact⟨_,rfl,hb',rfl⟩
theorem HC:∀k∈aY,(k=4 ↔ (an k).size=32):=by decide
theorem D2:∀k∈aY,(k=41 ↔ (an k).size=128):=by decide
theorem Gl(a b c d e f g h:UInt8):xY [a,b,c,d,e,f,g,h]=fc a b c d e f g h:=by
 simp only[xY,fc,List.foldl]
 omega
theorem Simple.numT{k:Int}{val txt:List UInt8}(h:Simple k val txt)(hp:0<(an k).size)(h4:(an k).size≠32)(h41:(an k).size≠128):txt=Lib.decDigits (xY val)/\val.length<=8:=by
 cases h with
 |N _ hs=>omega
 |P _ hs _ _ a b=>exact⟨by simp[xY],by simp⟩
 |F _ hs=>exact absurd hs h4
 |S _ hs=>exact absurd hs h41
 |C _ hs _ _ a=>exact⟨by rw[kL a.toNat_lt];simp[xY],by simp⟩
 |M _ hs _ _ a b c d e f g h=>exact⟨by rw[Gl],by simp⟩
 |D _ hs=>omega
 |Z _ hs=>omega
 |U _ hs=>omega
theorem Simple.four{k:Int}{val txt:List UInt8}(h:Simple k val txt)(hs:(an k).size=32):txt=eg val/\val.length=4:=by
 cases h with
 |F _ _ _ _ a b c d=>exact⟨(F2 a b c d).symm,rfl⟩
 |_=>omega
theorem Simple.sixT{k:Int}{val txt:List UInt8}(h:Simple k val txt)(hs:(an k).size=128):txt=ph val/\val.length=16:=by
 cases h with
 |S _ _ _ _ l hl=>exact⟨rfl,hl⟩
 |_=>omega
theorem Simple.zero{k:Int}{val txt:List UInt8}(h:Simple k val txt)(hs:(an k).size=0):txt=[]:=by
 cases h with
 |N=>rfl
 |_=>omega
theorem Simple.var{k:Int}{val txt:List UInt8}(h:Simple k val txt)(h0:¬(an k).size=0)(h1:¬0<(an k).size):txt=val:=by
 cases h with
 |D=>rfl
 |Z=>rfl
 |U=>rfl
 |_=>omega
theorem BG(code:Int)(A:Option Addr)(n c:Nat)(l txt:List UInt8)(B:Nat)(w:World)(hs:Simple code l txt)(h:Bts w B A n l)(hc:n<=c)(hB:B<=w.heap.size) :
  Calls Tryz.prog 17 #[.agg #[.int .i64 code,.slice A n c]] w (bF (fun v _=>v=.string ⟨txt.toArray⟩) w):=by
 have hk:=hs.tab
 refine aH (hk:=Ki) (n:=1000) (args:=[.agg [.int .i64 code false,.xs A n c]]) ⟨⟨trivial,trivial,trivial⟩,trivial⟩ ?_
 refine ah (QB code A n c w) ?_
 refine kU (Fine.start _ _) rfl (fun x w1 bs hb1 hbs hx hx2=>?_)
 obtain⟨_,rfl⟩:=hx (hx2 hk)
 have hw:∀ {w':World},Below w.heap.size w w'->Bts w' B A n l:=fun hb=>h.below (hb.mono hB) (Nat.le_refl _)
 have hsz:∀ {w':World},Below w.heap.size w w'->B<=w'.heap.size:=fun hb=>Nat.le_trans hB hb.size
 dsimp only
 refine af (fun h0=>aN (Fine.mk' hb1 hbs) fun β w' _ _=>?_) (fun h0=>?_)
 ·rw[hs.zero (eq_of_beq h0)]
  rfl
 have h0':¬(an code).size=0:=by simpa using h0
 refine af (fun h4=>?_) (fun h4=>af (fun h41=>?_) (fun h41=>ak (fun hp=>?_) (fun hp=>?_)))
 ·obtain⟨rfl,hl⟩:=hs.four ((HC code hk).1 (eq_of_beq h4))
  refine fK _ (Fine.mk' hb1 hbs) rfl (fun β w2 hb2 _ _=>xm A n c l B w2 (hw hb2) (hsz hb2) (by omega)) (fun w2 b2 hb2 hbs2=>aN (Fine.mk' hb2 hbs2) fun β w' _ _=>rfl)
 ·obtain⟨rfl,hl⟩:=hs.sixT ((D2 code hk).1 (eq_of_beq h41))
  refine fK _ (Fine.mk' hb1 hbs) rfl (fun β w2 hb2 _ _=>Fw A n c l B w2 (hw hb2) hl hc (hsz hb2)) (fun w2 b2 hb2 hbs2=>aN (Fine.mk' hb2 hbs2) fun β w' _ _=>rfl)
 ·obtain⟨rfl,hl⟩:=hs.numT hp (fun e=>by rw[(HC code hk).2 e]at h4;simp at h4) (fun e=>by rw[(D2 code hk).2 e]at h41;simp at h41)
  have hn:=yE l
  have hn2:256^l.length<=256^8:=Nat.pow_le_pow_right (by omega) hl
  refine Dw (xY l) (Fine.mk' hb1 hbs) rfl (fun β w2 hb2 _ _=>yy A n c l B w2 (hw hb2) (hsz hb2) hl) (fun w2 b2 hb2 hbs2=>
   fK _ (Fine.mk' hb2 hbs2) rfl (fun β w3 hb3 _ _=>qi _ (by omega) w3) (fun w3 b3 hb3 hbs3=>aN (Fine.mk' hb3 hbs3) fun β w' _ _=>rfl))
 ·have hb:=hw hb1
  refine aa (hb.canBytes (hsz hb1) (fun b hb'=>Nat.le_trans hB (hbs b hb'))) (aN (Fine.mk' hb1 hbs) fun β w' _ _=>?_)
  rw[hs.var h0' hp,hb.bytesAt]
  rfl
end
section
open Go Go.Rx Go.RowKit
def JL:SE->List Nat
 | .normal=>[3,8,9,10]
 | .exit _=>[3]
 |_=>[]
def Dj:LoopHook:=bK 41 ByteArray (.exit 0) [3] (fun s=>[.str s false]) Unit .ret [] (fun _=>[])
def Fm:Hooks:={ calls:=fun f=>if f=14 then some bL else if f=17 then some aL else none,loops:=fun _ _=>some Dj }
noncomputable abbrev uD(A:Option Addr)(n c:Nat):List SV:=([(.xs A n c),(.tup []),(.str (ByteArray.mk #[]) true),(.str (ByteArray.mk #[]) true),(.tup []),(.tup []),(.tup []),(.tup []),(.xs A n c),(.int .i64 ((↑n:Int)) false),(.int .i64 0 true)]++List.replicate 30 aA)
theorem LU(A:Option Addr)(n c:Nat)(w:World):am Tryz.prog Fm 1000 18 [.xs A n c] (SS.at w) =
(.loop 18 (ar Tryz.prog 18 4) (uD A n c) (SS.mk [] [] true w []) (LoopHook.X (Dj)) (LoopHook.out (Dj) (uD A n c) (SS.mk [] [] true w [])) (fun x0 w0 b0=>(.leaf .ret [(.str x0.fst false)] (SS.mk [] [] true w0 b0))) (LoopHook.Y (Dj)) (LoopHook.out' (Dj) (uD A n c) (SS.mk [] [] true w [])) (fun x0 w0 b0=>(.leaf .ret [(.raw (x0.snd 2))] (SS.mk [] [] true w0 b0)))):=by kernel_rfl
theorem Qy(A:Option Addr)(n c:Nat)(w:World):(by have h:=LU A n c w;unfold uD at h;exact type_of% h):=LU A n c w
noncomputable abbrev uE(w:World)(A:Option Addr)(i:Nat):Int:=(ai w (((A.getD default).add ((↑i:Int).toNat*2)).add 0))
noncomputable abbrev rd(w:World)(A:Option Addr)(i:Nat):List SV:=[(.int .i64 (uE w A i) false),(.xs (kD w (((A.getD default).add ((↑i:Int).toNat*2)).add 1)) (iO w (((A.getD default).add ((↑i:Int).toNat*2)).add 1)) (m8 w (((A.getD default).add ((↑i:Int).toNat*2)).add 1)))]
noncomputable abbrev EF(x0:(Hook.X (bL))):SObj:=(.cells [(.str x0.name false),(.int .i64 x0.cd false),(.int .i64 x0.size false),(.bool x0.path false),(.one (.slice none 0 0) rfl)] 5 34 0 0)
noncomputable abbrev ld(x0:(Hook.X (bL))):ByteArray:=(ByteArray.mk #[(47:UInt8)]++x0.name)
noncomputable abbrev zg(i:Nat):SV:=(.int .i64 (i64.wrap ((↑i:Int)+(1:Int))) false)
noncomputable abbrev re(w:World)(A:Option Addr)(i:Nat)(x0:(Hook.X (bL)))(w0:World)(b0:List Nat):SS:=(SS.mk [(.cells (rd w A i) 2 31 0 0),(EF x0)] [] true w0 b0)
noncomputable abbrev zh(w:World)(A:Option Addr)(i:Nat)(x0:(Hook.X (bL)))(w0:World)(b0:List Nat)(s:ByteArray)(n c:Nat):T:=(.hc 17 [(.agg (rd w A i))] (re w A i x0 w0 b0) (aL) fun x1 w1 b1=>(.need ((↑((s++(ld x0)).size+ByteArray.size x1):Int)<=i64.max) (.leaf .normal [(.str (s++(ld x0)++x1) false),(.xs A n c),(.int .i64 ((↑n:Int)) false),(zg i)] (re w A i x0 w1 b1))))
theorem Lm(A:Option Addr)(n c i:Nat)(s:ByteArray)(w:World)(g:Nat->Value):aK Tryz.prog Fm 1000 18 (ar Tryz.prog 18 4) (az ((JL .normal).zip [.str s false,.xs A n c,.int .i64 n false,.int .i64 i false]) g 41 0) (fun e a s=>.leaf e (ep JL e a) s) (SS.at w) =
(.split (decide ((↑i:Int)<(↑n:Int))) (.need ((0:Int)<=(↑i:Int)/\(↑i:Int)<(↑n:Int)) (.need (A.isSome=true) (.need (canRead w [] ((A.getD default).add ((↑i:Int).toNat*2)) [SV.int i64 (uE w A i) false,SV.xs (kD w (((A.getD default).add ((↑i:Int).toNat*2)).add 1)) (iO w (((A.getD default).add ((↑i:Int).toNat*2)).add 1)) (m8 w (((A.getD default).add ((↑i:Int).toNat*2)).add 1))]) (.hc 14 [(.int .i64 (uE w A i) false)] (SS.mk [(.cells (rd w A i) 2 31 0 0)] [] true w []) (bL) fun x0 w0 b0=>(.need ((↑(1+x0.name.size):Int)<=i64.max) (.need ((↑(s.size+(ld x0).size):Int)<=i64.max) (.split (x0.size != (0:Int)) (.split (!x0.path) (.need ((↑((s++(ld x0)).size+1):Int)<=i64.max) (.hc 17 [(.agg (rd w A i))] (re w A i x0 w0 b0) (aL) fun x1 w1 b1=>(.need ((↑((s++(ld x0)++ByteArray.mk #[(47:UInt8)]).size+ByteArray.size x1):Int)<=i64.max) (.leaf .normal [(.str (s++(ld x0)++ByteArray.mk #[(47:UInt8)]++x1) false),(.xs A n c),(.int .i64 ((↑n:Int)) false),(zg i)] (re w A i x0 w1 b1))))) (zh w A i x0 w0 b0 s n c)) (zh w A i x0 w0 b0 s n c)))))))) (.leaf (.exit 0) [(.str s false)] (SS.mk [] [] true w []))):=by kernel_rfl
theorem P8(A:Option Addr)(n c i:Nat)(s:ByteArray)(w:World)(g:Nat->Value):(by have h:=Lm A n c i s w g;unfold zh re zg ld EF rd uE at h;exact type_of% h):=Lm A n c i s w g
structure CT where
 c:Comp
 txt:List UInt8
 hs:Simple c.code c.val txt
def CTAt(w:World)(B:Nat)(a:Addr)(x:CT):Prop:=CompAt w B a x.c/\iO w (a.add 1)<=m8 w (a.add 1)/\(kD w (a.add 1)=none->m8 w (a.add 1)=0)
def CTsAt(w:World)(B:Nat)(A:Option Addr)(n:Nat)(l:List CT):Prop:=SeqAt (CTAt w B) 2 B A n l
theorem CTAt.below{w w':World}{B B':Nat}{a:Addr}{x:CT}(h:CTAt w B a x)(hb:Below B w w')(hB:B<=B'):CTAt w' B' a x:=by
 have e:=cM hb (show(a.add 1).block<B by rw[aD];exact h.1.1)
 refine⟨h.1.below hb hB,?_⟩
 have:=h.2
 simp only[kD,iO,m8,e]at this ⊢
 exact this
theorem CTsAt.below{w w':World}{B B':Nat}{A:Option Addr}{n:Nat}{l:List CT}(h:CTsAt w B A n l)(hb:Below B w w')(hB:B<=B'):CTsAt w' B' A n l:=
 h.imp hB fun a x _ hx=>hx.below hb hB
theorem CTsAt.get{w:World}{B:Nat}{A:Option Addr}{n i:Nat}{l:List CT}(h:CTsAt w B A n l)(hi:i<n):∃a x,A=some a/\l[i]?=some x/\CTAt w B (a.add (i*2)) x:=by
 obtain⟨a,ha,_,hx⟩:=h.2 (by omega)
 have hl:=h.1
 have:l[i]?=some (l[i]'(by omega)):=List.getElem?_eq_getElem (by omega)
 exact⟨a,_,ha,this,hx i _ this⟩
def aR(l:List CT):List UInt8:=l.flatMap fun x=>cW x.c.code x.txt
theorem pF{l:List CT}{i:Nat}{x:CT}(h:l[i]?=some x):aR (l.take (i+1))=aR (l.take i)++cW x.c.code x.txt:=by
 rw[List.take_add_one,h]
 simp[aR]
theorem kx(l:List CT)(i:Nat):(aR (l.take i)).length<=(aR l).length:=by
 have:aR l=aR (l.take i)++aR (l.drop i):=by
  unfold aR
  rw[<- List.flatMap_append,List.take_append_drop]
 rw[this,List.length_append]
 omega
theorem OM:ByteArray.mk #[(47:UInt8)]=⟨[(47:UInt8)].toArray⟩:=rfl
theorem Dq(A:Option Addr)(n c:Nat)(l:List CT)(B:Nat)(w:World)(h:CTsAt w B A n l)(hB:B<=w.heap.size)(hn:(n:Int)<2^48)(hl:(aR l).length<2^60) :
  Calls Tryz.prog 18 #[.slice A n c] w (bF (fun v _=>v=.string ⟨(aR l).toArray⟩) w):=by
 have hlen:=h.1
 refine aH (hk:=Fm) (n:=1000) (args:=[.xs A n c]) ⟨trivial,trivial⟩ ?_
 refine ah (Qy A n c w) ?_
 refine fm (w:=w) (Fine.start w _) JL (α:=Nat×ByteArray) (fun z=>[.str z.2 false,.xs A n c,.int .i64 n false,.int .i64 z.1 false]) (fun z=>n-z.1) (fun _ z _=>z.1<=n/\z.2=⟨(aR (l.take z.1)).toArray⟩)
  (fun _ e lv _=>e=.exit 0/\lv=[.string ⟨(aR l).toArray⟩]) (fun _=>Fm) 1000 (by simp) (by simp[JL]) (by simp[JL]) (fun _=>⟨trivial,trivial,trivial,trivial,trivial⟩) rfl rfl rfl
  (by simp) (by simp) (fun _=>⟨trivial,trivial⟩) (fun _=>trivial) ?_ ?_ ?_
 ·rintro w0 ⟨i,t⟩ w1 g _ ⟨hi,ht⟩ hb0 hbw
  dsimp only at hi ht
  subst ht
  refine ah (P8 A n c i _ w1 g) (af (fun hlt=>?_) (fun hge=>?_))
  rotate_left
  ·have:i=n:=by
    have:¬i<n:=by simpa using hge
    omega
   refine cy (Fine.nil hb0) (by simp) fun β w' _ _=>⟨rfl,?_⟩
   rw[List.take_of_length_le (by omega)]
   rfl
  have hlt':i<n:=by simpa using hlt
  have hB1:B<=w1.heap.size:=Nat.le_trans hB hbw.size
  obtain⟨ad,x,rfl,hx,hR⟩:=(h.below (hbw.mono hB) (Nat.le_refl _)).get hlt'
  obtain⟨f1,f2,f3⟩:=hR.1.facts
  refine aa (by omega) (aa rfl (aa (hR.1.canRead hB1 (by simp)) ?_))
  have f1':ai w1 (((some ad).getD default).add (((i:Nat):Int).toNat*2) |>.add 0)=x.c.code:=f1
  rw[f1']
  have hk:=x.hs.tab
  refine kU (Fine.start w1 _) rfl (fun px w2 bs hb2 hbs hpx hpx2=>?_)
  obtain⟨_,rfl⟩:=hpx (hpx2 hk)
  dsimp only
  have hsn:=pF hx
  have hle:=kx l (i+1)
  rw[hsn,List.length_append]at hle
  have hcl:(an x.c.code).name.length+1+x.txt.length<=(cW x.c.code x.txt).length:=by
   unfold cW
   split <;> simp <;> omega
  have hi1:i64.wrap ((i:Int)+1)=((i+1:Nat):Int):=by rw[ax (by omega) (by omega)];omega
  have hcA:((an x.c.code).size != 0)=true->(!(an x.c.code).path)=true->cW x.c.code x.txt=[47]++(an x.c.code).name++[47]++x.txt:=fun h1 h2=>by
   unfold cW
   rw[if_pos ⟨by simpa using h1,by simpa using h2⟩]
   simp
  have hcB:¬(((an x.c.code).size != 0)=true/\(!(an x.c.code).path)=true)->cW x.c.code x.txt=[47]++(an x.c.code).name++x.txt:=fun h1=>by
   unfold cW
   rw[if_neg (fun h=>h1 ⟨by simpa using h.1,by simpa using h.2⟩)]
   simp
  simp only[OM,dg,aB]
  have hv:=fun(w4:World) (hb4:Below w1.heap.size w1 w4)=>BG x.c.code (kD w1 ((ad.add (i*2)).add 1)) (iO w1 ((ad.add (i*2)).add 1)) (m8 w1 ((ad.add (i*2)).add 1)) x.c.val x.txt B w4 x.hs (f2.below (hb4.mono hB1) (Nat.le_refl _)) hR.2.1 (Nat.le_trans hB1 hb4.size)
  have hbx:∀ {w3:World},Below w1.heap.size w1 w3->Below w0.heap.size w0 w3:=fun h=>hb0.trans (h.mono hb0.size)
  have hsx:∀ {b3:List Nat},(∀b∈b3,w1.heap.size<=b)->∀b∈b3,w0.heap.size<=b:=fun h b hb=>Nat.le_trans hb0.size (h b hb)
  refine aa (by rw[be];simp;omega) (aa (by rw[be];simp;omega) ?_)
  refine af (fun h0=>af (fun hp=>aa (by have:=congrArg List.length (hcA h0 hp);simp at this;rw[be];simp;omega) ?_) (fun hp=>?_)) (fun h0=>?_)
  ·refine fK x.txt (Fine.mk' hb2 hbs) rfl (fun β w4 hb4 _ _=>hv w4 hb4) (fun w3 b3 hb3 hbs3=>?_)
   have hc:=hcA h0 hp
   have hcl:=congrArg List.length hc
   rw[hc]at hsn
   simp only[dg,aB]
   refine aa (by rw[be];simp at hcl ⊢;omega) (dM (Fine.mk' (hbx hb3) (hsx hbs3)) fun β w' _ _=>⟨(i+1,⟨(aR (l.take (i+1))).toArray⟩),by show n-(i+1)<n-i;omega,?_,by show i+1<=n;omega,rfl⟩)
   rw[hi1,hsn]
   simp only[List.append_assoc]
   rfl
  ·refine fK x.txt (Fine.mk' hb2 hbs) rfl (fun β w4 hb4 _ _=>hv w4 hb4) (fun w3 b3 hb3 hbs3=>?_)
   have hc:=hcB (fun h=>by rw[h.2]at hp;cases hp)
   have hcl:=congrArg List.length hc
   rw[hc]at hsn
   simp only[dg,aB]
   refine aa (by rw[be];simp at hcl ⊢;omega) (dM (Fine.mk' (hbx hb3) (hsx hbs3)) fun β w' _ _=>⟨(i+1,⟨(aR (l.take (i+1))).toArray⟩),by show n-(i+1)<n-i;omega,?_,by show i+1<=n;omega,rfl⟩)
   rw[hi1,hsn]
   simp only[List.append_assoc]
   rfl
  ·refine fK x.txt (Fine.mk' hb2 hbs) rfl (fun β w4 hb4 _ _=>hv w4 hb4) (fun w3 b3 hb3 hbs3=>?_)
   have hc:=hcB (fun h=>by rw[h.1]at h0;cases h0)
   have hcl:=congrArg List.length hc
   rw[hc]at hsn
   simp only[dg,aB]
   refine aa (by rw[be];simp at hcl ⊢;omega) (dM (Fine.mk' (hbx hb3) (hsx hbs3)) fun β w' _ _=>⟨(i+1,⟨(aR (l.take (i+1))).toArray⟩),by show n-(i+1)<n-i;omega,?_,by show i+1<=n;omega,rfl⟩)
   rw[hi1,hsn]
   simp only[List.append_assoc]
   rfl
 ·intro β w0 hst hb
  exact⟨(0,⟨#[]⟩),rfl,Nat.zero_le _,rfl⟩
 ·rintro β w0 hst hb e lv w' ⟨rfl,rfl⟩ hb0 hb1
  exact .inl ⟨_,rfl,rfl,fun g bs hbs=>aN (Fine.mk' hb1 hbs) fun β w' _ _=>rfl⟩
end
section
open Go Go.RowKit Go.Rx
def aZ(x:CT):List UInt8:=cg x.c.code x.c.val++x.c.val
def aj(l:List CT):List UInt8:=l.flatMap aZ
@[irreducible] def Hid(p:Prop):Prop:=p
theorem Hid.mk{p:Prop}(h:p):Hid p:=by unfold Hid;exact h
theorem Hid.out{p:Prop}(h:Hid p):p:=by unfold Hid at h;exact h
abbrev ey(l:List UInt8):List Value:=l.map fun b=>Value.int .u8 (b.toNat:Int)
theorem Dz{w:World}{B:Nat}{v:Value}{l:List UInt8}(h:w.ownsRow B 5 1 v l.length (ey l)):∃A n c,v=.slice A n c/\Bts w w.heap.size A n l/\(0<n->∀a,A=some a->B<=a.block):=by
 by_cases hl:l=[]
 ·subst hl
  rcases h.2 with⟨rfl,_⟩ |⟨b,c,cur,rfl,_⟩
  ·exact⟨_,_,_,rfl,⟨rfl,fun h=>absurd h (by omega)⟩,fun h=>absurd h (by omega)⟩
  ·exact⟨_,_,_,rfl,⟨rfl,fun h=>absurd h (by simp)⟩,fun h=>absurd h (by simp)⟩
 ·obtain⟨b,c,rfl,_,hb,hge⟩:=tD h hl
  exact⟨_,_,_,rfl,hb,fun _ a ha=>by cases ha;exact hge⟩
def Ju(l:List CT)(w:World)(v:Value)(w':World):Prop:=∃A n' c',v=.slice A n' c'/\Bts w' w'.heap.size A n' (aj l)/\(0<n'->∀a,A=some a->w.heap.size<=a.block)
theorem JR{w w0:World}{v:Value}{l:List CT}{k n:Nat}(hk:n<=k)(hn:n=l.length)(h:w.ownsRow w0.heap.size 5 1 v (aj (l.take k)).length (ey (aj (l.take k)))):Ju l w0 v w:=by
 rw[List.take_of_length_le (by omega)]at h
 exact Dz h
theorem me{w w':World}{B b:Nat}{e:TypeId}{v:Value}{n:Nat}{xs:List Value}(h:w.ownsRow B e 1 v n xs)(hb:Below b w w')(hlt:w.heap.size<=b):w'.ownsRow B e 1 v n xs:=by
 refine⟨h.1,?_⟩
 rcases h.2 with h0 |⟨g,cap,cur,hv,hB,hg,hr⟩
 ·exact .inl h0
 ·refine .inr ⟨g,cap,cur,hv,hB,?_,hr⟩
  have:g<w.heap.size:=by
   rcases Nat.lt_or_ge g w.heap.size with h' |h'
   ·exact h'
   ·rw[Array.getElem?_eq_none h']at hg;cases hg
  rw[hb.block g (by omega)]
  exact hg
theorem i6{w:World}{B n:Nat}{ad:Addr}{l:List UInt8}(h:Bts w B (some ad) n l):∀j u,(ey l)[j]?=some u->w.cell? (ad.add j)=some u:=by
 intro j u hj
 rw[List.getElem?_map]at hj
 cases hx:l[j]? with
 |none=>rw[hx]at hj;cases hj
 |some b=>
  rw[hx]at hj
  cases hj
  have hl:=h.1
  have:=(List.getElem?_eq_some_iff.1 hx).1
  obtain⟨a,ha,_,hr⟩:=h.2 (by omega)
  cases ha
  have:=hr j b hx
  rw[Nat.mul_one]at this
  exact this
theorem gX(l:List UInt8):∀u∈ey l,u.oneCell'=true:=by
 intro u hu
 obtain⟨b,_,rfl⟩:=List.mem_map.1 hu
 rfl
theorem jA{P:Program}{w:World}{ops:Array Oper}{rest:List Oper}{o:Oper}{a:Act}{Q:Exit->Act->World->Prop}(hgd:o.guard=none)(s x:Operand)(t:TypeId)
  (ho:o.op=.call { callee:=.builtin .append,args:=#[s,x],argTypes:=#[t,t] })
  (base:Nat) (e:TypeId) (i:TypeInfo) (z:Value) (ht:P.underlying t=some (.slice e)) (hi:P.info? e=some i) (hz:i.zero=some z)
  (hsize:i.size=1) (hby:i.bytes=1) (hzs:z.cells.size=1)
  (v:Value) (n:Nat) (xs:List Value) (hs:a.eval s=v) (hown:w.ownsRow base e 1 v n xs)
  (A:Option Addr) (m c B:Nat) (l:List UInt8) (hx:a.eval x=.slice A m c) (hr:Bts w B A m l/\(A=none->c=0))
  (hbytes:n+m<=140737488355328) (hbase:base<=w.heap.size)
  (h:∀v' w',w'.ownsRow base e 1 v' (n+m) (xs++ey l)->w.grownBy w' v.ownBlock->wpList P ops Q rest (a.put o.dst v') w'):wpList P ops Q (o :: rest) a w:=by
 obtain⟨hr,hc⟩:=hr
 rcases A with _ |ad
 ·have hm0:m=0:=Nat.eq_zero_of_not_pos fun hp=>by obtain⟨a,ha,_⟩:=hr.2 hp;cases ha
  subst hm0
  have hc0:=hc rfl
  subst hc0
  have hl:l=[]:=List.eq_nil_of_length_eq_zero hr.1.symm
  subst hl
  exact wpList_append_own_none hgd s x t ho base e i 1 ht hi v n xs hs hown hx (h v w (by simpa [ey] using hown) (World.grownBy.refl w _))
 ·exact wpList_append_own _ hgd s x t ho base e i z 1 1 ht hi hz hsize hby hzs (by decide) v n xs hs hown ad m c (ey l) hx (by rw[hr.1];simp[ey]) (i6 hr) (gX l) (by unfold maxLen;omega) (by omega) hbase fun v' w' h1 h2 _=>h v' w' h1 h2
theorem DD{w:World}{B b n:Nat}{v:Value}{xs:List Value}{cs:Array Value}{T:TypeId}(h:w.ownsRow B 5 1 v n xs)(hg:w.heap[b]?=some (.cells cs T (0,0)))(hT:T≠5):some b≠v.ownBlock:=by
 intro e
 rcases h.2 with⟨rfl,_⟩ |⟨g,cap,cur,rfl,_,hg',_⟩
 ·cases e
 ·have:b=g:=by
   have e':some b=some g:=e
   simpa using e'
  subst this
  rw[hg]at hg'
  simp only[Option.some.injEq,Obj.cells.injEq]at hg'
  exact hT hg'.2.1
theorem cO{w:World}{b:Nat}{o:Obj}(h:w.heap[b]?=some o):b<w.heap.size:=by
 rcases Nat.lt_or_ge b w.heap.size with h' |h'
 ·exact h'
 ·rw[Array.getElem?_eq_none h']at h;cases h
theorem qt{w w':World}{B b n:Nat}{v:Value}{xs:List Value}{cs:Array Value}{T:TypeId}(h:w.ownsRow B 5 1 v n xs)(hgr:w.grownBy w' v.ownBlock)(hg:w.heap[b]?=some (.cells cs T (0,0)))(hT:T≠5):w'.heap[b]?=some (.cells cs T (0,0)):=by
 rw[hgr.block b (cO hg) (DD h hg hT)]
 exact hg
theorem bt(w:World)(o:Obj):(w.alloc o).heap.size=w.heap.size+1:=Array.size_push ..
theorem cellOf{w:World}{b i:Nat}{v:Value}{cs:Array Value}{T:TypeId}(h:w.heap[b]?=some (.cells cs T (0,0)))(hv:cs[i]?=some v):w.cell? ⟨b,i,none⟩=some v:=by
 rw[Lib.cell_of_heap h]
 exact hv
theorem Ej:∀k∈aY,0<=k/\k<=7367777:=by decide
theorem jO(x:CT):aZ x=uv x.c.code.toNat++(if(an x.c.code).size<0 then uv x.c.val.length else[])++x.c.val:=by
 unfold aZ cg
 rw[qL _ x.hs.tab]
theorem OK{x:CT}{q:Nat}(pre:List UInt8)(hq:x.c.code=(q:Int))(hs:(an (q:Int)).size<0):ey pre++ey (uv q)++ey (uv x.c.val.length)++ey x.c.val=ey (pre++aZ x):=by
 rw[jO,hq,if_pos hs,Int.toNat_natCast]
 simp[ey]
theorem OL{x:CT}{q:Nat}(pre:List UInt8)(hq:x.c.code=(q:Int))(hs:¬(an (q:Int)).size<0):ey pre++ey (uv q)++ey x.c.val=ey (pre++aZ x):=by
 rw[jO,hq,if_neg hs,Int.toNat_natCast]
 simp[ey]
theorem cU{l:List CT}{i:Nat}{x:CT}(h:l[i]?=some x):aj (l.take (i+1))=aj (l.take i)++aZ x:=by
 rw[List.take_add_one,h]
 simp[aj]
theorem cB(l:List CT)(i:Nat):(aj (l.take i)).length<=(aj l).length:=by
 have:aj l=aj (l.take i)++aj (l.drop i):=by
  unfold aj
  rw[<- List.flatMap_append,List.take_append_drop]
 rw[this,List.length_append]
 omega
def Rel8(l:List CT)(n:Nat)(w:World)(v i:Value)(wr:World):Prop:=∃k:Nat,k<=n/\i=.int .i64 (k:Int)/\wr.ownsRow w.heap.size 5 1 v (aj (l.take k)).length (ey (aj (l.take k)))/\Below w.heap.size w wr
theorem Rel8.start(l:List CT)(n:Nat)(w:World):Rel8 l n w (.slice (some ⟨w.heap.size,0,none⟩) 0 0) (.int .i64 0) (w.alloc (.cells #[] 5)):=
 ⟨0,Nat.zero_le _,rfl,⟨rfl,.inr ⟨w.heap.size,0,#[],rfl,Nat.le_refl _,Array.getElem?_push_size,Nat.le_refl _,Nat.zero_le _,rfl,rfl⟩⟩,(Below.refl _ _).alloc (Nat.le_refl _) _⟩
theorem Rel8.next{l:List CT}{n k N:Nat}{w w':World}{v:Value}{x:CT}{xs:List Value}(hx:l[k]?=some x)(hk:k<n)(ho:w'.ownsRow w.heap.size 5 1 v N xs)(hxs:xs=ey (aj (l.take k)++aZ x))(hb:Below w.heap.size w w'):Rel8 l n w v (.int .i64 ((k:Int)+1)) w':=by
 have hN:=ho.1
 have e:=cU hx
 refine⟨k+1,by omega,rfl,?_,hb⟩
 rw[e,<- hxs]
 have:(aj (l.take k)++aZ x).length=N:=by
  rw[hxs,List.length_map]at hN
  omega
 rw[this]
 exact ho
theorem qm{k n:Nat}(h:(k:Int)<n):n-(intOf (.int .i64 ((k:Int)+1))).toNat<n-(intOf (.int .i64 (k:Int))).toNat:=by
 show n-((k:Int)+1).toNat<n-(k:Int).toNat
 omega
theorem BE(ad:Addr)(n c:Nat)(l:List CT)(B:Nat)(w:World)(h:CTsAt w B (some ad) n l)(hB:B<=w.heap.size)(hn:n<2^30)(hl:(aj l).length<140737488355328) :
  Calls Tryz.prog 19 #[.slice (some ad) n c] w (bF (Ju l w) w):=by
 have hid0:=Hid.mk (And.intro h (And.intro hl hn))
 clear h hl hn
 obtain⟨i0,hi,hz0,hz1,hz2⟩:=info_parts rV
 go_enter Tryz.func19,Tryz.ntmps19
 go_wp2
 go_loopw [3,11] (fun v i wr=>Rel8 l n w v i wr) (fun _ i _=>n-(intOf i).toNat)
 case atStart=>exact Rel8.start l n w
 case round=>
  obtain⟨k,hk,rfl,hown,hnx⟩:=hrel
  have hz:=hnx.size
  obtain⟨h,hl,hn⟩:=hid0.out
  by_cases hlt:k<n
  ·obtain⟨_,x,rf,hx,hR⟩:=CTsAt.get (h.below (hnx.mono hB) (Nat.le_refl _)) hlt
   cases rf
   obtain⟨⟨r1,r2,⟨A,m,cap,r3,r4⟩,r5⟩,r6⟩:=hR
   have hki:(k:Int)<n:=by omega
   have r3':wr.cell? { block:=(ad.add (k*2)).block,off:=(ad.add (k*2)).off+1 } = some (.slice A m cap):=by
    rw[<- r3]
    rfl
   have r6b:A=none->cap=0:=by
    have:=r6.2
    simp only[kD,m8,r3]at this
    exact this
   have r4w:Bts w B A m x.c.val:=r4.imp (Nat.le_refl _) fun a y ha hy=>by rw[<- cM (hnx.mono hB) ha];exact hy
   clear r3
   have wV:(k:Int)<1073741824:=by omega
   have hidA:=Hid.mk (And.intro r6b r4w)
   clear r6b r4w
   have hid:=Hid.mk (And.intro hx (And.intro r1 (And.intro r4 (And.intro r5 (And.intro r6 (And.intro h (And.intro hl hn)))))))
   have hidw:=Hid.mk (And.intro hown hnx)
   clear hx r1 r4 r5 r6 h hl hn hown hnx
   go_wp2_with fail
   refine(l8 x.c.code _).mono ?_
   rintro e w1 ⟨v,rfl,⟨px,rfl,hp1,hp2⟩,hb1⟩
   obtain⟨_,rfl⟩:=hp1 (hp2 x.hs.tab)
   clear hp1 hp2
   dsimp only
   obtain⟨q,hq⟩:∃q:Nat,x.c.code=(q:Int):=⟨x.c.code.toNat,by have:=(Ej _ x.hs.tab).1;omega⟩
   have hq2:q<=7367777:=by have:=(Ej _ x.hs.tab).2;omega
   have g0:w1.heap[wr.heap.size]?=some (.cells #[.int .i64 x.c.code,.slice A m cap] 31 (0,0)):=by
    rw[hb1.block _ (by rw[bt];omega)]
    exact Array.getElem?_push_size
   have s1:wr.heap.size<w1.heap.size:=by have:=hb1.size;rw[bt]at this;omega
   have d0:∀o,(w1.alloc o).cell? ⟨wr.heap.size,0,none⟩=some (.int .i64 x.c.code):=fun o=>by
    rw[Lib.cell_of_heap (Lib.alloc_old w1 o _ s1 ▸ g0)]
    rfl
   have hid1:=Hid.mk (And.intro hb1 g0)
   clear hb1 g0
   go_wp2_with fail
   refine(qk q (by omega) _).mono ?_
   rintro e w2 ⟨v,rfl,⟨b2,c2,rfl,hc2,hbt2,hge2⟩,hb2⟩
   obtain⟨hb1,g0⟩:=hid1.out
   obtain⟨hown,hnx⟩:=hidw.out
   obtain⟨hx,r1,r4,r5,r6,h,hl,hn⟩:=hid.out
   have n2:=hb2.size
   rw[bt]at n2
   have B12:Below wr.heap.size wr w2:=(((Below.refl _ wr).alloc (Nat.le_refl _) _).trans (hb1.mono (by rw[bt];omega))).trans ((((Below.refl _ w1).alloc (Nat.le_refl _) _).mono (by omega)).trans (hb2.mono (by rw[bt];omega)))
   have own2:=me hown B12 (Nat.le_refl _)
   have g2:w2.heap[wr.heap.size]?=some (.cells #[.int .i64 x.c.code,.slice A m cap] 31 (0,0)):=by
    rw[hb2.block _ (by rw[bt];omega),Lib.alloc_old w1 _ _ s1]
    exact g0
   have p2:∃cs,cs[2]?=some (Value.int .i64 (an (q:Int)).size)/\w2.heap[w1.heap.size]?=some (.cells cs 34 (0,0)):=
    ⟨_,rfl,by rw[hb2.block _ (by rw[bt];omega)];exact Array.getElem?_push_size⟩
   have hle:=cB l (k+1)
   rw[cU hx,jO,hq,Int.toNat_natCast]at hle
   simp only[List.length_append]at hle
   have hms:m=x.c.val.length:=r4.1
   obtain⟨cs,hcs,gp⟩:=p2
   have hz2':w.heap.size<=w2.heap.size:=by omega
   have B02:Below w.heap.size w w2:=hnx.trans (B12.mono hz)
   have hidn:=Hid.mk (And.intro hl (And.intro hle (And.intro hms hz2')))
   have hid2:=Hid.mk (And.intro hbt2 (And.intro B02 (And.intro g2 (And.intro hcs (And.intro gp (And.intro own2 (And.intro h (And.intro hx r4))))))))
   have o2:=Hid.mk own2
   have hm48:(m:Int)<2^48:=by rw[hms];exact r5
   clear hb2 hb1 g0 hown hnx hx r1 r4 r5 r6 h hl hn n2 B12 B02 g2 hcs gp hle own2 hbt2 hms d0 hge2 hc2 hz2'
   go_wp2_with (at_builtin;refine wpList_append_own _ rfl _ _ 22 rfl w.heap.size 5 i0 (.int .u8 0) 1 1 Tryz.underlying22 hi hz0 hz1 hz2 rfl (by decide) _ _ _ rfl o2.out ⟨b2,0,none⟩ (uv q).length c2 (ey (uv q)) rfl ?c1 ?c2 ?c3 ?c4 ?c5 ?c6 ?_)
   case c1=>simp[ey]
   case c2=>exact i6 hid2.out.1
   case c3=>exact gX _
   case c4=>obtain⟨hl,hle,hms,hzz⟩:=hidn.out;unfold maxLen;omega
   case c5=>obtain⟨hl,hle,hms,hzz⟩:=hidn.out;omega
   case c6=>obtain⟨hl,hle,hms,hzz⟩:=hidn.out;omega
   intro v3 w3 own3 hgrow3 _
   obtain⟨hbt2,B02,g2,hcs,gp,own2,h,hx,r4⟩:=hid2.out
   have g3:=qt own2 hgrow3 g2 (by decide)
   have p3:=qt own2 hgrow3 gp (by decide)
   have B03:Below w.heap.size w w3:=B02.grown hgrow3 hidn.out.2.2.2 (fun k hk=>(own2.lt k hk).1)
   have d3a:=cellOf p3 hcs
   have d3b:=cellOf (i:=1) g3 rfl
   have own3':=Hid.mk own3
   have hid3:=Hid.mk (And.intro g3 (And.intro B03 (And.intro h (And.intro hx r4))))
   clear hbt2 B02 g2 hcs gp own2 h hx r4 g3 p3 B03 own3 hgrow3 hid2 o2 hid1 hidw hid
   by_cases hs0:(an (q:Int)).size<0
   ·go_wp2_with fail
    refine(qk m (by omega) w3).mono ?_
    rintro e w4 ⟨v,rfl,⟨b4,c4,rfl,hc4,hbt4,hge4⟩,hb4⟩
    obtain⟨g3,B03,h,hx,r4⟩:=hid3.out
    have own4:=me own3'.out hb4 (Nat.le_refl _)
    have g4:w4.heap[wr.heap.size]?=some (.cells #[.int .i64 x.c.code,.slice A m cap] 31 (0,0)):=by
     rw[hb4.block _ (cO g3)]
     exact g3
    have B04:Below w.heap.size w w4:=B03.trans (hb4.mono B03.size)
    have hidm:=Hid.mk (And.intro hidn.out.1 (And.intro hidn.out.2.1 (And.intro hidn.out.2.2.1 B04.size)))
    have o4:=Hid.mk own4
    have hid4:=Hid.mk (And.intro g4 (And.intro B04 (And.intro h (And.intro hx (And.intro hbt4 own4)))))
    clear hb4 own4 g4 B04 g3 B03 h hx r4 hbt4 hge4 hc4 d3a d3b
    go_wp2_with (at_builtin;refine wpList_append_own _ rfl _ _ 22 rfl w.heap.size 5 i0 (.int .u8 0) 1 1 Tryz.underlying22 hi hz0 hz1 hz2 rfl (by decide) _ _ _ rfl o4.out ⟨b4,0,none⟩ (uv m).length c4 (ey (uv m)) rfl ?c1 ?c2 ?c3 ?c4 ?c5 ?c6 ?_)
    case c1=>simp[ey]
    case c2=>exact i6 hid4.out.2.2.2.2.1
    case c3=>exact gX _
    case c4=>obtain⟨hl,hle,hms,hzz⟩:=hidm.out;unfold maxLen;rw[if_pos hs0]at hle;rw[<- hms]at hle;omega
    case c5=>obtain⟨hl,hle,hms,hzz⟩:=hidm.out;rw[if_pos hs0]at hle;rw[<- hms]at hle;omega
    case c6=>obtain⟨hl,hle,hms,hzz⟩:=hidm.out;rw[if_pos hs0]at hle;rw[<- hms]at hle;omega
    intro v5 w5 own5 hgrow5 _
    obtain⟨g4,B04,h,hx,hbt4,own4⟩:=hid4.out
    have g5:=qt own4 hgrow5 g4 (by decide)
    have d5b:=cellOf (i:=1) g5 rfl
    have B05:Below w.heap.size w w5:=B04.grown hgrow5 hidm.out.2.2.2 (fun k hk=>(own4.lt k hk).1)
    have own5':=Hid.mk own5
    have hid5:=Hid.mk (And.intro B05 (And.intro h hx))
    clear g4 B04 h hx hbt4 own4 g5 B05 own5 hgrow5 hid4 o4 hid3 own3'
    have hidv:=Hid.mk (And.intro (hidA.out.2.below (hid5.out.1.mono hB) (Nat.le_refl _)) hidA.out.1)
    have hidw:=Hid.mk (And.intro own5'.out hid5.out.1)
    go_wp2_with (at_builtin;refine jA rfl _ _ 22 rfl w.heap.size 5 i0 (.int .u8 0) Tryz.underlying22 hi hz0 hz1 hz2 rfl _ _ _ rfl own5'.out A m cap _ x.c.val rfl hidv.out ?c5 ?c6 ?_)
    case c5=>obtain⟨hl,hle,hms,hzz⟩:=hidm.out;rw[if_pos hs0]at hle;rw[<- hms]at hle;omega
    case c6=>obtain⟨hl,hle,hms,hzz⟩:=hidm.out;have:=hid5.out.1.size;omega
    intro v6 w6 own6 hgrow6
    have own6':=Hid.mk own6
    have hg6:=Hid.mk hgrow6
    clear own6 hgrow6
    go_wp2
    go_roundw
    case rel=>exact Rel8.next hid5.out.2.2 hlt own6'.out (by rw[<- OK (aj (l.take k)) hq hs0,<- hidn.out.2.2.1];simp only[List.append_assoc]) (hid5.out.1.grown hg6.out hid5.out.1.size (fun k hk=>(hidw.out.1.lt k hk).1))
    case measure=>exact qm hki
   ·have o3:=own3'
    have hid5:=Hid.mk (And.intro hid3.out.2.1 hid3.out.2.2.2.1)
    clear own3'
    have hidv:=Hid.mk (And.intro (hidA.out.2.below (hid5.out.1.mono hB) (Nat.le_refl _)) hidA.out.1)
    have hidw:=Hid.mk (And.intro o3.out hid5.out.1)
    go_wp2_with (at_builtin;refine jA rfl _ _ 22 rfl w.heap.size 5 i0 (.int .u8 0) Tryz.underlying22 hi hz0 hz1 hz2 rfl _ _ _ rfl o3.out A m cap _ x.c.val rfl hidv.out ?c5 ?c6 ?_)
    case c5=>obtain⟨hl,hle,hms,hzz⟩:=hidn.out;rw[if_neg (by omega)]at hle;rw[<- hms]at hle;simp at hle;omega
    case c6=>obtain⟨hl,hle,hms,hzz⟩:=hidn.out;have:=hid5.out.1.size;omega
    intro v6 w6 own6 hgrow6
    have own6':=Hid.mk own6
    have hg6:=Hid.mk hgrow6
    clear own6 hgrow6
    go_wp2
    go_roundw
    case rel=>exact Rel8.next hid5.out.2 hlt own6'.out (by rw[<- OL (aj (l.take k)) hq (by omega)];simp only[List.append_assoc]) (hid5.out.1.grown hg6.out hid5.out.1.size (fun k hk=>(hidw.out.1.lt k hk).1))
    case measure=>exact qm hki
  ·have hki:¬(k:Int)<n:=by omega
   have hf:=JR (show n<=k by omega) h.1 hown
   have hid:=Hid.mk (And.intro hf hnx)
   clear hf h hl hn hown hnx
   go_wp2
   go_ret
   exact⟨_,rfl,hid.out.1,hid.out.2⟩
end
section
open Go Go.Rx Go.RowKit
def OkL:List CT->Prop
 |[]=>True
 |x :: l=>((an x.c.code).path=true->l=[])/\OkL l
def Bh(x:CT):List (List UInt8):=sU x.c.code x.txt
def aP(l:List CT):List (List UInt8):=l.flatMap Bh
theorem gV(x:CT)(l:List CT):aR (x :: l)=cW x.c.code x.txt++aR l:=rfl
theorem dD(x:CT)(l:List CT):aP (x :: l)=Bh x++aP l:=rfl
theorem mS:∀(l:List CT),OkL l->l≠[]->∃r,aR l=47 :: r/\b7 r=aP l
 |[],_,h=>absurd rfl h
 |x :: l,hok,_=>by
  obtain⟨hp,hl⟩:=hok
  have hnm:=(ou _ x.hs.tab).1
  rw[gV,dD]
  rcases x.hs.facts with⟨ht,hs,hpa,hc⟩ |⟨ht,hs,hpa,hc⟩ |⟨r,ht,hs,hpa,hpt,hc⟩
  ·have hcp:Bh x=[(an x.c.code).name]:=by
    unfold Bh sU
    rw[if_pos hs]
   rw[hc,hcp]
   refine⟨(an x.c.code).name++aR l,rfl,?_⟩
   by_cases h0:l=[]
   ·subst h0
    show b7 ((an x.c.code).name++[])=[_]++[]
    rw[List.append_nil,g7 hnm]
    rfl
   ·obtain⟨r',hr',hcr⟩:=mS l hl h0
    rw[hr',gM r' hnm,hcr]
    rfl
  ·have hpl:=x.hs.plain hpa
   have hcp:Bh x=[(an x.c.code).name,x.txt]:=by
    unfold Bh sU
    rw[if_neg hs,hpa]
    rfl
   rw[hc,hcp]
   refine⟨(an x.c.code).name++47 :: (x.txt++aR l),by simp,?_⟩
   rw[gM _ hnm]
   by_cases h0:l=[]
   ·subst h0
    show _ :: b7 (x.txt++[])=_
    rw[List.append_nil,g7 hpl]
    rfl
   ·obtain⟨r',hr',hcr⟩:=mS l hl h0
    rw[hr',gM r' hpl,hcr]
    rfl
  ·have h0:=hp hpa
   subst h0
   have hcp:Bh x=(an x.c.code).name :: b7 r:=by
    unfold Bh sU
    rw[if_neg hs,hpa,ht]
    rfl
   rw[hc,hcp]
   refine⟨(an x.c.code).name++47 :: r,by rw[ht];simp[aR],?_⟩
   rw[gM _ hnm]
   simp[aP]
theorem E9(l:List CT)(hok:OkL l)(h:l≠[]):b7 (aR l)=[] :: aP l:=by
 obtain⟨r,hr,hc⟩:=mS l hok h
 rw[hr,pV,hc]
theorem sk:∀ {l:List CT},l≠[]->aP l≠[]
 |[],h=>absurd rfl h
 |x :: l,_=>by simp[dD,Bh,sU]
theorem pE:∀(l:List CT),OkL l->l≠[]->∃u x,aR l=u++[x]/\x≠47
 |[],_,h=>absurd rfl h
 |x :: l,hok,_=>by
  obtain⟨hp,hl⟩:=hok
  by_cases h0:l=[]
  ·subst h0
   have last:∀ {a:List UInt8},a≠[]->(∀y∈a,y≠47)->∀pre:List UInt8,∃u z,pre++a=u++[z]/\z≠47:=fun{a} ha hpl pre=>
    ⟨pre++a.dropLast,a.getLast ha,by rw[List.append_assoc,List.dropLast_concat_getLast],hpl _ (List.getLast_mem ha)⟩
   have hnm:=ou _ x.hs.tab
   rw[gV,show aR []=[] from rfl,List.append_nil]
   rcases x.hs.facts with⟨ht,hs,hpa,hc⟩ |⟨ht,hs,hpa,hc⟩ |⟨r,ht,hs,hpa,hpt,hc⟩
   ·rw[hc]
    exact last hnm.2 hnm.1 [47]
   ·rw[hc]
    obtain⟨u,z,h1,h2⟩:=last ht (x.hs.plain hpa) (47 :: ((an x.c.code).name++[47]))
    exact⟨u,z,by rw[<- h1];simp,h2⟩
   ·rw[hc]
    obtain⟨h2,_,h4⟩:=hpt
    have hne:x.txt≠[]:=by rw[ht];simp
    refine⟨47 :: ((an x.c.code).name++x.txt.dropLast),x.txt.getLast hne,by simp[List.dropLast_concat_getLast],?_⟩
    rw[List.getD_eq_getElem?_getD,<- List.getLast?_eq_getElem?,List.getLast?_eq_some_getLast hne]at h4
    exact h4
  ·obtain⟨u,z,h1,h2⟩:=pE l hl h0
   exact⟨cW x.c.code x.txt++u,z,by rw[gV,h1,List.append_assoc],h2⟩
theorem Simple.val_pos{k:Int}{val txt:List UInt8}(hs:Simple k val txt)(h:(an k).size≠0):0<val.length:=by
 cases hs with
 |N hk hz=>exact absurd hz h
 |P=>simp
 |F=>simp
 |S _ _ _ _ l hl=>omega
 |C=>simp
 |M=>simp
 |D _ _ _ _ _ hn=>exact List.length_pos_iff.2 hn.1
 |Z _ _ _ _ _ hn=>exact List.length_pos_iff.2 hn.1
 |U _ _ _ _ _ hn=>
  obtain⟨r,hr⟩:=hn.head
  rw[hr]
  simp
theorem Simple.pathU{k:Int}{val txt:List UInt8}(hs:Simple k val txt)(hp:(an k).path=true):txt=val/\∃r,txt=47 :: r:=by
 cases hs with
 |U _ _ _ _ _ hn=>exact⟨rfl,hn.head⟩
 |N _ _ h=>rw[h]at hp;cases hp
 |P _ _ h=>rw[h]at hp;cases hp
 |F _ _ h=>rw[h]at hp;cases hp
 |S _ _ h=>rw[h]at hp;cases hp
 |C _ _ h=>rw[h]at hp;cases hp
 |M _ _ h=>rw[h]at hp;cases hp
 |D _ _ h=>rw[h]at hp;cases hp
 |Z _ _ h=>rw[h]at hp;cases hp
theorem OkL.last:∀ {done rs:List CT}{x:CT},OkL (done++x :: rs)->(an x.c.code).path=true->rs=[]
 |[],_,_,h,hp=>h.1 hp
 |_ :: done,_,_,h,hp=>OkL.last (done:=done) h.2 hp
theorem Simple.cls{k:Int}{val txt:List UInt8}(hs:Simple k val txt):((an k).size=0/\(an k).tr=.nilIface/\val=[]/\txt=[])∨(an k).size≠0:=by
 cases hs with
 |N hk hz hp htr=>exact .inl ⟨hz,(htr id).symm,rfl,rfl⟩
 |P hk hz=>exact .inr (by omega)
 |F hk hz=>exact .inr (by omega)
 |S hk hz=>exact .inr (by omega)
 |C hk hz=>exact .inr (by omega)
 |M hk hz=>exact .inr (by omega)
 |D hk hz=>exact .inr (by omega)
 |Z hk hz=>exact .inr (by omega)
 |U hk hz=>exact .inr (by omega)
end
section
open Go Go.Rx Go.RowKit
structure RCv where
 k:Nat
 n:Nat
@[reducible] def eo:Hook:={ X:=RCv,out:=fun _ s x=>(.tup [.int .i64 x.k false,.int .i64 x.n false,.one .nilIface rfl],s.objs) }
@[reducible] def pG:Hook:={ X:=Addr,out:=fun _ s x=>(.xp x,s.objs) }
@[reducible] def jX:Hook:={ X:=Unit,out:=fun _ s _=>(.one .nilIface rfl,s.objs) }
def Kd:Hooks:={ calls:=fun f=>if f=96 then some eo else if f=67 then some ba else if f=85 then some pG else if f=91 then some jX else none,loops:=fun _ _=>none }
noncomputable abbrev fN(x1:(Hook.X (ba)))(x0:(Hook.X (eo))):SObj:=(.cells [(.str x1.name false),(.int .i64 ((↑x0.k:Int)) false),(.xs x1.A x1.n x1.c),(.int .i64 x1.size false),(.bool x1.path false),(.one (x1.tr).1 (x1.tr).2)] 6 88 0 0)
noncomputable abbrev fO(x0:(Hook.X (eo))):Int:=(i64.wrap ((0:Int)+(↑x0.n:Int)))
noncomputable abbrev nr(x0 x3:(Hook.X (eo))):Int:=(i64.wrap ((0:Int)+(↑x0.n:Int))+(↑x3.n:Int))
noncomputable abbrev nt(x0:(Hook.X (eo)))(x1:(Hook.X (ba))):Int:=(i64.wrap ((0:Int)+(↑x0.n:Int))+i64.wrap (x1.size.tdiv (8:Int)))
noncomputable abbrev EG:ByteArray:=(ByteArray.mk #[105,110,118,97,108,105,100,32,118,97,108,117,101,32,102,111,114,32,115,105,122,101])
noncomputable abbrev zi:SV:=(.tup [(.int .i64 0 true),(.one (.pointer none) rfl),(.ifc 105 (.ptr 1 0))])
noncomputable abbrev uI(x0:(Hook.X (eo)))(c:Nat):Prop:=((0:Int)<=i64.wrap ((0:Int)+(↑x0.n:Int))/\i64.wrap ((0:Int)+(↑x0.n:Int))<=(↑c:Int))
noncomputable abbrev ko(x0 x3:(Hook.X (eo))):Int:=(i64.wrap (nr x0 x3)+(↑x3.k:Int))
noncomputable abbrev zj(w3:World)(c:Nat)(A:Option Addr)(x0 x3:(Hook.X (eo)))(x2:(Hook.X (pG))):SObj:=(.cells [(.str (bytesAt w3 (if c=0 then A else Option.map (fun x=>x.add 0) A) ((i64.wrap (ko x0 x3)).toNat-0)) false),(.xp x2),(.int .i64 (i64.wrap (nr x0 x3)) false)] 3 64 0 0)
noncomputable abbrev zk(w2:World)(c:Nat)(A:Option Addr)(x0:(Hook.X (eo)))(x1:(Hook.X (ba)))(x2:(Hook.X (pG))):SObj:=(.cells [(.str (bytesAt w2 (if c=0 then A else Option.map (fun x=>x.add 0) A) ((i64.wrap (nt x0 x1)).toNat-0)) false),(.xp x2),(.int .i64 (fO x0) false)] 3 64 0 0)
noncomputable abbrev uH(w2:World)(c:Nat)(A:Option Addr)(x0:(Hook.X (eo)))(x2:(Hook.X (pG))):SObj:=(.cells [(.str (bytesAt w2 (if c=0 then A else Option.map (fun x=>x.add 0) A) ((fO x0).toNat-0)) false),(.xp x2),(.int .i64 (fO x0) false)] 3 64 0 0)
noncomputable abbrev mE(x1:(Hook.X (ba)))(x0:(Hook.X (eo)))(w3:World)(b3:List Nat):T:=(.leaf .ret [zi] (SS.mk [(fN x1 x0),(.cells [(.str EG true)] 1 107 0 0)] [] true w3 b3))
theorem LQ(A:Option Addr)(n c:Nat)(w:World):am Tryz.prog Kd 1000 83 [.xs A n c] (SS.mk [] [] true w []) =
(.hc 96 [(.xs A n c)] (SS.mk [] [] true w []) (eo) fun x0 w0 b0=>(.hc 67 [(.int .i64 ((↑x0.k:Int)) false)] (SS.mk [] [] true w0 b0) (ba) fun x1 w1 b1=>(.split ((↑x0.k:Int) == (0:Int)) (.leaf .ret [zi] (SS.mk [(fN x1 x0),(.cells [(.str (ByteArray.mk #[110,111,32,112,114,111,116,111,99,111,108,32,119,105,116,104,32,99,111,100,101]) true)] 1 107 0 0)] [] true w1 b1)) (.hc 85 [(.int .i64 ((↑x0.k:Int)) false)] (SS.mk [(fN x1 x0)] [] true w1 b1) (pG) fun x2 w2 b2=>(.split (x1.size == (0:Int)) (.need (uI x0 c) (.need (canBytes w2 b2 (if c=0 then A else Option.map (fun x=>x.add 0) A) ((fO x0).toNat-0)) (.hc 91 [(.ptr 1 0)] (SS.mk [(fN x1 x0),(uH w2 c A x0 x2)] [] true w2 b2) (jX) fun x3 w3 b3=>(.leaf .ret [(.tup [(.int .i64 (fO x0) false),(.ptr 1 0),(.one .nilIface rfl)])] (SS.mk [(fN x1 x0),(uH w2 c A x0 x2)] [] true w3 b3))))) (.split (decide (x1.size<(0:Int))) (.need (uI x0 n) (.hc 96 [(.xs (if c=(fO x0).toNat then A else Option.map (fun x=>x.add ((fO x0).toNat*1)) A) (n-(fO x0).toNat) (c-(fO x0).toNat))] (SS.mk [(fN x1 x0)] [] true w2 b2) (eo) fun x3 w3 b3=>(.need ((0:Int)<=i64.wrap (nr x0 x3)/\i64.wrap (nr x0 x3)<=(↑n:Int)) (.split (decide ((↑(n-(i64.wrap (nr x0 x3)).toNat):Int)<(↑x3.k:Int))) (mE x1 x0 w3 b3) (.split (decide ((↑x3.k:Int)<=(0:Int))) (mE x1 x0 w3 b3) (.need ((0:Int)<=i64.wrap (ko x0 x3)/\i64.wrap (ko x0 x3)<=(↑c:Int)) (.need (canBytes w3 b3 (if c=0 then A else Option.map (fun x=>x.add 0) A) ((i64.wrap (ko x0 x3)).toNat-0)) (.hc 91 [(.ptr 1 0)] (SS.mk [(fN x1 x0),(zj w3 c A x0 x3 x2)] [] true w3 b3) (jX) fun x4 w4 b4=>(.leaf .ret [(.tup [(.int .i64 (i64.wrap (ko x0 x3)) false),(.ptr 1 0),(.one .nilIface rfl)])] (SS.mk [(fN x1 x0),(zj w3 c A x0 x3 x2)] [] true w4 b4)))))))))) (.need (uI x0 n) (.split (decide ((↑(n-(fO x0).toNat):Int)<i64.wrap (x1.size.tdiv (8:Int)))) (mE x1 x0 w2 b2) (.split (decide (i64.wrap (x1.size.tdiv (8:Int))<=(0:Int))) (mE x1 x0 w2 b2) (.need ((0:Int)<=i64.wrap (nt x0 x1)/\i64.wrap (nt x0 x1)<=(↑c:Int)) (.need (canBytes w2 b2 (if c=0 then A else Option.map (fun x=>x.add 0) A) ((i64.wrap (nt x0 x1)).toNat-0)) (.hc 91 [(.ptr 1 0)] (SS.mk [(fN x1 x0),(zk w2 c A x0 x1 x2)] [] true w2 b2) (jX) fun x3 w3 b3=>(.leaf .ret [(.tup [(.int .i64 (i64.wrap (nt x0 x1)) false),(.ptr 1 0),(.one .nilIface rfl)])] (SS.mk [(fN x1 x0),(zk w2 c A x0 x1 x2)] [] true w3 b3)))))))))))))):=by kernel_rfl
theorem Qu(A:Option Addr)(n c:Nat)(w:World):(by have h:=LQ A n c w;unfold mE uH zk zj ko uI zi EG nt nr fO fN at h;exact type_of% h):=LQ A n c w
theorem Bts.pre{w:World}{B n:Nat}{A:Option Addr}{P R:List UInt8}(h:Bts w B A n (P++R)):Bts w B A P.length P:=by
 have hl:=h.1
 rw[List.length_append]at hl
 refine⟨rfl,fun h0=>?_⟩
 obtain⟨a,ha,hb,hx⟩:=h.2 (by omega)
 exact⟨a,ha,hb,fun i y hi=>hx i y (by rw[List.getElem?_append_left (List.getElem?_eq_some_iff.1 hi).1];exact hi)⟩
theorem Bts.suf{w:World}{B n c m:Nat}{A:Option Addr}{P R:List UInt8}(h:Bts w B A n (P++R))(hm:m=P.length)(hc:n<=c):Bts w B (if c=m then A else A.map (fun x=>x.add (m*1))) (n-m) R:=by
 have hl:=h.1
 rw[List.length_append]at hl
 refine⟨by omega,fun h0=>?_⟩
 obtain⟨a,ha,hb,hx⟩:=h.2 (by omega)
 subst ha
 rw[if_neg (by omega)]
 refine⟨a.add (m*1),rfl,by rw[aD];exact hb,fun i y hi=>?_⟩
 rw[add_add]
 have:=hx (m+i) y (by rw[List.getElem?_append_right (by omega)];rw[hm];simpa using hi)
 have e:m*1+i*1=(m+i)*1:=by omega
 rw[e]
 exact this
theorem H3(A:Option Addr)(c:Nat):(if c=(0:Nat) then A else Option.map (fun x=>x.add (0:Nat)) A)=A:=by
 split
 ·rfl
 ·cases A <;> rfl
def N2(x:CT)(w:World)(v:Value)(w':World):Prop:=∃p,v=.tuple #[.int .i64 ((aZ x).length:Int),.pointer (some ⟨p,0,none⟩),.nilIface]/\CN w p x.c.code x.c.val w'
theorem Simple.fixLen{k:Int}{val txt:List UInt8}(hs:Simple k val txt)(h:0<(an k).size):i64.wrap ((an k).size.tdiv 8)=(val.length:Int):=by
 cases hs with
 |N _ hz=>omega
 |P _ hz=>rw[hz];rfl
 |F _ hz=>rw[hz];rfl
 |S _ hz _ _ l hl=>rw[hz,hl];rfl
 |C _ hz=>rw[hz];rfl
 |M _ hz=>rw[hz];rfl
 |D _ hz=>omega
 |Z _ hz=>omega
 |U _ hz=>omega
theorem qw(x:CT)(rest:List UInt8)(A:Option Addr)(n c B:Nat)(w:World)(h:Bts w B A n (aZ x++rest))(hB:B<=w.heap.size)(hc:n<=c)(hn:(n:Int)<2^46)(hl:x.c.val.length<=2147483647)(ht:Tens w) :
  Calls Tryz.prog 83 #[.slice A n c] w (bF (N2 x w) w):=by
 have hk:=x.hs.tab
 have hs:=x.hs
 have hcbe:=jO x
 have hhd:aZ x=cg x.c.code x.c.val++x.c.val:=rfl
 have hnl:=h.1
 rw[List.length_append]at hnl
 obtain⟨kn,hkn⟩:∃kn,kn=x.c.code.toNat:=⟨_,rfl⟩
 have hkk:((kn:Nat):Int)=x.c.code:=by rw[hkn];exact Int.toNat_of_nonneg (su _ hk)
 have hk2:kn<=7367777:=by have:=(Ej _ hk).2;omega
 rw[<- hkn]at hcbe
 have hul:=jw 9 kn (by omega)
 refine aH (hk:=Kd) (n:=1000) (args:=[.xs A n c]) ⟨trivial,trivial⟩ ?_
 refine ah (Qu A n c w) ?_
 refine dJ (R:=fun(y:RCv) _ _=>y=⟨kn,(uv kn).length⟩) (Fine.start w _) (fun y=>⟨rfl,trivial,trivial,trivial,trivial⟩) (fun β w0 hst ho hb=>?_) ?_
 ·have h0:=h.below (hb.mono hB) (Nat.le_refl _)
  rw[hcbe,List.append_assoc,List.append_assoc]at h0
  refine(fG A n c kn _ B w0 h0 (Nat.le_trans hB hb.size) (by omega)).mono ?_
  rintro e w' ⟨v,rfl,rfl,hb'⟩
  exact⟨⟨kn,_⟩,rfl,hb',rfl⟩
 rintro y wA w0 b0 hbA rfl hbA0 hb0 hbs0
 dsimp only
 rw[hkk]
 refine pg (Fine.mk' hb0 fun b hb=>(hbs0 b hb).1) rfl (fun w1 _=>AE _ hk w1) (fun p w1 w2 b2 hx hfr hbt hb01 hb12 hb2 hbs2=>?_)
 refine af (fun h0=>?_) (fun _=>?_)
 ·have h0':x.c.code=0:=by simpa using h0
  rw[h0']at hk
  exact absurd hk (by decide)
 refine dJ (w:=w) (R:=fun(p:Addr) wc w'=>∃b,p=⟨b,0,none⟩/\ProtN wc b x.c.code w') (Fine.mk' hb2 fun b hb=>(hbs2 b hb).1) (fun y=>⟨rfl,trivial⟩) (fun β wc hst ho hb=>?_) ?_
 ·refine(GS _ hk wc).mono ?_
  rintro e w' ⟨v,rfl,⟨b,rfl,h1⟩,hb'⟩
  exact⟨⟨b,0,none⟩,rfl,hb',b,rfl,h1⟩
 rintro pp wc w3 b3 hbc ⟨bq,rfl,hP⟩ hbc3 hb3 hbs3
 have wk:∀ {w':World},Keep b3 w3 w'->Below w.heap.size w w':=fun hk=>hk.below hb3 (Nat.le_refl _) fun i hi=>(hbs3 i hi).1
 have fin:∀ {w4:World}{b4:List Nat}{S:ByteArray}{N off:Int}{o0:SObj},Keep b3 w3 w4->(∀i∈b4,i∈b3∨w3.heap.size<=i)->S=⟨(cg x.c.code x.c.val++x.c.val).toArray⟩->off=((cg x.c.code x.c.val).length:Int)->N=((aZ x).length:Int) ->
   (T.call 91 [.ptr 1 0] (SS.mk [o0,.cells [.str S false,.xp ⟨bq,0,none⟩,.int .i64 off false] 3 64 0 0] [] true w4 b4) (Hook.X jX) (Hook.out jX [.ptr 1 0] (SS.mk [o0,.cells [.str S false,.xp ⟨bq,0,none⟩,.int .i64 off false] 3 64 0 0] [] true w4 b4)) fun _ w5 b5=>
    (T.leaf .ret [.tup [.int .i64 N false,.ptr 1 0,.one .nilIface rfl]] (SS.mk [o0,.cells [.str S false,.xp ⟨bq,0,none⟩,.int .i64 off false] 3 64 0 0] [] true w5 b5))).holds (cS Tryz.prog (bC fun v w'=>N2 x w v w'/\Below w.heap.size w w')):=by
  rintro w4 b4 S N off o0 hk34 hbs4 rfl rfl rfl
  refine dI (w:=w3) (bs:=b3) (R:=fun(_:Unit) _ _=>True) ⟨rfl,hk34,hbs4⟩ (fun y=>⟨rfl,trivial⟩) (fun β wd hst ho hkc=>?_) ?_
  ·have hPw:=hP.keep hkc fun i hi=>.inl (hbs3 i hi).2
   refine(FN hs hl (E8 (hst.at_ 1 _ rfl) (hst.lt 1 (by simp[SS.n])) hPw) (Nat.le_refl _) (ht.below (wk hkc) ht.lt)).mono ?_
   rintro e w' ⟨rfl,hb'⟩
   exact⟨(),rfl,hb',trivial⟩
  rintro _ wd w5 b5 hkd _ hbd5 hk35 hbs5
  refine aM (w:=w3) (bs:=b3) ⟨rfl,hk35,fun i hi=>(hbs5 i hi).1⟩ fun β w6 hst hk36=>⟨_,rfl,⟨β 1,rfl,?_,hst.lt 1 (by simp[SS.n]),bq,yh (hst.at_ 1 _ rfl),(hP.keep hk36 fun i hi=>.inl (hbs3 i hi).2).from hbc.size⟩,wk hk36⟩
  have:=hb3.size
  rcases(hst.old rfl).pos (i:=1) (by simp[SS.n]) with hm |hm
  ·rcases(hbs5 _ hm).1 with h |h
   ·exact(hbs3 _ h).1
   ·omega
  ·have:=hk35.size
   have hm':w5.heap.size<=β 1:=hm
   omega
 rw[hx.size]
 have hu1:i64.wrap ((0:Int)+((uv kn).length:Int))=((uv kn).length:Int):=by rw[ax (by omega) (by omega)];omega
 have h3:∀ {w':World},Keep b3 w3 w'->Bts w' B A n (aZ x++rest):=fun hk'=>h.below ((wk hk').mono hB) (Nat.le_refl _)
 have can:∀ {w':World}{bs:List Nat}{P R:List UInt8},Keep b3 w3 w'->(∀i∈bs,i∈b3∨w3.heap.size<=i)->aZ x++rest=P++R->canBytes w' bs A P.length/\bytesAt w' A P.length=⟨P.toArray⟩:=fun{w'} {bs} {P} {R} hk' hbs' he=>by
  have hb':=wk hk'
  have hbp:=h3 hk'
  rw[he]at hbp
  refine⟨(Bts.pre hbp).canBytes (Nat.le_trans hB hb'.size) fun i hi=>?_,(Bts.pre hbp).bytesAt⟩
  have:=hb3.size
  rcases hbs' i hi with h |h
  ·exact Nat.le_trans hB (hbs3 i h).1
  ·omega
 have hhl:cg x.c.code x.c.val=uv kn++(if(an x.c.code).size<0 then uv x.c.val.length else[]):=by
  unfold cg
  rw[qL _ hk,<- hkn]
 simp only[hu1,H3,Nat.sub_zero,Int.toNat_natCast]
 have r33:=Keep.refl b3 w3
 have i33:∀i∈b3,i∈b3∨w3.heap.size<=i:=fun i hi=>.inl hi
 have hcl:(aZ x).length=(cg x.c.code x.c.val).length+x.c.val.length:=by rw[hhd,List.length_append]
 refine af (fun hz=>?_) (fun hz=>ak (fun hneg=>?_) (fun hneg=>?_))
 ·have hz':(an x.c.code).size=0:=by simpa using hz
  have hv0:x.c.val=[]:=by
   rcases x.hs.cls with⟨_,_,h,_⟩ |h
   ·exact h
   ·exact absurd hz' h
  have hcu:aZ x=uv kn:=by rw[hcbe,if_neg (by omega),hv0];simp
  have hhu:cg x.c.code x.c.val=uv kn:=by rw[hhl,if_neg (by omega),List.append_nil]
  have hlu:(aZ x).length=(uv kn).length:=by rw[hcu]
  obtain⟨c1,c2⟩:=can (P:=uv kn) (R:=rest) r33 i33 (by rw[hcu])
  rw[c2]
  refine aa ⟨by omega,by omega⟩ (aa c1 ?_)
  exact fin r33 i33 (by rw[hhu,hv0];simp) (by rw[hhu]) (by rw[hlu])
 ·have hlen2:=jw 9 x.c.val.length (by omega)
  rw[if_pos hneg]at hhl hcbe
  have hhlen:(cg x.c.code x.c.val).length=(uv kn).length+(uv x.c.val.length).length:=by rw[hhl,List.length_append]
  refine aa ⟨by omega,by omega⟩ ?_
  refine dI (w:=w3) (bs:=b3) (R:=fun(y:RCv) _ _=>y=⟨x.c.val.length,(uv x.c.val.length).length⟩) ⟨rfl,r33,i33⟩ (fun y=>⟨rfl,trivial,trivial,trivial,trivial⟩) (fun β wd hst ho hkd=>?_) ?_
  ·have hb':=h3 hkd
   rw[hcbe,List.append_assoc,List.append_assoc]at hb'
   have hsf:=Bts.suf hb' rfl hc
   refine(fG _ (n-(uv kn).length) (c-(uv kn).length) x.c.val.length (x.c.val++rest) B wd hsf (Nat.le_trans hB (wk hkd).size) (by omega)).mono ?_
   rintro e w' ⟨v,rfl,rfl,hb'⟩
   exact⟨⟨_,_⟩,rfl,hb',rfl⟩
  rintro y wd w4 b4 hkd rfl hbd4 hk34 hbs4
  have i34:∀i∈b4,i∈b3∨w3.heap.size<=i:=fun i hi=>(hbs4 i hi).1
  have hv0:=x.hs.val_pos (by omega)
  dsimp only
  have hu2:i64.wrap (((uv kn).length:Int)+((uv x.c.val.length).length:Int))=(((uv kn).length+(uv x.c.val.length).length:Nat):Int):=by rw[ax (by omega) (by omega)];omega
  have hu3:i64.wrap ((((uv kn).length+(uv x.c.val.length).length:Nat):Int)+(x.c.val.length:Int))=((aZ x).length:Int):=by rw[ax (by omega) (by omega)];omega
  simp only[hu2,hu3,Int.toNat_natCast]
  obtain⟨c1,c2⟩:=can (P:=aZ x) (R:=rest) hk34 i34 rfl
  rw[c2]
  refine aa ⟨by omega,by omega⟩ (ak (fun h=>absurd h (by omega)) (fun _=>ak (fun h=>absurd h (by omega)) (fun _=>aa ⟨by omega,by omega⟩ (aa c1 ?_))))
  exact fin hk34 i34 (by rw[hhd]) (by rw[hhlen]) rfl
 ·have hz':(an x.c.code).size≠0:=by simpa using hz
  rw[if_neg hneg,List.append_nil]at hhl
  have hsz:i64.wrap ((an x.c.code).size.tdiv 8)=(x.c.val.length:Int):=x.hs.fixLen (by omega)
  have hv0:=x.hs.val_pos hz'
  have hhlen:(cg x.c.code x.c.val).length=(uv kn).length:=by rw[hhl]
  simp only[hsz]
  have hu3:i64.wrap (((uv kn).length:Int)+(x.c.val.length:Int))=((aZ x).length:Int):=by rw[ax (by omega) (by omega)];omega
  simp only[hu3,Int.toNat_natCast]
  obtain⟨c1,c2⟩:=can (P:=aZ x) (R:=rest) r33 i33 rfl
  rw[c2]
  refine aa ⟨by omega,by omega⟩ (ak (fun h=>absurd h (by omega)) (fun _=>ak (fun h=>absurd h (by omega)) (fun _=>aa ⟨by omega,by omega⟩ (aa c1 ?_))))
  exact fin r33 i33 (by rw[hhd]) (by rw[hhlen]) rfl
end
section
open Go Go.Rx Go.RowKit
structure RMx where
 A:Option Addr
 k:Nat
 c:Nat
 m:Nat
structure RCx where
 m:Nat
 p:Addr
@[reducible] def j0:Hook:={ X:=RCx,out:=fun _ s x=>(.tup [.int .i64 x.m false,.xp x.p,.one .nilIface rfl],s.objs) }
def H0:SE->List Nat
 | .normal=>[5,0,6,7]
 | .exit 0=>[5,6]
 |_=>[]
def Dg:LoopHook:=bK 51 RMx (.exit 0) [5,6] (fun x=>[.xs x.A x.k x.c,.int .i64 x.m false]) Unit .ret [] (fun _=>[])
def Gk:Hooks:={ calls:=fun _=>none,loops:=fun _ _=>some Dg }
def IB:Hooks:={ calls:=fun f=>if f=83 then some j0 else none,loops:=fun _ _=>none }
noncomputable abbrev uJ(A:Option Addr)(n c:Nat):List SV:=([(.xs A n c),(.tup []),(.int .i64 0 true),(.one (.slice none 0 0) rfl),(.one .nilIface rfl),(.one (.slice none 0 0) rfl),(.int .i64 0 true),(.bool false true),(.tup []),(.tup []),(.tup []),(.xs A n c),(.int .i64 ((↑n:Int)) false),(.bool false true)]++List.replicate 37 aA)
theorem LR(A:Option Addr)(n c:Nat)(w:World):am Tryz.prog Gk 1000 65 [.xs A n c] (SS.at w) =
(.split ((↑n:Int) == (0:Int)) (.leaf .ret [(.tup [(.int .i64 0 true),(.one (.slice none 0 0) rfl),(.ifc 105 (.ptr 0 0))])] (SS.mk [(.cells [(.str (ByteArray.mk #[101,109,112,116,121,32,109,117,108,116,105,97,100,100,114]) true)] 1 107 0 0)] [] true w [])) (.loop 65 (ar Tryz.prog 65 7) (uJ A n c) (SS.mk [] [] true w []) (LoopHook.X (Dg)) (LoopHook.out (Dg) (uJ A n c) (SS.mk [] [] true w [])) (fun x0 w0 b0=>(.leaf .ret [(.tup [(.int .i64 ((↑x0.fst.m:Int)) false),(.xs x0.fst.A x0.fst.k x0.fst.c),(.one .nilIface rfl)])] (SS.mk [] [] true w0 b0))) (LoopHook.Y (Dg)) (LoopHook.out' (Dg) (uJ A n c) (SS.mk [] [] true w [])) (fun x0 w0 b0=>(.leaf .ret [(.tup [(.raw (x0.snd 2)),(.raw (x0.snd 3)),(.raw (x0.snd 4))])] (SS.mk [] [] true w0 b0))))):=by kernel_rfl
theorem Qv(A:Option Addr)(n c:Nat)(w:World):(by have h:=LR A n c w;unfold uJ at h;exact type_of% h):=LR A n c w
noncomputable abbrev nu(w0:World)(x0:(Hook.X (j0))):List SV:=[(.str (bo w0 (x0.p.add 0)) false),(.xp (ca w0 (x0.p.add 1))),(.int .i64 (ai w0 (x0.p.add 2)) false)]
noncomputable abbrev rg(c:Nat)(x0:(Hook.X (j0)))(A:Option Addr)(n:Nat):SV:=(.xs (if c=(↑x0.m:Int).toNat then A else Option.map (fun x=>x.add ((↑x0.m:Int).toNat*1)) A) (n-(↑x0.m:Int).toNat) (c-(↑x0.m:Int).toNat))
noncomputable abbrev uK:ByteArray:=(ByteArray.mk #[117,110,101,120,112,101,99,116,101,100,32,99,111,109,112,111,110,101,110,116,32,97,102,116,101,114,32,112,97,116,104,32,99,111,109,112,111,110,101,110,116])
noncomputable abbrev lf(w0:World)(x0:(Hook.X (j0))):Bool:=(mO w0 (((ca w0 ((x0.p.add 1).add 0)).add 4).add 0))
theorem KH(A:Option Addr)(n c m:Nat)(sw:Bool)(w:World)(g:Nat->Value):aK Tryz.prog IB 1000 65 (ar Tryz.prog 65 7) (az ((H0 .normal).zip [.one (.slice none 0 0) rfl,.xs A n c,.int .i64 m false,.bool sw false]) g 51 0) (fun e a s=>.leaf e (ep H0 e a) s) (SS.mk [] [] true w []) =
(.split (decide ((↑n:Int) > (0:Int))) (.hc 83 [(.xs A n c)] (SS.mk [] [] true w []) (j0) fun x0 w0 b0=>(.need ((0:Int)<=(↑x0.m:Int)/\(↑x0.m:Int)<=(↑n:Int)) (.split sw (.leaf .ret [] (SS.mk [(.cells [(.str uK true)] 1 107 0 0)] [] true w0 b0)) (.need (canRead w0 b0 (x0.p.add 1) [SV.xp (ca w0 ((x0.p.add 1).add 0))]) (.need (canRead w0 b0 ((ca w0 ((x0.p.add 1).add 0)).add 4) [SV.bool (lf w0 x0) false]) (.need (canRead w0 b0 x0.p [SV.str (bo w0 (x0.p.add 0)) false,SV.xp (ca w0 (x0.p.add 1)),SV.int i64 (ai w0 (x0.p.add 2)) false]) (.need (32<=281474976710656) (.need ((↑(1:Nat):Int)<=i64.max) (.choose (.appendCap 1 0 64) fun c1=>(.leaf .normal [(.slc 1 0 1 c1 true false),(rg c x0 A n),(.int .i64 (i64.wrap ((↑m:Int)+(↑x0.m:Int))) false),(.bool (lf w0 x0) false)] (SS.mk [(.cells (nu w0 x0) 3 64 0 0),(.cells (nu w0 x0) (c1*3) 64 0 0)] [] true w0 b0))))))))))) (.leaf (.exit 0) [(.one (.slice none 0 0) rfl),(.int .i64 ((↑m:Int)) false)] (SS.mk [] [] true w []))):=by kernel_rfl
theorem PC(A:Option Addr)(n c m:Nat)(sw:Bool)(w:World)(g:Nat->Value):(by have h:=KH A n c m sw w g;unfold lf uK rg nu at h;exact type_of% h):=KH A n c m sw w g
theorem Lh(A:Option Addr)(n c m kk cc:Nat)(sw:Bool)(Ls:List Value)(w:World)(bs:List Nat)(g:Nat->Value):aK Tryz.prog IB 1000 65 (ar Tryz.prog 65 7) (az ((H0 .normal).zip [.slc 0 0 kk cc false false,.xs A n c,.int .i64 m false,.bool sw false]) g 51 0) (fun e a s=>.leaf e (ep H0 e a) s) (SS.mk [.vals Ls (cc*3) 64 0 0] [] true w bs) =
(.split (decide ((↑n:Int) > (0:Int))) (.hc 83 [(.xs A n c)] (SS.mk [(.vals Ls (cc*3) 64 0 0)] [] true w bs) (j0) fun x0 w0 b0=>(.need ((0:Int)<=(↑x0.m:Int)/\(↑x0.m:Int)<=(↑n:Int)) (.split sw (.leaf .ret [] (SS.mk [(.vals Ls (cc*3) 64 0 0),(.cells [(.str uK true)] 1 107 0 0)] [] true w0 b0)) (.need (canRead w0 b0 (x0.p.add 1) [SV.xp (ca w0 ((x0.p.add 1).add 0))]) (.need (canRead w0 b0 ((ca w0 ((x0.p.add 1).add 0)).add 4) [SV.bool (lf w0 x0) false]) (.need (canRead w0 b0 x0.p [SV.str (bo w0 (x0.p.add 0)) false,SV.xp (ca w0 (x0.p.add 1)),SV.int i64 (ai w0 (x0.p.add 2)) false]) (.split (decide (kk+1<=cc)) (.need (0+kk*3=Ls.length/\Ls.length+(ae id [SV.str (bo w0 (x0.p.add 0)) false,SV.xp (ca w0 (x0.p.add 1)),SV.int i64 (ai w0 (x0.p.add 2)) false]).length<=cc*3/\ap 0 0 Ls.length (ae id [SV.str (bo w0 (x0.p.add 0)) false,SV.xp (ca w0 (x0.p.add 1)),SV.int i64 (ai w0 (x0.p.add 2)) false]).length=true) (.leaf .normal [(.slc 0 0 (kk+1) cc false false),(rg c x0 A n),(.int .i64 (i64.wrap ((↑m:Int)+(↑x0.m:Int))) false),(.bool (lf w0 x0) false)] (SS.mk [(.vals (Ls++ae id [SV.str (bo w0 (x0.p.add 0)) false,SV.xp (ca w0 (x0.p.add 1)),SV.int i64 (ai w0 (x0.p.add 2)) false]) (cc*3) 64 0 0),(.cells (nu w0 x0) 3 64 0 0)] [] true w0 b0))) (.need (0+kk*3<=Ls.length/\Builtin.nextslicecap (kk+1) cc*32<=281474976710656/\(↑(kk+1):Int)<=i64.max) (.choose (.appendCap (kk+1) cc 64) fun c1=>(.leaf .normal [(.slc 2 0 (kk+1) c1 false false),(rg c x0 A n),(.int .i64 (i64.wrap ((↑m:Int)+(↑x0.m:Int))) false),(.bool (lf w0 x0) false)] (SS.mk [(.vals Ls (cc*3) 64 0 0),(.cells (nu w0 x0) 3 64 0 0),(.vals (List.take (kk*3) (List.drop 0 Ls)++ae id [SV.str (bo w0 (x0.p.add 0)) false,SV.xp (ca w0 (x0.p.add 1)),SV.int i64 (ai w0 (x0.p.add 2)) false]) (c1*3) 64 0 0)] [] true w0 b0))))))))))) (.leaf (.exit 0) [(.slc 0 0 kk cc false false),(.int .i64 ((↑m:Int)) false)] (SS.mk [(.vals Ls (cc*3) 64 0 0)] [] true w bs))):=by kernel_rfl
theorem P5(A:Option Addr)(n c m kk cc:Nat)(sw:Bool)(Ls:List Value)(w:World)(bs:List Nat)(g:Nat->Value):(by have h:=Lh A n c m kk cc sw Ls w bs g;unfold lf uK rg nu at h;exact type_of% h):=Lh A n c m kk cc sw Ls w bs g
def MaX(w:World)(B:Nat)(x:CT)(vs:List Value):Prop:=∃b,vs=[.string ⟨(cg x.c.code x.c.val++x.c.val).toArray⟩,.pointer (some ⟨b,0,none⟩),.int .i64 ((cg x.c.code x.c.val).length:Int)]/\ProtB w B b x.c.code
theorem MaX.lasts:Lasts MaX 3 where
 sub B B' a b' x vs hs hB:=by
  rintro⟨b,h1,h2,A,c,h3,h4,h5⟩
  exact⟨b,h1,by omega,A,c,hs.block _ _ _ _ h2 h3,h4.sub hs hB,h5⟩
 len _ _ _ _:=by
  rintro⟨b,rfl,_⟩
  rfl
 pos:=by omega
theorem ProtN.since{wc w2:World}{b:Nat}{k:Int}(h:ProtN wc b k w2):ProtB (Rx.since wc w2) w2.heap.size b k:=by
 obtain⟨h0,h1,A,c,h2,h3,h4,h5⟩:=h
 exact⟨h1,A,c,(cZ _ _ _ _ _ _).2 ⟨h0,h2⟩,Bts.since h3 h5,h4⟩
theorem CN.reads{wc w2:World}{p:Nat}{k:Int}{val:List UInt8}(h:CN wc p k val w2){bs:List Nat}(hbs:∀i∈bs,i<wc.heap.size):∃b,
  canRead w2 bs ((⟨p,0,none⟩:Addr).add 1) [SV.xp (ca w2 (((⟨p,0,none⟩:Addr).add 1).add 0))]/\ca w2 (((⟨p,0,none⟩:Addr).add 1).add 0)=⟨b,0,none⟩/\ca w2 ((⟨p,0,none⟩:Addr).add 1)=⟨b,0,none⟩ /\
  canRead w2 bs ((⟨b,0,none⟩:Addr).add 4) [SV.bool (mO w2 (((⟨b,0,none⟩:Addr).add 4).add 0)) false]/\mO w2 (((⟨b,0,none⟩:Addr).add 4).add 0)=(an k).path /\
  canRead w2 bs ⟨p,0,none⟩ [SV.str (bo w2 ((⟨p,0,none⟩:Addr).add 0)) false,SV.xp (ca w2 ((⟨p,0,none⟩:Addr).add 1)),SV.int i64 (ai w2 ((⟨p,0,none⟩:Addr).add 2)) false] /\
  bo w2 ((⟨p,0,none⟩:Addr).add 0)=⟨(cg k val++val).toArray⟩/\ai w2 ((⟨p,0,none⟩:Addr).add 2)=((cg k val).length:Int)/\ProtB (Rx.since wc w2) w2.heap.size b k:=by
 obtain⟨h0,h1,b,h2,h3⟩:=h
 have h3s:=h3.since
 obtain⟨q0,q1,A,c,q2,_⟩:=h3
 have c0:w2.cell? ⟨p,0,none⟩=some (.string ⟨(cg k val++val).toArray⟩):=cellOf h2 rfl
 have c1:w2.cell? ⟨p,1,none⟩=some (.pointer (some ⟨b,0,none⟩)):=cellOf h2 rfl
 have c2:w2.cell? ⟨p,2,none⟩=some (.int .i64 ((cg k val).length:Int)):=cellOf h2 rfl
 have c4:w2.cell? ⟨b,4,none⟩=some (.bool (an k).path):=cellOf q2 rfl
 have a0:(⟨p,0,none⟩:Addr).add 0=⟨p,0,none⟩:=rfl
 have a1:(⟨p,0,none⟩:Addr).add 1=⟨p,1,none⟩:=rfl
 have a2:(⟨p,0,none⟩:Addr).add 2=⟨p,2,none⟩:=rfl
 have a4:(⟨b,0,none⟩:Addr).add 4=⟨b,4,none⟩:=rfl
 have np:p ∉ bs:=fun hm=>by have:=hbs _ hm;omega
 have nb:b ∉ bs:=fun hm=>by have:=hbs _ hm;omega
 have e0:bo w2 ⟨p,0,none⟩=⟨(cg k val++val).toArray⟩:=by simp[bo,c0]
 have e1:ca w2 ⟨p,1,none⟩=⟨b,0,none⟩:=by simp[ca,c1]
 have e2:ai w2 ⟨p,2,none⟩=((cg k val).length:Int):=by simp[ai,c2]
 have e4:mO w2 ⟨b,4,none⟩=(an k).path:=by simp[mO,c4]
 refine⟨b,?_⟩
 rw[a0,a1,a2,a4]
 refine⟨cX h1 np (by rw[Rx.add_zero,e1];exact c1),by rw[Rx.add_zero];exact e1,e1,cX q1 nb (by rw[Rx.add_zero,e4];exact c4),by rw[Rx.add_zero];exact e4,⟨h1,np,fun j v hj=>?_⟩,e0,e2,h3s⟩
 match j,hj with
 |0,hj=>simp only[List.getElem?_cons_zero,Option.some.injEq]at hj;subst hj;rw[e0];exact c0
 |1,hj=>simp only[List.getElem?_cons_succ,List.getElem?_cons_zero,Option.some.injEq]at hj;subst hj;rw[e1];exact c1
 |2,hj=>simp only[List.getElem?_cons_succ,List.getElem?_cons_zero,Option.some.injEq]at hj;subst hj;rw[e2];exact c2
 |j+3,hj=>simp at hj
def L9{γ:Type}(R:World->Nat->γ->List Value->Prop)(size:Nat)(l:List γ)(us:List Value)(w0:World)(e:SE)(lv:List Value)(w':World):Prop:=
 e=.exit 0/\∃A k c,lv=.slice A k c :: us/\RowAt R size (Rx.since w0 w') w'.heap.size A k l/\k<=c
section
variable {P:Program}{γ:Type}{R:World->Nat->γ->List Value->Prop}{size:Nat}{et:TypeId}{w0 w1:World}{l:List γ}{n i:Nat}{Ls:List Value}{svs:Nat->List SV}
theorem wS(hR:Lasts R size)(hn:n=l.length)(hi:¬i<n)(h:IR R l n w0 i none [] w1)(hb0:Below w0.heap.size w0 w1){v:SV}(hv:∀β,SV.den β v=.slice none 0 0){ps:List SV}{us:List Value}(hps:∀β,ae β ps=us) :
  (T.leaf (.exit 0) (v :: ps) (SS.mk [] [] true w1 [])).holds (cS P (rA et size svs (fun i=>n-i) (IR R l n w0) (L9 R size l us w0) w0 i)):=by
 have hkf:KFine [] w1 (SS.mk [] [] true w1 []):=⟨rfl,Keep.refl _ _,by simp⟩
 refine aM hkf fun β w' hst hk=>⟨⟨rfl,none,0,0,by simp[ae,hv,hps],?_,Nat.le_refl _⟩,hk.below hb0 (Nat.le_refl _) (by simp)⟩
 have hle:=h.2.len (hR.len _ _)
 have hi':=h.1
 have hz:=hR.pos
 rw[List.length_take]at hle
 simp only[List.length_nil]at hle
 have hl0:l=[]:=by
  refine List.eq_nil_of_length_eq_zero ?_
  have h1:min i l.length=l.length:=by omega
  rw[h1]at hle
  rcases Nat.mul_eq_zero.1 hle.symm with h |h
  ·exact h
  ·omega
 subst hl0
 exact⟨rfl,fun h=>absurd h (Nat.lt_irrefl 0)⟩
theorem wT(hR:Lasts R size)(hn:n=l.length)(hi:¬i<n){b kk cc:Nat}(h:IR R l n w0 i (some ⟨b,0,none⟩) Ls w1)(hb0:Below w0.heap.size w0 w1)(hb1:w0.heap.size<=b)(hLs:Ls.length=kk*size)(hkc:kk<=cc){ps:List SV}{us:List Value}(hps:∀β,ae β ps=us) :
  (T.leaf (.exit 0) (.slc 0 0 kk cc false false :: ps) (SS.mk [.vals Ls (cc*size) et 0 0] [] true w1 [b])).holds { P:=P,β0:=fun _=>b,n0:=1,Q:=rA et size svs (fun i=>n-i) (IR R l n w0) (L9 R size l us w0) w0 i }:=by
 refine aM ⟨rfl,Keep.refl _ _,fun b hb=>.inl hb⟩ fun β' w' hst hk=>⟨⟨rfl,_,kk,cc,by simp only[ae,hps];rfl,?_,hkc⟩,hk.below hb0 (Nat.le_refl _) (by simpa using hb1)⟩
 have hi':=h.1
 have hrow:=h.2
 rw[List.take_of_length_le (by omega)]at hrow
 obtain⟨rest,e2,e3⟩:=hst.at_ 0 _ rfl
 have hb0':β' 0=b:=hst.base 0 (by show 0<1;omega)
 have hacc:AccAt w0 w' et size (some ⟨β' 0,0,none⟩) kk cc Ls:=.inr ⟨β' 0,rfl,by omega,hst.lt 0 (by simp[SS.n]),hLs,hkc,rest,e2,e3⟩
 have hrow':Row (R (Rx.since w0 w') w'.heap.size) l Ls:=hrow.imp fun x vs hx=>hR.sub _ _ _ _ _ _ (sy _ _ _ _) (Nat.le_refl _) (hR.sub _ _ _ _ _ _ (qM (A':=some ⟨b,0,none⟩) hk (fun b' hb'=>by
  simp at hb'
  subst hb'
  exact⟨_,rfl,rfl⟩) fun a' ha'=>by cases ha';exact .inl (by simp)) hk.size hx)
 exact qA (S:=fun b=>w0.heap.size<=b) hacc hrow' (hR.len _ _) hR.pos (fun a ha=>by cases ha;show w0.heap.size<=β' 0;omega)
end
def xH(l:List CT)(i:Nat):Nat:=match l[i]? with
 |some x=>(aZ x).length
 |none=>0
def ft(A:Option Addr)(n c:Nat)(l:List CT):Nat->Option Addr×Nat×Nat
 |0=>(A,n,c)
 |i+1=>((if(ft A n c l i).2.2=xH l i then(ft A n c l i).1 else(ft A n c l i).1.map fun x=>x.add (xH l i*1)),(ft A n c l i).2.1-xH l i,(ft A n c l i).2.2-xH l i)
def sq(l:List CT):Nat->Bool
 |0=>false
 |i+1=>match l[i]? with
  |some x=>(an x.c.code).path
  |none=>false
theorem Ab{l:List CT}{i:Nat}{x:CT}(h:l[i]?=some x):l.drop i=x :: l.drop (i+1):=by
 obtain⟨hi,rfl⟩:=List.getElem?_eq_some_iff.1 h
 exact List.drop_eq_getElem_cons hi
theorem Cv{w:World}{B n c:Nat}{A:Option Addr}{l:List CT}(h:Bts w B A n (aj l))(hc:n<=c):∀i,i<=l.length->Bts w B (ft A n c l i).1 (ft A n c l i).2.1 (aj (l.drop i))/\(ft A n c l i).2.1<=(ft A n c l i).2.2
 |0,_=>⟨h,hc⟩
 |i+1,hi=>by
  obtain⟨h1,h2⟩:=Cv h hc i (by omega)
  have hx:l[i]?=some (l[i]'(by omega)):=List.getElem?_eq_getElem (by omega)
  rw[Ab hx]at h1
  have e:aj (l[i]'(by omega) :: l.drop (i+1))=aZ (l[i]'(by omega))++aj (l.drop (i+1)):=rfl
  rw[e]at h1
  have hs:xH l i=(aZ (l[i]'(by omega))).length:=by simp only[xH,hx]
  exact⟨Bts.suf h1 hs h2,by show _-_<=_-_;omega⟩
theorem OkL.saw:∀ {l:List CT},OkL l->∀i,i<l.length->sq l i=false
 |[],_,i,hi=>absurd hi (by simp)
 |x :: r,h,0,_=>rfl
 |x :: r,h,1,hi=>by
  show(an x.c.code).path=false
  cases hp:(an x.c.code).path with
  |false=>rfl
  |true=>
   have:=h.1 hp
   subst this
   simp at hi
 |x :: r,h,i+2,hi=>OkL.saw h.2 (i+1) (by have h2:=hi;simp only[List.length_cons]at h2;omega)
theorem kK{l:List CT}(h:l≠[]):0<(aj l).length:=by
 cases l with
 |nil=>exact absurd rfl h
 |cons x r=>
  have:=(iL _ x.hs.tab).1
  show 0<(aZ x++aj r).length
  unfold aZ cg
  simp only[List.length_append]
  omega
def OG(l:List CT)(n:Nat)(w:World)(v:Value)(w':World):Prop:=∃A k c,v=.tuple #[.int .i64 (n:Int),.slice A k c,.nilIface]/\RowAt MaX 3 (Rx.since w w') w'.heap.size A k l/\k<=c
theorem DY(l:List CT)(hok:OkL l)(h0:l≠[])(A:Option Addr)(n c B:Nat)(w:World)(h:Bts w B A n (aj l))(hB:B<=w.heap.size)(hc:n<=c)(hn:(n:Int)<2^46)(hl:∀x∈l,x.c.val.length<=2147483647)(hll:l.length<2^40)(ht:Tens w) :
  Calls Tryz.prog 65 #[.slice A n c] w (bF (OG l n w) w):=by
 have hnn:=h.1
 have hpos:=kK h0
 obtain⟨svs,hsvs⟩:∃svs:Nat->List SV,svs=fun i=>[.xs (ft A n c l i).1 (ft A n c l i).2.1 (ft A n c l i).2.2,.int .i64 ((aj (l.take i)).length:Int) false,.bool (sq l i) false]:=⟨_,rfl⟩
 have hcur:=Cv h hc
 have hround:∀i,i<l.length->∃x,l[i]?=some x/\x∈l/\aj (l.drop i)=aZ x++aj (l.drop (i+1))/\xH l i=(aZ x).length/\sq l (i+1)=(an x.c.code).path/\(aj (l.take (i+1))).length=(aj (l.take i)).length+(aZ x).length/\(aj (l.take i)).length+(aZ x).length<=n:=fun i hi=>by
  have hx:l[i]?=some (l[i]'hi):=List.getElem?_eq_getElem hi
  have h1:=cB l (i+1)
  have h2:=cU hx
  rw[h2,List.length_append]at h1
  refine⟨_,hx,List.getElem_mem hi,by rw[Ab hx];rfl,by simp only[xH,hx],by simp only[sq,hx],by rw[h2,List.length_append],by omega⟩
 refine aH (hk:=Gk) (n:=1000) (args:=[.xs A n c]) ⟨trivial,trivial⟩ ?_
 rw[Qv]
 refine af (fun hz=>?_) (fun _=>?_)
 ·have:(n:Int)=0:=by simpa using hz
  omega
 refine Dl (Fine.start _ _) 64 3 H0 (α:=Nat) svs (fun i=>l.length-i) (IR MaX l l.length) (L9 MaX 3 l [.int .i64 n])
  (fun _=>IB) 1000 (by simp) (by simp[H0]) (by simp[H0]) (fun i=>by rw[hsvs];exact⟨trivial,trivial,trivial,trivial⟩) rfl rfl rfl (by simp) (by simp) (fun _=>⟨trivial,trivial,trivial⟩) (fun _=>trivial) ?_ ?_ ?_ ?_
 ·rintro w0 i w1 g hbw0 hI hb0 hbw
  have hi:=hI.1
  obtain⟨hcb,hcc⟩:=hcur i hi
  have hB1:B<=w1.heap.size:=Nat.le_trans hB hbw.size
  have hcb1:=hcb.below (hbw.mono hB) (Nat.le_refl _)
  subst hsvs
  refine ah (PC _ _ _ _ _ w1 g) (ak (fun hlt=>?_) (fun hge=>?_))
  rotate_left
  ·have hi2:¬i<l.length:=fun hlt=>by
    obtain⟨x,hx,hm,hd,_⟩:=hround i hlt
    have h1:=hcb.1
    rw[hd]at h1
    have h2:=kK (l:=[x]) (by simp)
    have e:aj [x]=aZ x:=by simp[aj]
    rw[e]at h2
    rw[List.length_append]at h1
    omega
   exact wS MaX.lasts rfl hi2 hI hb0 (fun _=>rfl) (us:=[.int .i64 n]) (fun _=>by rw[List.take_of_length_le (by omega),<- hnn];rfl)
  have hi2:i<l.length:=by
   rcases Nat.lt_or_ge i l.length with h |h
   ·exact h
   ·have h1:=hcb.1
    rw[List.drop_eq_nil_of_le h]at h1
    have h2:(ft A n c l i).2.1=0:=h1
    omega
  obtain⟨x,hx,hm,hd,hsz,hsw,htk,hle⟩:=hround i hi2
  rw[hd]at hcb1
  have hni:=hcb1.1
  rw[List.length_append]at hni
  have hin:(ft A n c l i).2.1<=n:=by
   rw[hcb.1,hnn]
   have:aj l=aj (l.take i)++aj (l.drop i):=by unfold aj;rw[<- List.flatMap_append,List.take_append_drop]
   rw[this,List.length_append]
   omega
  refine dI (w:=w1) (bs:=[]) (R:=fun(y:RCx) wc w'=>∃p,y=⟨(aZ x).length,⟨p,0,none⟩⟩/\CN wc p x.c.code x.c.val w') ⟨rfl,Keep.refl _ _,by simp⟩ (fun y=>⟨rfl,trivial,trivial,trivial,trivial⟩) (fun β wc hst ho hkc=>?_) ?_
  ·have hbc:=hkc.belowB hB1 (by simp)
   refine(qw x (aj (l.drop (i+1))) _ _ _ B wc (hcb1.below hbc (Nat.le_refl _)) (Nat.le_trans hB1 hkc.size) hcc (by omega) (hl x hm) (ht.below (hbw.trans ((hkc.belowB (Nat.le_refl _) (by simp)).mono hbw.size)) ht.lt)).mono ?_
   rintro e w' ⟨v,rfl,⟨p,rfl,h1⟩,hb'⟩
   exact⟨⟨_,⟨p,0,none⟩⟩,rfl,hb',p,rfl,h1⟩
  rintro y wc w2 b2 hkc ⟨p,rfl,hC⟩ hbc2 dW hbs2
  dsimp only
  obtain⟨q,r1,e1,e1',r2,e2,r3,e3,e4,hP⟩:=hC.reads (bs:=b2) fun i hi=>(hbs2 i hi).2
  rw[e1]at r1
  rw[e3,e4,e1']at r3
  rw[e1,e1',e2,e3,e4]
  rw[e2]at r2
  refine aa ⟨by omega,by omega⟩ (af (fun hs=>?_) (fun _=>aa r1 (aa r2 (aa r3 ?_))))
  ·rw[hok.saw i hi2]at hs
   cases hs
  refine ya MaX.lasts hi2 hx hI hb0 hkc hbc2 dW hbs2 (by omega) (by decide) (vs:=[.string ⟨(cg x.c.code x.c.val++x.c.val).toArray⟩,.pointer (some ⟨q,0,none⟩),.int .i64 ((cg x.c.code x.c.val).length:Int)]) (fun _=>rfl) (fun _=>rfl) ⟨q,rfl,hP⟩ (fun β=>?_)
  have hw:i64.wrap (((aj (l.take i)).length:Int)+((aZ x).length:Int))=((aj (l.take (i+1))).length:Int):=by rw[htk,ax (by omega) (by omega)];omega
  rw[hw]
  show ae β _=ae id [.xs (ft A n c l (i+1)).1 (ft A n c l (i+1)).2.1 (ft A n c l (i+1)).2.2,.int .i64 ((aj (l.take (i+1))).length:Int) false,.bool (sq l (i+1)) false]
  rw[hsw]
  simp only[ft,hsz,Int.toNat_natCast,ae,SV.den]
 ·rintro w0 i w1 g b kk cc Ls hbw0 hI hb0 hbw hb1 hb2 hLs hkcc
  have hi:=hI.1
  obtain⟨hcb,hcc⟩:=hcur i hi
  have hB1:B<=w1.heap.size:=Nat.le_trans hB hbw.size
  have hcb1:=hcb.below (hbw.mono hB) (Nat.le_refl _)
  have hBb:∀b'∈[b],B<=b':=fun b' hb'=>by
   have:=hbw0.size
   simp at hb'
   omega
  subst hsvs
  refine ah (P5 _ _ _ _ kk cc _ Ls w1 [b] g) (ak (fun hlt=>?_) (fun hge=>?_))
  rotate_left
  ·have hi2:¬i<l.length:=fun hlt=>by
    obtain⟨x,hx,hm,hd,_⟩:=hround i hlt
    have h1:=hcb.1
    rw[hd]at h1
    have h2:=kK (l:=[x]) (by simp)
    have e:aj [x]=aZ x:=by simp[aj]
    rw[e]at h2
    rw[List.length_append]at h1
    omega
   exact wT MaX.lasts rfl hi2 hI hb0 hb1 hLs hkcc (us:=[.int .i64 n]) (fun _=>by rw[List.take_of_length_le (by omega),<- hnn];rfl)
  have hi2:i<l.length:=by
   rcases Nat.lt_or_ge i l.length with h |h
   ·exact h
   ·have h1:=hcb.1
    rw[List.drop_eq_nil_of_le h]at h1
    have h2:(ft A n c l i).2.1=0:=h1
    omega
  obtain⟨x,hx,hm,hd,hsz,hsw,htk,hle⟩:=hround i hi2
  rw[hd]at hcb1
  have hni:=hcb1.1
  rw[List.length_append]at hni
  have hin:(ft A n c l i).2.1<=n:=by
   rw[hcb.1,hnn]
   have:aj l=aj (l.take i)++aj (l.drop i):=by unfold aj;rw[<- List.flatMap_append,List.take_append_drop]
   rw[this,List.length_append]
   omega
  refine dI (w:=w1) (bs:=[b]) (R:=fun(y:RCx) wc w'=>∃p,y=⟨(aZ x).length,⟨p,0,none⟩⟩/\CN wc p x.c.code x.c.val w') ⟨rfl,Keep.refl _ _,fun b hb=>.inl hb⟩ (fun y=>⟨rfl,trivial,trivial,trivial,trivial⟩) (fun β wc hst ho hkc=>?_) ?_
  ·have hbc:=hkc.belowB hB1 hBb
   refine(qw x (aj (l.drop (i+1))) _ _ _ B wc (hcb1.below hbc (Nat.le_refl _)) (Nat.le_trans hB1 hkc.size) hcc (by omega) (hl x hm) (ht.below (hkc.below hbw (Nat.le_refl _) (fun b' hb'=>by have:=hbw0.size;simp at hb';omega)) ht.lt)).mono ?_
   rintro e w' ⟨v,rfl,⟨p,rfl,h1⟩,hb'⟩
   exact⟨⟨_,⟨p,0,none⟩⟩,rfl,hb',p,rfl,h1⟩
  rintro y wc w2 b2 hkc ⟨p,rfl,hC⟩ hbc2 dW hbs2
  dsimp only
  obtain⟨q,r1,e1,e1',r2,e2,r3,e3,e4,hP⟩:=hC.reads (bs:=b2) fun i hi=>(hbs2 i hi).2
  rw[e1]at r1
  rw[e3,e4,e1']at r3
  rw[e1,e1',e2,e3,e4]
  rw[e2]at r2
  refine aa ⟨by omega,by omega⟩ (af (fun hs=>?_) (fun _=>aa r1 (aa r2 (aa r3 ?_))))
  ·rw[hok.saw i hi2]at hs
   cases hs
  refine yb MaX.lasts hi2 hx hI hb0 hb1 hLs hkcc hkc hbc2 dW hbs2 (by omega) (by omega) (vs:=[.string ⟨(cg x.c.code x.c.val++x.c.val).toArray⟩,.pointer (some ⟨q,0,none⟩),.int .i64 ((cg x.c.code x.c.val).length:Int)]) rfl (fun _=>rfl) ⟨q,rfl,hP⟩ (fun β=>?_)
  have hw:i64.wrap (((aj (l.take i)).length:Int)+((aZ x).length:Int))=((aj (l.take (i+1))).length:Int):=by rw[htk,ax (by omega) (by omega)];omega
  rw[hw]
  show ae β _=ae id [.xs (ft A n c l (i+1)).1 (ft A n c l (i+1)).2.1 (ft A n c l (i+1)).2.2,.int .i64 ((aj (l.take (i+1))).length:Int) false,.bool (sq l (i+1)) false]
  rw[hsw]
  simp only[ft,hsz,Int.toNat_natCast,ae,SV.den]
 ·intro β w0 hst hb
  refine⟨0,?_,Nat.zero_le _,.nil⟩
  subst hsvs
  rfl
 ·rintro β w0 hst hb e lv w' ⟨rfl,A',k,c',rfl,hmas,hkc⟩ hb0 hb1
  exact .inl ⟨⟨A',k,c',n⟩,rfl,rfl,fun g bs hbs=>aN (Fine.mk' hb1 fun b hb=>(hbs b hb).1) fun β w2 hst2 hb2=>⟨A',k,c',rfl,hmas.sub MaX.lasts (kc (hst2.old rfl) rfl (fun b hb=>(hbs b hb).2) hb.size) (hst2.old rfl).sz,hkc⟩⟩
end
section
open Go Go.RowKit Go.Rx
theorem kw{P:Program}(w:World)(t u ty e T:TypeId)(i:TypeInfo)(ht:P.underlying t=some (.slice e))(hu:P.underlying u=some .string)(hi:P.info? e=some i)(hs1:i.size=1)
  (g sLen sCap:Nat) (cur:Array Value) (hg:w.heap[g]?=some (.cells cur T (0,0))) (s:ByteArray) (hroom:sLen+s.size<=sCap) (hfit:sLen+s.size<=cur.size) :
  (Builtin.append_ #[t,u] ty #[.slice (some ⟨g,0,none⟩) sLen sCap,.string s]).run P w =
   .ok (.slice (some ⟨g,0,none⟩) (sLen+s.size) sCap) (w.setRow g (cur.toList.take sLen++Lib.strCells s++cur.toList.drop (sLen+s.size)).toArray):=by
 have hf:=Lib.run_firstCells_string (P:=P) w 1 s
 have hst:=run_storeCells_at P g sLen T (Lib.strCells s) 0 cur w hg (by simpa [Lib.strCells_length] using hfit) (Lib.strCells_oneCell s)
 simp only[Nat.add_zero,Lib.strCells_length]at hst
 simp[Builtin.append_,run_underlying ht,run_underlying hu,sizeOf,typeInfo,hi,hs1,Builtin.lenOf,hroom,hf,Addr.add_lit,hst]
theorem jN(w:World)(o:Obj):(w.alloc o).heap[w.heap.size]?=some o:=Array.getElem?_push_size
theorem RowAt.get'{w:World}{B:Nat}{A:Option Addr}{n i:Nat}{l:List CT}(h:RowAt MaX 3 w B A n l)(hi:i<n):∃a x,A=some a/\l[i]?=some x/\CellsAt (MaX w B) w B (a.add (i*3)) x:=by
 obtain⟨a,x,h1,_,h2,h3⟩:=h.get hi
 exact⟨a,x,h1,h2,h3⟩
theorem oV{P:Program}{w:World}{ops:Array Oper}{rest:List Oper}{o:Oper}{a:Act}{Q:Exit->Act->World->Prop}(hgd:o.guard=none)(sl x:Operand)(t u:TypeId)
  (ho:o.op=.call { callee:=.builtin .append,args:=#[sl,x],argTypes:=#[t,u] })
  (e T:TypeId) (i:TypeInfo) (ht:P.underlying t=some (.slice e)) (hu:P.underlying u=some .string) (hi:P.info? e=some i) (hs1:i.size=1)
  (g sLen sCap:Nat) (cur:Array Value) (hs:a.eval sl=.slice (some ⟨g,0,none⟩) sLen sCap) (hg:w.heap[g]?=some (.cells cur T (0,0))) (s:ByteArray) (hx:a.eval x=.string s)
  (hroom:sLen+s.size<=sCap) (hfit:sLen+s.size<=cur.size)
  (h:wpList P ops Q rest (a.put o.dst (.slice (some ⟨g,0,none⟩) (sLen+s.size) sCap)) (w.setRow g (cur.toList.take sLen++Lib.strCells s++cur.toList.drop (sLen+s.size)).toArray)):wpList P ops Q (o :: rest) a w:=by
 refine wpList_plain hgd fun K hK=>?_
 have hr:=kw (P:=P) w t u o.type e T i ht hu hi hs1 g sLen sCap cur hg s hroom hfit
 unfold Oper.wp execOp
 simp only[ho,resolve,invoke,builtin,Sem.run_bind,Sem.run_pure,Result.andThen_ok,List.map_toArray,List.map_cons,List.map_nil,hs,hx,hr]
 exact hK _ _ h
def H1(l:List CT)(n:Nat)(w:World)(o:Nat)(v i:Value)(wr:World):Prop:=∃(k:Nat) (cur:Array Value),k<=n/\i=.int .i64 (k:Int)/\v=.slice (some ⟨o,0,none⟩) (aj (l.take k)).length 128/\wr.heap[o]?=some (.cells cur 104 (0,0))/\cur.size=128/\cur.toList.take (aj (l.take k)).length=ey (aj (l.take k))/\Below w.heap.size w wr/\w.heap.size<=o
theorem l9{w wr:World}{B n k:Nat}{ad:Addr}{l:List CT}(h:RowAt MaX 3 w B (some ad) n l)(hB:B<=w.heap.size)(hnx:Below w.heap.size w wr)(hlt:k<n):∃x b,l[k]?=some x /\
  wr.cell? (ad.add (k*3))=some (.string ⟨(cg x.c.code x.c.val++x.c.val).toArray⟩) /\
  wr.cell? { block:=(ad.add (k*3)).block,off:=(ad.add (k*3)).off+1 } = some (.pointer (some ⟨b,0,none⟩)) /\
  wr.cell? { block:=(ad.add (k*3)).block,off:=(ad.add (k*3)).off+2 } = some (.int .i64 ((cg x.c.code x.c.val).length:Int))/\ProtB w B b x.c.code:=by
 obtain⟨ad',x,had,hx,hbx,vs,⟨b,rfl,hp⟩,hcells⟩:=RowAt.get' h hlt
 cases had
 have hc:∀j v,([.string ⟨(cg x.c.code x.c.val++x.c.val).toArray⟩,.pointer (some ⟨b,0,none⟩),.int .i64 ((cg x.c.code x.c.val).length:Int)]:List Value)[j]?=some v->wr.cell? ((ad.add (k*3)).add j)=some v:=fun j v hj=>by
  rw[World.cell?_of_block (w:=w) (hnx.block _ (by rw[aD];exact Nat.lt_of_lt_of_le hbx hB))]
  exact hcells j v hj
 exact⟨x,b,hx,hc 0 _ rfl,hc 1 _ rfl,hc 2 _ rfl,hp⟩
theorem Fp:Tryz.prog.underlying 9=some .string:=by kernel_rfl
def FX(l:List CT)(n:Nat)(w:World)(z i:Value)(wr:World):Prop:=∃k:Nat,k<=n/\i=.int .i64 (k:Int)/\z=.int .i64 ((aj (l.take k)).length:Int)/\Below w.heap.size w wr
theorem oo(ad:Addr)(n c:Nat)(l:List CT)(B:Nat)(w:World)(h:RowAt MaX 3 w B (some ad) n l)(hB:B<=w.heap.size)(hn:n<2^30)(hl:(aj l).length<2^40)(h128l:(aj l).length<128) :
  Calls Tryz.prog 60 #[.slice (some ad) n c] w (bF (Ju l w) w):=by
 have hid0:=Hid.mk (And.intro h (And.intro hl hn))
 have hids:=Hid.mk h128l
 clear h hl hn h128l
 go_enter Tryz.func60,Tryz.ntmps60
 go_wp2
 go_loopw [3,12] (fun z i wr=>FX l n w z i wr) (fun _ i _=>n-(intOf i).toNat)
 case atStart=>exact⟨0,Nat.zero_le _,rfl,rfl,Below.refl _ _⟩
 case round=>
  obtain⟨k,hk,rfl,rfl,hnx⟩:=hrel
  obtain⟨h,hl,hn⟩:=hid0.out
  by_cases hlt:k<n
  ·obtain⟨ad',x,had,hx,hbx,vs,⟨b,rfl,hp⟩,hcells⟩:=RowAt.get' h hlt
   cases had
   have hc:∀j v,([.string ⟨(cg x.c.code x.c.val++x.c.val).toArray⟩,.pointer (some ⟨b,0,none⟩),.int .i64 ((cg x.c.code x.c.val).length:Int)]:List Value)[j]?=some v->wr.cell? ((ad.add (k*3)).add j)=some v:=fun j v hj=>by
    rw[World.cell?_of_block (w:=w) (hnx.block _ (by rw[aD];exact Nat.lt_of_lt_of_le hbx hB))]
    exact hcells j v hj
   have c0:wr.cell? (ad.add (k*3))=some (.string ⟨(cg x.c.code x.c.val++x.c.val).toArray⟩):=hc 0 _ rfl
   have c1:wr.cell? { block:=(ad.add (k*3)).block,off:=(ad.add (k*3)).off+1 } = some (.pointer (some ⟨b,0,none⟩)):=hc 1 _ rfl
   have c2:wr.cell? { block:=(ad.add (k*3)).block,off:=(ad.add (k*3)).off+2 } = some (.int .i64 ((cg x.c.code x.c.val).length:Int)):=hc 2 _ rfl
   have hki:(k:Int)<n:=by omega
   have hsn:=cU hx
   have hle:=cB l (k+1)
   rw[hsn,List.length_append]at hle
   have e1:(aj (l.take (k+1))).length=(aj (l.take k)).length+(cg x.c.code x.c.val++x.c.val).length:=by rw[hsn,List.length_append];rfl
   have e2:(cg x.c.code x.c.val++x.c.val).length=(aZ x).length:=rfl
   have hsz:(⟨(cg x.c.code x.c.val++x.c.val).toArray⟩:ByteArray).size=(cg x.c.code x.c.val++x.c.val).length:=aB _
   generalize hS:(cg x.c.code x.c.val++x.c.val)=S at *
   generalize hM:(aj (l.take k)).length=M at *
   have wV:(k:Int)<1073741824:=by omega
   have hM40:M+S.length<2^40:=by omega
   have hidx:=Hid.mk (And.intro hnx e1)
   clear h hl hn hcells hc hnx hx hp hbx hsn hle e1 e2 hS
   go_wp2
   refine⟨⟨k+1,by omega,rfl,?_,hidx.out.1.alloc hidx.out.1.size _⟩,qm hki⟩
   rw[hidx.out.2]
   rfl
  ·have hki:¬(k:Int)<n:=by omega
   have hkl:l.take k=l:=List.take_of_length_le (by have:=h.1;omega)
   rw[hkl]
   generalize hZ:(aj l).length=Z at *
   have hidx:=Hid.mk (And.intro hnx hZ)
   clear h hl hn hnx hkl
   by_cases h128:(Z:Int)<128
   ·go_wp2
    obtain⟨i0,hi,hz0,hz1,hz2⟩:=info_parts rV
    generalize ho:wr.heap.size=o
    have hnew:=jN wr (.cells Tryz.zeroCells104 104)
    rw[ho]at hnew
    have hbel:Below w.heap.size w (wr.alloc (.cells Tryz.zeroCells104 104)):=hidx.out.1.alloc hidx.out.1.size _
    have hge:w.heap.size<=o:=by rw[<- ho];exact hidx.out.1.size
    generalize wr.alloc (.cells Tryz.zeroCells104 104)=wa at hnew hbel ⊢
    have hida:=Hid.mk (And.intro hnew (And.intro hbel hge))
    clear hnew hbel hge ho
    go_loopw [6,29] (fun v i wr=>H1 l n w o v i wr) (fun _ i _=>n-(intOf i).toNat)
    case atStart=>exact⟨0,_,Nat.zero_le _,rfl,rfl,hida.out.1,by kernel_rfl,rfl,hida.out.2.1,hida.out.2.2⟩
    case round=>
     obtain⟨k,cur,hk,rfl,rfl,hg,hcs,htk,hnx,hge⟩:=hrel
     by_cases hlt:k<n
     ·obtain⟨x,b,hx,c0,c1,c2,_⟩:=l9 hid0.out.1 hB hnx hlt
      have hki:(k:Int)<n:=by omega
      have hsn:=cU hx
      have hle:=cB l (k+1)
      have hZl:=hidx.out.2
      rw[hsn,List.length_append]at hle
      have e2:aZ x=cg x.c.code x.c.val++x.c.val:=rfl
      rw[e2]at hsn hle
      have wV:(k:Int)<1073741824:=by have:=hid0.out.2.2;omega
      generalize hS:(cg x.c.code x.c.val++x.c.val)=S at *
      have hM:(aj (l.take k)).length+S.length<=128:=by omega
      have hg2:∀ob,(wr.alloc ob).heap[o]?=some (.cells cur 104 (0,0)):=fun ob=>by rw[Lib.alloc_old _ _ _ (cO hg)];exact hg
      have hidn:=Hid.mk (And.intro hsn (And.intro hM (And.intro htk (And.intro hnx (And.intro hge (And.intro hg2 hcs))))))
      clear hsn hle hZl e2 hS hM htk hnx hge hx hg
      go_wp2_with (at_builtin;refine oV rfl _ _ 22 9 rfl 5 104 i0 Tryz.underlying22 Fp hi hz1 o _ 128 cur rfl (hidn.out.2.2.2.2.2.1 _) ⟨S.toArray⟩ rfl ?c1 ?c2 ?_)
      case c1=>rw[aB];exact hidn.out.2.1
      case c2=>rw[aB,hidn.out.2.2.2.2.2.2];exact hidn.out.2.1
      obtain⟨hsn,hM,htk,hnx,hge,hg2,hcs⟩:=hidn.out
      have e1:(aj (l.take (k+1))).length=(aj (l.take k)).length+S.length:=by rw[hsn,List.length_append]
      have htl:(cur.toList.take (aj (l.take k)).length).length=(aj (l.take k)).length:=by rw[htk,List.length_map]
      refine⟨⟨k+1,_,by omega,rfl,by rw[e1],setRow_heap _ _ cur _ _ _ (hg2 _),?_,?_,(hnx.alloc hnx.size _).trans ⟨rfl,rfl,rfl,by simp,fun j hj=>setRow_other _ _ _ _ (by omega)⟩,hge⟩,qm hki⟩
      ·simp only[List.size_toArray,List.length_append,List.length_drop,Array.length_toList,htl,Lib.strCells_length,aB,hcs]
       omega
      ·rw[e1,hsn,List.toList_toArray,<- List.append_assoc,List.take_append_of_le_length (by rw[List.length_append,htl,Lib.strCells_length,aB];exact Nat.le_refl _),List.take_of_length_le (by rw[List.length_append,htl,Lib.strCells_length,aB];exact Nat.le_refl _),htk]
       simp[ey,Lib.strCells,Lib.byteCells]
     ·have hki:¬(k:Int)<n:=by omega
      have hkl:l.take k=l:=List.take_of_length_le (by have:=hid0.out.1.1;omega)
      rw[hkl]at htk ⊢
      have hZl:=hidx.out.2
      have hfin:=Hid.mk (And.intro hg (And.intro htk (And.intro hnx (And.intro hge (And.intro hcs hZl)))))
      clear hg htk hnx hge hcs hZl hkl
      go_wp2
      go_ret
      obtain⟨hg,htk,hnx,hge,hcs,hZl⟩:=hfin.out
      refine⟨_,rfl,⟨_,_,_,rfl,⟨hZl.symm,fun _=>⟨_,rfl,cO hg,fun i y hi=>?_⟩⟩,fun _ a ha=>by cases ha;exact hge⟩,hnx⟩
      have hil:i<(aj l).length:=(List.getElem?_eq_some_iff.1 hi).1
      have ea:(Addr.add ⟨o,0,none⟩ (i*1))=⟨o,i,none⟩:=by unfold Addr.add;split <;> simp_all
      rw[ea]
      refine cellOf hg ?_
      have e1:(cur.toList.take (aj l).length)[i]?=cur.toList[i]?:=by rw[List.getElem?_take,if_pos hil]
      rw[<- Array.getElem?_toList,<- e1,htk]
      simp[ey,hi]
   ·exact absurd (show(Z:Int)<128 by have h1:=hids.out;omega) h128
end
section
open Go Go.RowKit
def KB(w w':World):Prop:=∀(j:Nat) (cs:Array Value) (T:TypeId),w.heap[j]?=some (.cells cs T (0,0))->T≠5->T≠93->w'.heap[j]?=some (.cells cs T (0,0))
theorem KB.refl(w:World):KB w w:=fun _ _ _ h _ _=>h
theorem KB.trans{a b c:World}(h:KB a b)(k:KB b c):KB a c:=fun j cs T hj h1 h2=>k j cs T (h j cs T hj h1 h2) h1 h2
theorem KB.below{w w':World}(h:Below w.heap.size w w'):KB w w':=fun j cs T hj _ _=>by
 rw[h.block j (Array.getElem?_eq_some_iff.1 hj).1]
 exact hj
theorem KB.alloc{w w':World}(h:KB w w')(o:Obj):KB w (w'.alloc o):=fun j cs T hj h1 h2=>by
 have h3:=h j cs T hj h1 h2
 rw[Lib.alloc_old _ _ _ (Array.getElem?_eq_some_iff.1 h3).1]
 exact h3
theorem KB.set{w w':World}{b:Nat}{cs:Array Value}(h:KB w w')(hb:w'.heap[b]?=some (.cells cs 93 (0,0)))(i:Nat)(v:Value):KB w (w'.setCell ⟨b,i,none⟩ v):=fun j cs' T hj h1 h2=>by
 have h3:=h j cs' T hj h1 h2
 rw[Below.heap_setCell _ _ _ _ (by show j≠b;rintro rfl;rw[hb]at h3;cases h3;exact h2 rfl)]
 exact h3
theorem KB.grown{w w1 w2:World}{B n:Nat}{v:Value}{xs:List Value}(h:KB w w1)(hown:w1.ownsRow B 5 1 v n xs)(hg:w1.grownBy w2 v.ownBlock):KB w w2:=fun j cs T hj h1 h2=>by
 have h3:=h j cs T hj h1 h2
 rw[hg.block j (Array.getElem?_eq_some_iff.1 h3).1 ?_]
 ·exact h3
 ·intro e
  rcases hown.2 with⟨rfl,_⟩ |⟨g,cap,cur,rfl,_,hg',_⟩
  ·cases e
  ·have:j=g:=by
    have e':some j=some g:=e
    simpa using e'
   subst this
   rw[h3]at hg'
   simp only[Option.some.injEq,Obj.cells.injEq]at hg'
   exact h1 hg'.2.1
theorem n8(B b:Nat)(bs:List Value)(w:World)(h:Lib.IsBuilder 93 5 B b bs w) :
  Calls Tryz.prog 135 #[.pointer (some ⟨b,0,none⟩)] w fun e w'=>e=.returned (.tuple #[])/\(Lib.BuilderAt 93 5 B b (.pointer (some ⟨b,0,none⟩)) bs w'/\Below B w w')/\KB w w':=by
 rcases h with h |h
 ·refine(oQ b w h.cell0 h.shape h.frozen0).mono ?_
  rintro e w' ⟨rfl,rfl⟩
  obtain⟨_,v,hbk,_⟩:=id h
  exact⟨rfl,⟨h.used _,(Below.refl B w).setCell (p:=⟨b,0,none⟩) h.1 _⟩,(KB.refl w).set hbk 0 _⟩
 ·refine(pT b w h.cell0).mono ?_
  rintro e w' ⟨rfl,rfl⟩
  exact⟨rfl,⟨h,Below.refl B _⟩,KB.refl _⟩
theorem oD(B b:Nat)(bs:List Value)(c:Int)(w:World)(h:Lib.IsBuilder 93 5 B b bs w)(hlen:bs.length+1<=140737488355328)(hBw:B<=w.heap.size) :
  Calls Tryz.prog 86 #[.pointer (some ⟨b,0,none⟩),.int .u8 c] w fun e w'=>e=.returned .nilIface/\(Lib.BuilderAt 93 5 B b (.pointer (some ⟨b,0,none⟩)) (bs++[.int .u8 c]) w'/\Below B w w')/\KB w w':=by
 obtain⟨i0,hi,hz0,hz1,hz2⟩:=info_parts rV
 go_enter Tryz.func86,Tryz.ntmps86
 go_wp2_with fail
 refine(n8 B b bs _ h).mono ?_
 rintro e w1 ⟨rfl,⟨h1,hb1⟩,hkb⟩
 obtain⟨hB,v,hbk,hown,hne⟩:=h1
 have c0:w1.cell? ⟨b,0,none⟩=some (.pointer (some ⟨b,0,none⟩)):=by rw[Lib.cell_of_heap hbk];rfl
 have c1:w1.cell? ⟨b,1,none⟩=some v:=by rw[Lib.cell_of_heap hbk];rfl
 go_wp2_with (at_builtin;refine wpList_append_own _ rfl _ _ 22 rfl B 5 i0 (.int .u8 0) 1 1 Tryz.underlying22 hi hz0 hz1 hz2 rfl (by decide) _ _ _ rfl (hown.alloc _) ⟨w1.heap.size,0,none⟩ 1 1 [.int .u8 c] rfl rfl ?c1 ?c2 ?c3 ?c4 ?c5 ?_)
 case c1=>
  intro j u hj
  match j,hj with
  |0,hj=>simp at hj;subst hj;simp[Addr.add]
 case c2=>intro u hu;simp at hu;subst hu;rfl
 case c3=>unfold maxLen;omega
 case c4=>omega
 case c5=>have:=hb1.size;simp;omega
 intro v' w2 hown' hgrow _
 have hlt:b<w1.heap.size:=by
  rcases Nat.lt_or_ge b w1.heap.size with h' |h'
  ·exact h'
  ·simp[Array.getElem?_eq_none h']at hbk
 have hb2:w2.heap[b]?=some (.cells #[.pointer (some ⟨b,0,none⟩),v] 93 (0,0)):=by
  rw[hgrow.block b (by simp;omega) (fun e=>hne e.symm),Lib.alloc_old w1 _ b hlt]
  exact hbk
 have d0:w2.cell? ⟨b,0,none⟩=some (.pointer (some ⟨b,0,none⟩)):=by rw[Lib.cell_of_heap hb2];rfl
 have d1:w2.cell? ⟨b,1,none⟩=some v:=by rw[Lib.cell_of_heap hb2];rfl
 have f1:w2.frozen? ⟨b,1,none⟩=false:=Lib.frozen_of_heap hb2 1
 obtain⟨g,cap,rfl⟩:∃g cap,v'=.slice (some ⟨g,0,none⟩) (bs.length+1) cap:=by
  rcases hown'.2 with⟨_,h0⟩ |⟨g,cap,cur,hv,_⟩
  ·omega
  ·exact⟨g,cap,hv⟩
 go_wp2
 go_ret
 refine⟨rfl,⟨?_,?_⟩,((hkb.alloc _).grown (hown.alloc _) hgrow).set hb2 1 _⟩
 ·exact Lib.BuilderAt.put (T:=93) (e:=5) hB hb2 (bs':=bs++[.int .u8 c]) (by simpa using hown') (by decide)
 ·exact((hb1.alloc (by have:=hb1.size;omega) _).grown hgrow (by have:=hb1.size;simp;omega) (fun k hk=>(hown.lt k hk).1)).setCell (p:=⟨b,1,none⟩) hB _
theorem gC(B b:Nat)(bs:List Value)(s:ByteArray)(w:World)(h:Lib.IsBuilder 93 5 B b bs w)(hlen:bs.length+s.size<=140737488355328)(hBw:B<=w.heap.size) :
  Calls Tryz.prog 87 #[.pointer (some ⟨b,0,none⟩),.string s] w fun e w'=>e=.returned (.tuple #[.int .i64 s.size,.nilIface])/\(Lib.BuilderAt 93 5 B b (.pointer (some ⟨b,0,none⟩)) (bs++Lib.strCells s) w'/\Below B w w')/\KB w w':=by
 obtain⟨i0,hi,hz0,hz1,hz2⟩:=info_parts rV
 go_enter Tryz.func87,Tryz.ntmps87
 go_wp2_with fail
 refine(n8 B b bs _ h).mono ?_
 rintro e w1 ⟨rfl,⟨h1,hb1⟩,hkb⟩
 obtain⟨hB,v,hbk,hown,hne⟩:=h1
 have c0:w1.cell? ⟨b,0,none⟩=some (.pointer (some ⟨b,0,none⟩)):=by rw[Lib.cell_of_heap hbk];rfl
 have c1:w1.cell? ⟨b,1,none⟩=some v:=by rw[Lib.cell_of_heap hbk];rfl
 go_wp2_with (at_builtin;refine Lib.wpList_append_own_string _ rfl _ _ 22 9 rfl B 5 i0 Tryz.underlying22 Tryz.underlying9 hi hz0 hz1 hz2 _ _ _ rfl hown s rfl ?c3 ?c4 ?c5 ?_)
 case c3=>unfold maxLen;omega
 case c4=>omega
 case c5=>have:=hb1.size;omega
 intro v' w2 hown' hgrow _
 have hlt:b<w1.heap.size:=by
  rcases Nat.lt_or_ge b w1.heap.size with h' |h'
  ·exact h'
  ·simp[Array.getElem?_eq_none h']at hbk
 have hb2:w2.heap[b]?=some (.cells #[.pointer (some ⟨b,0,none⟩),v] 93 (0,0)):=by
  rw[hgrow.block b hlt (fun e=>hne e.symm)]
  exact hbk
 have d0:w2.cell? ⟨b,0,none⟩=some (.pointer (some ⟨b,0,none⟩)):=by rw[Lib.cell_of_heap hb2];rfl
 have d1:w2.cell? ⟨b,1,none⟩=some v:=by rw[Lib.cell_of_heap hb2];rfl
 have f1:w2.frozen? ⟨b,1,none⟩=false:=Lib.frozen_of_heap hb2 1
 obtain⟨ao,n',cap,rfl⟩:∃ao n' cap,v'=.slice ao n' cap:=by
  rcases hown'.2 with⟨hv,_⟩ |⟨g,cap,cur,hv,_⟩
  ·exact⟨_,_,_,hv⟩
  ·exact⟨_,_,_,hv⟩
 go_wp2
 go_ret2
 refine⟨rfl,⟨?_,?_⟩,(hkb.grown hown hgrow).set hb2 1 _⟩
 ·exact Lib.BuilderAt.put (T:=93) (e:=5) hB hb2 (bs':=bs++Lib.strCells s) (by simpa [Lib.strCells_length] using hown') (by decide)
 ·exact(hb1.grown hgrow (by have:=hb1.size;omega) (fun k hk=>(hown.lt k hk).1)).setCell (p:=⟨b,1,none⟩) hB _
end
section
open Go Go.Rx Go.RowKit
theorem B0{w:World}{B p q b:Nat}{k:Int}{val txt:List UInt8}{bs:List Value}(hs:Simple k val txt)
  (hp:w.heap[p]?=some (.cells #[.string ⟨(cg k val++val).toArray⟩,.pointer (some ⟨q,0,none⟩),.int .i64 ((cg k val).length:Int)] 64 (0,0)))
  (hq:ProtB w B q k) (hB:B<=w.heap.size) (hBT:∀w',Below B w w'->Tens w') (hI:Lib.IsBuilder 93 5 B b bs w) (hlen:bs.length+(cW k txt).length<=140737488355328) :
  Calls Tryz.prog 70 #[.pointer (some ⟨p,0,none⟩),.pointer (some ⟨b,0,none⟩)] w fun e w'=>e=.returned (.tuple #[])/\(Lib.BuilderAt 93 5 B b (.pointer (some ⟨b,0,none⟩)) (bs++Lib.byteCells (cW k txt)) w'/\Below B w w')/\KB w w':=by
 have keepC:∀ {w':World},KB w w'->Below B w w'->CAt w' w'.heap.size p k val:=fun hk hb=>by
  have h1:=hk p _ _ hp (by decide) (by decide)
  exact⟨(Array.getElem?_eq_some_iff.1 h1).1,q,h1,hq.below hb (Nat.le_trans hB hb.size)⟩
 have keep:∀ {w':World},KB w w'->Below B w w'->w'.cell? ⟨p,1,none⟩=some (.pointer (some ⟨q,0,none⟩))/\w'.cell? ⟨q,0,none⟩=some (.string ⟨(an k).name.toArray⟩)/\w'.cell? ⟨q,4,none⟩=some (.bool (an k).path):=fun hk hb=>by
  have h1:=hk p _ _ hp (by decide) (by decide)
  obtain⟨_,A,c,h2,_⟩:=hq.below hb (Nat.le_refl _)
  exact⟨by simp[World.cell?,h1],by simp[World.cell?,h2],by simp[World.cell?,h2]⟩
 obtain⟨c1,n0,n4⟩:=keep (KB.refl w) (Below.refl B w)
 have hnm:(an k).name.length+1<=(cW k txt).length:=by unfold cW;simp
 clear hp hq
 go_enter Tryz.func70,Tryz.ntmps70
 go_wp2_with fail
 refine(oD B b bs 47 _ hI (by omega) hB).mono ?_
 rintro e w1 ⟨rfl,⟨hb1,hw1⟩,hk1⟩
 obtain⟨d1,e0,e4⟩:=keep hk1 hw1
 go_wp2_with fail
 refine(gC B b _ _ _ (.inr hb1) (by simp[ByteArray.size];omega) (Nat.le_trans hB hw1.size)).mono ?_
 rintro e w2 ⟨rfl,⟨hb2,hw12⟩,dW⟩
 have hw2:=hw1.trans hw12
 have hk2:=hk1.trans dW
 obtain⟨d1,e0,e4⟩:=keep hk2 hw2
 go_wp2_with fail
 refine(BZ hs (keepC hk2 hw2) (Nat.le_refl _) (hBT _ hw2)).mono ?_
 rintro e w3 ⟨rfl,hw23⟩
 have hb3:=e9 hb2 hw23
 have hw3:=hw2.trans (hw23.mono (Nat.le_trans hB hw2.size))
 have hk3:=hk2.trans (KB.below hw23)
 obtain⟨d1,e0,e4⟩:=keep hk3 hw3
 have hsc:(Lib.strCells ⟨(an k).name.toArray⟩).length=(an k).name.length:=by simp[Lib.strCells,Lib.byteCells]
 rcases hs.facts with⟨rfl,_,_,hct⟩ |⟨hne,_,hpth,hct⟩ |⟨r,rfl,_,hpth,_,hct⟩
 ·go_wp2
  simp[bodyPost,results,Tryz.results70,go_sem]
  rw[hct]
  exact⟨⟨by simpa [Lib.strCells,Lib.byteCells] using hb3,hw3⟩,hk3⟩
 ·have hlen2:=congrArg List.length hct
  simp at hlen2
  rw[hpth]at e4
  cases txt with
  |nil=>exact absurd rfl hne
  |cons x r=>
   go_wp2_with fail
   refine(oD B b _ 47 _ (.inr hb3) (by simp[hsc];simp at hlen2;omega) (Nat.le_trans hB hw3.size)).mono ?_
   rintro e w4 ⟨rfl,⟨hb4,hw34⟩,hk34⟩
   go_wp2_with fail
   refine(gC B b _ _ _ (.inr hb4) (by simp[hsc,ByteArray.size];simp at hlen2;omega) (Nat.le_trans hB (hw3.trans hw34).size)).mono ?_
   rintro e w5 ⟨rfl,⟨hb5,hw45⟩,hk45⟩
   go_wp2
   simp[bodyPost,results,Tryz.results70,go_sem]
   rw[hct]
   exact⟨⟨by simpa [Lib.strCells,Lib.byteCells] using hb5,(hw3.trans hw34).trans hw45⟩,(hk3.trans hk34).trans hk45⟩
 ·have hlen2:=congrArg List.length hct
  simp at hlen2
  rw[hpth]at e4
  go_wp2_with fail
  refine(gC B b _ _ _ (.inr hb3) (by simp[hsc,ByteArray.size];omega) (Nat.le_trans hB hw3.size)).mono ?_
  rintro e w5 ⟨rfl,⟨hb5,hw45⟩,hk45⟩
  go_wp2
  simp[bodyPost,results,Tryz.results70,go_sem]
  rw[hct]
  exact⟨⟨by simpa [Lib.strCells,Lib.byteCells] using hb5,hw3.trans hw45⟩,hk3.trans hk45⟩
end
section
open Go Go.RowKit Go.Rx
def Rel14(l:List CT)(n:Nat)(w:World)(i:Value)(wr:World):Prop:=∃k:Nat,k<=n/\i=.int .i64 (k:Int)/\Lib.IsBuilder 93 5 w.heap.size w.heap.size (Lib.byteCells (aR (l.take k))) wr/\Below w.heap.size w wr
theorem oO{T e:TypeId}{B b:Nat}{bs:List Value}{w w':World}(h:Lib.IsBuilder T e B b bs w)(hb:Below w.heap.size w w'):Lib.IsBuilder T e B b bs w':=
 h.imp (fun h=>e9 h hb) (fun h=>e9 h hb)
theorem H9(l:List UInt8):(Lib.byteCells l).length=l.length:=by simp[Lib.byteCells]
theorem Rel14.start(l:List CT)(n:Nat)(w:World):Rel14 l n w (.int .i64 0) (w.alloc (.cells #[.pointer none,.slice none 0 0] 93)):=
 ⟨0,Nat.zero_le _,rfl,.inl ⟨Nat.le_refl _,.slice none 0 0,Array.getElem?_push_size,⟨rfl,.inl ⟨rfl,rfl⟩⟩,by simp[Value.ownBlock]⟩,(Below.refl _ _).alloc (Nat.le_refl _) _⟩
theorem oq(ad:Addr)(n c:Nat)(l:List CT)(B:Nat)(w:World)(h:RowAt MaX 3 w B (some ad) n l)(hB:B<=w.heap.size)(hn:n<2^30)(ht:Tens w)(hl:(aR l).length<=140737488355328) :
  Calls Tryz.prog 59 #[.slice (some ad) n c] w fun e w'=>e=.returned (.string ⟨(aR l).toArray⟩)/\Below w.heap.size w w':=by
 have hid0:=Hid.mk (And.intro h (And.intro hl (And.intro hn ht)))
 clear h hl hn ht
 go_enter Tryz.func59,Tryz.ntmps59
 go_wp2
 go_loopw [8] (fun i wr=>Rel14 l n w i wr) (fun i _=>n-(intOf i).toNat)
 case atStart=>exact Rel14.start l n w
 case round=>
  obtain⟨k,hk,rfl,hbl,hnx⟩:=hrel
  obtain⟨h,hl,hn,ht⟩:=hid0.out
  by_cases hlt:k<n
  ·obtain⟨x,b,hx,c0,c1,c2,hp⟩:=l9 h hB hnx hlt
   have hki:(k:Int)<n:=by omega
   have wV:(k:Int)<1073741824:=by omega
   have hsn:=pF hx
   have hle:=kx l (k+1)
   rw[hsn,List.length_append]at hle
   have hidx:=Hid.mk (And.intro hnx (And.intro hbl (And.intro hsn (And.intro hp (And.intro hle (And.intro hl ht))))))
   have hxs:=x.hs
   clear h hl hn hnx hbl hsn hp hle hx ht
   go_wp2_with fail
   obtain⟨hnx,hbl,hsn,hp,hle,hl,ht⟩:=hidx.out
   have hna:∀o,Below w.heap.size w (wr.alloc o):=fun o=>hnx.alloc hnx.size _
   refine(B0 hxs (jN wr _) (hp.below ((hna _).mono hB) hB) (hna _).size (fun w' hb=>ht.below ((hna _).trans hb) ht.lt) (oO hbl ((Below.refl _ _).alloc (Nat.le_refl _) _)) (by rw[H9];omega)).mono ?_
   rintro e w2 ⟨rfl,⟨hb2,hw2⟩,hk2⟩
   have hidy:=Hid.mk (And.intro hsn (And.intro hb2 ((hna _).trans hw2)))
   clear hnx hbl hsn hp hle hl ht hna hb2 hw2 hk2
   go_wp2
   obtain⟨hsn,hb2,hw2⟩:=hidy.out
   refine⟨⟨k+1,by omega,rfl,.inr ?_,hw2⟩,qm hki⟩
   rw[hsn]
   simpa [Lib.byteCells] using hb2
  ·have hki:¬(k:Int)<n:=by omega
   have hkl:l.take k=l:=List.take_of_length_le (by have:=h.1;omega)
   rw[hkl]at hbl
   have hfin:=Hid.mk (And.intro hbl hnx)
   clear h hl hn ht hbl hnx hkl
   go_wp2_with fail
   obtain⟨hbl,hnx⟩:=hfin.out
   refine(Tryz.Builder_String_any w.heap.size w.heap.size (aR l) wr hbl hnx.size).mono ?_
   rintro e w3 ⟨rfl,hw3⟩
   have hfin2:=Hid.mk (hnx.trans hw3)
   clear hbl hnx hw3
   go_wp2
   simp[bodyPost,results,Tryz.results59,go_sem]
   exact hfin2.out
end
section
open Go Go.RowKit Go.Rx
def JM(l:List CT)(n:Nat)(w:World)(v i:Value)(wr:World):Prop:=∃k:Nat,k<=n/\i=.int .i64 (k:Int)/\wr.ownsRow w.heap.size 5 1 v (aj (l.take k)).length (ey (aj (l.take k)))/\Below w.heap.size w wr
theorem tQ(S:List UInt8):Lib.strCells ⟨S.toArray⟩=ey S:=by simp[ey,Lib.strCells,Lib.byteCells]
theorem xr(ad:Addr)(n c:Nat)(l:List CT)(B:Nat)(w:World)(h:RowAt MaX 3 w B (some ad) n l)(hB:B<=w.heap.size)(hn:n<2^30)(hl:(aj l).length<2^40)(h128l:¬(aj l).length<128) :
  Calls Tryz.prog 60 #[.slice (some ad) n c] w (bF (Ju l w) w):=by
 have hid0:=Hid.mk (And.intro h (And.intro hl hn))
 have hids:=Hid.mk h128l
 clear h hl hn h128l
 go_enter Tryz.func60,Tryz.ntmps60
 go_wp2
 go_loopw [3,12] (fun z i wr=>FX l n w z i wr) (fun _ i _=>n-(intOf i).toNat)
 case atStart=>exact⟨0,Nat.zero_le _,rfl,rfl,Below.refl _ _⟩
 case round=>
  obtain⟨k,hk,rfl,rfl,hnx⟩:=hrel
  obtain⟨h,hl,hn⟩:=hid0.out
  by_cases hlt:k<n
  ·obtain⟨x,b,hx,c0,c1,c2,_⟩:=l9 h hB hnx hlt
   have hki:(k:Int)<n:=by omega
   have hsn:=cU hx
   have hle:=cB l (k+1)
   rw[hsn,List.length_append]at hle
   have e1:(aj (l.take (k+1))).length=(aj (l.take k)).length+(cg x.c.code x.c.val++x.c.val).length:=by rw[hsn,List.length_append];rfl
   have e2:(cg x.c.code x.c.val++x.c.val).length=(aZ x).length:=rfl
   have hsz:(⟨(cg x.c.code x.c.val++x.c.val).toArray⟩:ByteArray).size=(cg x.c.code x.c.val++x.c.val).length:=aB _
   generalize hS:(cg x.c.code x.c.val++x.c.val)=S at *
   generalize hM:(aj (l.take k)).length=M at *
   have wV:(k:Int)<1073741824:=by omega
   have hM40:M+S.length<2^40:=by omega
   have hidx:=Hid.mk (And.intro hnx e1)
   clear h hl hn hnx hx hsn hle e1 e2 hS
   go_wp2
   refine⟨⟨k+1,by omega,rfl,?_,hidx.out.1.alloc hidx.out.1.size _⟩,qm hki⟩
   rw[hidx.out.2]
   rfl
  ·have hki:¬(k:Int)<n:=by omega
   have hkl:l.take k=l:=List.take_of_length_le (by have:=h.1;omega)
   rw[hkl]
   generalize hZ:(aj l).length=Z at *
   have hZ40:Z<2^40:=hl
   have hZn:¬(Z:Int)<128:=by have h1:=hids.out;omega
   have hidx:=Hid.mk (And.intro hnx (And.intro hZ hZ40))
   clear h hl hn hnx hkl hZ40
   obtain⟨i0,hi,hz0,hz1,hz2⟩:=info_parts rV
   go_wp2_with (at_make;refine wpList_make_own _ rfl _ _ 22 rfl w.heap.size 5 i0 (.int .u8 0) 1 Tryz.underlying22 hi hz0 hz1 .i64 .i64 (Z:Int) Z rfl rfl rfl ?m1 ?m2 ?m3 ?_)
   case m1=>have:=hidx.out.2.2;omega
   case m2=>have:=hidx.out.2.2;unfold maxLen;omega
   case m3=>exact hidx.out.1.size
   intro wa hown hgr
   have hida:=Hid.mk (And.intro hown (hidx.out.1.grown hgr hidx.out.1.size (fun k hk=>by cases hk)))
   clear hown hgr
   go_wp2
   go_loopw [6,29] (fun v i wr=>JM l n w v i wr) (fun _ i _=>n-(intOf i).toNat)
   case atStart=>exact⟨0,Nat.zero_le _,rfl,hida.out.1,hida.out.2⟩
   case round=>
    obtain⟨k,hk,rfl,hown,hnx⟩:=hrel
    by_cases hlt:k<n
    ·obtain⟨x,b,hx,c0,c1,c2,_⟩:=l9 hid0.out.1 hB hnx hlt
     have hki:(k:Int)<n:=by omega
     have hsn:=cU hx
     have hle:=cB l (k+1)
     have hZl:=hidx.out.2
     rw[hsn,List.length_append]at hle
     have e2:aZ x=cg x.c.code x.c.val++x.c.val:=rfl
     rw[e2]at hsn hle
     have wV:(k:Int)<1073741824:=by have:=hid0.out.2.2;omega
     generalize hS:(cg x.c.code x.c.val++x.c.val)=S at *
     have hM:(aj (l.take k)).length+S.length<2^40:=by omega
     have hidn:=Hid.mk (And.intro hsn (And.intro hM (And.intro hown hnx)))
     clear hsn hle hZl e2 hS hM hown hnx hx
     go_wp2_with (at_builtin;refine Lib.wpList_append_own_string _ rfl _ _ 22 9 rfl w.heap.size 5 i0 Tryz.underlying22 Tryz.underlying9 hi hz0 hz1 hz2 _ _ _ rfl (hidn.out.2.2.1.alloc _) ⟨S.toArray⟩ rfl ?c3 ?c4 ?c5 ?_)
     case c3=>rw[aB];have:=hidn.out.2.1;unfold maxLen;omega
     case c4=>rw[aB];have:=hidn.out.2.1;omega
     case c5=>exact(hidn.out.2.2.2.alloc hidn.out.2.2.2.size _).size
     intro v' w2 hown' hgrow _
     have hb2:Below w.heap.size w w2:=by
      have hna:=fun o=>hidn.out.2.2.2.alloc hidn.out.2.2.2.size o
      exact(hna _).grown hgrow (hna _).size (fun k hk=>(hidn.out.2.2.1.lt k hk).1)
     have hido:=Hid.mk (And.intro hown' hb2)
     clear hown' hgrow hb2
     go_wp2
     obtain⟨hown',hb2⟩:=hido.out
     refine⟨⟨k+1,by omega,rfl,?_,hb2⟩,qm hki⟩
     have e1:(aj (l.take (k+1))).length=(aj (l.take k)).length+(⟨S.toArray⟩:ByteArray).size:=by rw[hidn.out.1,List.length_append,aB]
     rw[e1,hidn.out.1]
     have e3:ey (aj (l.take k)++S)=ey (aj (l.take k))++Lib.strCells ⟨S.toArray⟩:=by rw[tQ];simp[ey]
     rw[e3]
     exact hown'
    ·have hki:¬(k:Int)<n:=by omega
     have hfin:=Hid.mk (And.intro hown hnx)
     clear hown hnx
     go_wp2
     go_ret
     obtain⟨hown,hnx⟩:=hfin.out
     exact⟨_,rfl,JR (by omega) hid0.out.1.1 hown,hnx⟩
theorem ql(ad:Addr)(n c:Nat)(l:List CT)(B:Nat)(w:World)(h:RowAt MaX 3 w B (some ad) n l)(hB:B<=w.heap.size)(hn:n<2^30)(hl:(aj l).length<2^40) :
  Calls Tryz.prog 60 #[.slice (some ad) n c] w (bF (Ju l w) w):=by
 by_cases h1:(aj l).length<128
 ·exact oo ad n c l B w h hB hn hl h1
 ·exact xr ad n c l B w h hB hn hl h1
end
section
open Go Go.Rx Go.RowKit
theorem Av{Q:SE->List Value->World->Prop}{β0:Nat->Nat}{n0:Nat}{s:SS}{w:World}{bs:List Nat}{key:Int}{l1:Bool}{A:Option Addr}{n c:Nat}{x:CT}{B:Nat}{objs:List SObj}{k:MV->World->List Nat->T}(hf:KFine bs w s)(hs0:s.objs=objs)(hkey:key=x.c.code)
  (hn:(n:Int)<2^46) (hB:∀wc,Keep bs w wc->B<=wc.heap.size/\Bts wc B A n x.c.val)
  (hk:∀y wc w' bs',Keep bs w wc->Below wc.heap.size wc w'->Keep bs w w'->(∀b∈bs',(b∈bs∨w.heap.size<=b)/\b<wc.heap.size)->MaX (Rx.since wc w') w'.heap.size x [.string y.s,.pointer (some y.p),.int .i64 y.at'] ->
   (k y w' bs').holds { P:=Tryz.prog,β0:=β0,n0:=n0,Q:=Q }) :
  (T.call 39 [.agg [.int .i64 key l1,.xs A n c]] s MV (fun x=>(.agg [.str x.s false,.xp x.p,.int .i64 x.at' false],objs)) k).holds { P:=Tryz.prog,β0:=β0,n0:=n0,Q:=Q }:=by
 subst hkey
 refine dI (R:=fun(y:MV) wc w'=>MaX (Rx.since wc w') w'.heap.size x [.string y.s,.pointer (some y.p),.int .i64 y.at']) hf (fun x=>⟨hs0.symm,trivial,trivial,trivial,trivial⟩)
  (fun β wc hst ho hkp=>?_) (fun y wc w' bs' h1 hr h2 h3 h4=>hk y wc w' bs' h1 h2 h3 h4 hr)
 obtain⟨h1,h2⟩:=hB wc hkp
 refine(Ii x.c.code x.hs.tab A n c x.c.val B wc h2 h1 hn).mono ?_
 rintro e w' ⟨v,rfl,⟨b,rfl,hp⟩,hb'⟩
 exact⟨⟨⟨(cg x.c.code x.c.val++x.c.val).toArray⟩,⟨b,0,none⟩,(cg x.c.code x.c.val).length⟩,rfl,hb',b,rfl,hp.since⟩
def JN{γ:Type}(R:World->Nat->γ->List Value->Prop)(size:Nat)(l:List γ)(w:World)(v:Value)(w':World):Prop:=∃A k c,v=.slice A k c/\RowAt R size (Rx.since w w') w'.heap.size A k l/\k<=c
theorem mM(A:Option Addr)(n c:Nat)(l:List CT)(B:Nat)(w:World)(h:CTsAt w B A n l)(hB:B<=w.heap.size)(hn:(n:Int)<2^40)(hv:∀x∈l,x.c.val.length<=2147483647) :
  Calls Tryz.prog 53 #[.slice A n c] w (bF (JN MaX 3 l w) w):=by
 have hl:=h.1
 refine aH (hk:=Fl 19) (n:=1000) (args:=[.xs A n c]) ⟨trivial,trivial⟩ ?_
 rw[Qb]
 refine Dl (Fine.start _ _) 64 3 LA (α:=Nat) (fun i=>[.xs A n c,.int .i64 n false,.int .i64 i false]) (fun i=>n-i) (IR MaX l n) (L9 MaX 3 l [])
  (fun _=>ej) 1000 (by simp) (by simp[LA]) (by simp[LA]) (fun _=>⟨trivial,trivial,trivial,trivial⟩) rfl rfl rfl (by simp) (by simp) (fun _=>⟨trivial,trivial⟩) (fun _=>trivial) ?_ ?_ ?_ ?_
 ·rintro w0 i w1 g hbw0 hI hb0 hbw
  refine ah (PA A n c i w1 g) (ak (fun hlt=>?_) (fun hge=>wS MaX.lasts hl (by omega) hI hb0 (fun _=>rfl) (ps:=[]) (us:=[]) (fun _=>rfl)))
  have hlt':i<n:=by omega
  have hB1:B<=w1.heap.size:=Nat.le_trans hB hbw.size
  obtain⟨ad,x,rfl,hx,hR⟩:=(h.below (hbw.mono hB) (Nat.le_refl _)).get hlt'
  have hxm:=List.mem_of_getElem? hx
  obtain⟨f1,f2,f3⟩:=hR.1.facts
  refine aa (by omega) (aa rfl (aa (hR.1.canRead hB1 (by simp)) ?_))
  refine Av (x:=x) (B:=B) (bs:=[]) ⟨rfl,Keep.refl _ _,by simp⟩ rfl f1 ?_ (fun wc hk=>⟨Nat.le_trans hB1 hk.size,f2.below (hk.belowB hB1 (by simp)) (Nat.le_refl _)⟩) fun m wc w2 bs' hk1 hb2 hk2 hbs' hnew=>?_
  ·have:=f2.1
   have:=hv x hxm
   exact_mod_cast (by omega:((iO w1 ((ad.add (i*2)).add 1):Nat):Int)<2^46)
  ·exact ya MaX.lasts hlt' hx hI hb0 hk1 hb2 hk2 hbs' (by omega) (by decide) (vs:=[.string m.s,.pointer (some m.p),.int .i64 m.at']) (fun _=>rfl) (fun _=>rfl) hnew (fun _=>by rw[gz hlt' (by omega)];rfl)
 ·rintro w0 i w1 g b kk cc Ls hbw0 hI hb0 hbw hb1 hb2 hLs hkc
  refine ah (PY A n c i kk cc Ls w1 [b] g) (ak (fun hlt=>?_) (fun hge=>wT MaX.lasts hl (by omega) hI hb0 hb1 hLs hkc (ps:=[]) (us:=[]) (fun _=>rfl)))
  have hlt':i<n:=by omega
  have hB1:B<=w1.heap.size:=Nat.le_trans hB hbw.size
  have hBb:∀b'∈[b],B<=b':=fun b' hb'=>by
   have:=hbw0.size
   simp at hb'
   omega
  obtain⟨ad,x,rfl,hx,hR⟩:=(h.below (hbw.mono hB) (Nat.le_refl _)).get hlt'
  have hxm:=List.mem_of_getElem? hx
  obtain⟨f1,f2,f3⟩:=hR.1.facts
  refine aa (by omega) (aa rfl (aa (hR.1.canRead hB1 hBb) ?_))
  refine Av (x:=x) (B:=B) (bs:=[b]) ⟨rfl,Keep.refl _ _,fun b hb=>.inl hb⟩ rfl f1 ?_ (fun wc hk=>⟨Nat.le_trans hB1 hk.size,f2.below (hk.belowB hB1 hBb) (Nat.le_refl _)⟩) fun m wc w2 bs' hk1 hb2 hk2 hbs' hnew=>?_
  ·have:=f2.1
   have:=hv x hxm
   exact_mod_cast (by omega:((iO w1 ((ad.add (i*2)).add 1):Nat):Int)<2^46)
  ·exact yb MaX.lasts hlt' hx hI hb0 hb1 hLs hkc hk1 hb2 hk2 hbs' (by omega) (by omega) (vs:=[.string m.s,.pointer (some m.p),.int .i64 m.at']) rfl (fun _=>rfl) hnew (fun _=>by rw[gz hlt' (by omega)];rfl)
 ·intro β w0 hst hb
  exact⟨0,rfl,Nat.zero_le _,.nil⟩
 ·rintro β w0 hst hb e lv w' ⟨rfl,A',k,c',rfl,hmas,hcap⟩ hb0 hb1
  exact .inl ⟨⟨A',k,c'⟩,rfl,rfl,fun g bs hbs=>aN (Fine.mk' hb1 fun b hb=>(hbs b hb).1) fun β w2 hst2 hb2=>⟨A',k,c',rfl,hmas.sub MaX.lasts (kc (hst2.old rfl) rfl (fun b hb=>(hbs b hb).2) hb.size) (hst2.old rfl).sz,hcap⟩⟩
theorem FI:∀k∈aY,(an k).tr.oneCell'=true:=by decide
theorem MaX.r{w:World}{B:Nat}{x:CT}{vs:List Value}(hl:x.c.val.length<=2147483647)(h:MaX w B x vs):MaR w B x.c vs:=by
 obtain⟨b,rfl,h1,A,c,h2,_⟩:=h
 refine⟨cg x.c.code x.c.val,⟨b,0,none⟩,rfl,⟨h1,⟨⟨(an x.c.code).name.toArray⟩,A,(an x.c.code).vc.length,c,(an x.c.code).size,(an x.c.code).path,⟨(an x.c.code).tr,FI _ x.hs.tab⟩⟩,fun i v hi=>?_⟩,Ad x.hs.tab hl⟩
 have ha:(Addr.add ⟨b,0,none⟩ i)=⟨b,i,none⟩:=by unfold Addr.add;split <;> simp_all
 rw[ha]
 exact cellOf h2 (by simpa using hi)
theorem Ln{w:World}{B:Nat}{A:Option Addr}{n:Nat}{l:List CT}(h:RowAt MaX 3 w B A n l)(hl:∀x∈l,x.c.val.length<=2147483647):RowAt MaR 3 w B A n (l.map (·.c)):=by
 refine⟨by rw[List.length_map];exact h.1,fun h0=>?_⟩
 obtain⟨a,ha,hb,hx⟩:=h.2 h0
 refine⟨a,ha,hb,fun i y hi=>?_⟩
 rw[List.getElem?_map]at hi
 cases hc:l[i]? with
 |none=>rw[hc]at hi;cases hi
 |some x=>
  rw[hc]at hi
  cases hi
  obtain⟨h1,vs,h2,h3⟩:=hx i x hc
  exact⟨h1,vs,h2.r (hl x (List.mem_of_getElem? hc)),h3⟩
theorem yi{w:World}{B:Nat}{A:Option Addr}{n:Nat}{l:List Comp}(h:RowAt CompR 2 w B A n l)(hl:∀x∈l,(x.val.length:Int)<2^48):CompsAt w B A n l:=by
 refine⟨h.1,fun h0=>?_⟩
 obtain⟨a,ha,hb,hx⟩:=h.2 h0
 refine⟨a,ha,hb,fun i y hi=>?_⟩
 obtain⟨h1,vs,⟨A',n',c',rfl,h2⟩,h3⟩:=hx i y hi
 have e0:=h3 0 _ rfl
 rw[Rx.add_zero]at e0
 exact⟨h1,e0,⟨A',n',c',h3 1 _ rfl,h2⟩,hl y (List.mem_of_getElem? hi)⟩
theorem sY(A:Option Addr)(n c:Nat)(l:List CT)(B:Nat)(w:World)(h:RowAt MaX 3 w B A n l)(hB:B<=w.heap.size)(hn:(n:Int)<2^40)(hv:∀x∈l,x.c.val.length<=2147483647) :
  Calls Tryz.prog 30 #[.slice A n c] w (bF (H2 CompR 2 (l.map (·.c)) w) w):=
 sX A n c _ B w (Ln h hv) hB hn
end
section
open Go Go.Rx Go.RowKit
def JI:SE->List Nat
 | .normal=>[0,1,5]
 | .ret=>[4]
 |_=>[]
def Df:LoopHook:=bK 25 Nat .ret [4] (fun i=>[.int .i64 (i:Int) false]) Unit (.exit 0) [] (fun _=>[])
def J9:Hooks:={ calls:=fun _=>none,loops:=fun _ _=>some Df }
def JK:SE->List Nat
 | .normal=>[0,1,5]
 | .exit _=>[0,5]
 |_=>[]
def Di:LoopHook:=bK 33 (ByteArray×Nat) (.exit 0) [0,5] (fun z=>[.str z.1 false,.int .i64 (z.2:Int) false]) Unit .ret [] (fun _=>[])
def Kh:Hooks:={ calls:=fun _=>none,loops:=fun _ k=>if k=3 then some Di else none }
noncomputable abbrev uG(s:ByteArray):List SV:=([(.str s false),(.str (ByteArray.mk #[47]) true),(.tup []),(.tup []),(.int .i64 0 true),(.int .i64 0 true)]++List.replicate 19 aA)
theorem LN(s:ByteArray)(w:World):am Tryz.prog J9 1000 92 [.str s false,.str ⟨#[47]⟩ true] (SS.at w) =
(.loop 92 (ar Tryz.prog 92 3) (uG s) (SS.mk [] [] true w []) (LoopHook.X (Df)) (LoopHook.out (Df) (uG s) (SS.mk [] [] true w [])) (fun x0 w0 b0=>(.leaf .ret [(.int .i64 ((↑x0.fst:Int)) false)] (SS.mk [] [] true w0 b0))) (LoopHook.Y (Df)) (LoopHook.out' (Df) (uG s) (SS.mk [] [] true w [])) (fun x0 w0 b0=>(.leaf .ret [(.int .i64 (-1) true)] (SS.mk [] [] true w0 b0)))):=by kernel_rfl
theorem Qp(s:ByteArray)(w:World):(by have h:=LN s w;unfold uG at h;exact type_of% h):=LN s w
theorem P4(s:ByteArray)(i:Nat)(w:World)(g:Nat->Value):aK Tryz.prog au 1000 92 (ar Tryz.prog 92 3) (az ((JI .normal).zip [.str s false,.str ⟨#[47]⟩ true,.int .i64 i false]) g 25 0) (fun e a s=>.leaf e (ep JI e a) s) (SS.at w) =
 (.split (decide (i64.wrap ((↑i:Int)+(↑(1:Nat):Int))<=(↑s.size:Int)))
  (.need ((0:Int)<=i64.wrap ((↑i:Int)+(↑(1:Nat):Int))/\i64.wrap ((↑i:Int)+(↑(1:Nat):Int))<=(↑s.size:Int))
  (.need ((0:Int)<=(↑i:Int)/\(↑i:Int)<=(↑(i64.wrap ((↑i:Int)+(↑(1:Nat):Int))).toNat:Int))
  (.split ((s.extract (↑i:Int).toNat (i64.wrap ((↑i:Int)+(↑(1:Nat):Int))).toNat).toList == (ByteArray.mk #[(47:UInt8)]).toList)
  (.leaf .ret [(.int .i64 ((↑i:Int)) false)] (SS.mk [] [] true w []))
  (.leaf .normal [(.str s false),(.str (ByteArray.mk #[47]) true),(.int .i64 (i64.wrap ((↑i:Int)+(1:Int))) false)] (SS.mk [] [] true w [])))))
  (.leaf (.exit 0) [] (SS.mk [] [] true w []))):=by kernel_rfl
noncomputable abbrev uF(s:ByteArray):List SV:=([(.str s false),(.str (ByteArray.mk #[47]) true),(.tup []),(.tup []),(.str (ByteArray.mk #[]) true),(.int .i64 ((↑s.size:Int)) false),(.tup []),(.tup []),(.str s false),(.int .i64 ((↑s.size:Int)) false)]++List.replicate 23 aA)
theorem LS(s:ByteArray)(w:World):am Tryz.prog Kh 1000 77 [.str s false,.str ⟨#[47]⟩ true] (SS.at w) =
(.loop 77 (ar Tryz.prog 77 3) (uF s) (SS.mk [] [] true w []) (LoopHook.X (Di)) (LoopHook.out (Di) (uF s) (SS.mk [] [] true w [])) (fun x0 w0 b0=>(.need ((0:Int)<=(↑x0.fst.snd:Int)/\(↑x0.fst.snd:Int)<=(↑x0.fst.fst.size:Int)) (.leaf .ret [(.str (x0.fst.fst.extract 0 (↑x0.fst.snd:Int).toNat) false)] (SS.mk [] [] true w0 b0)))) (LoopHook.Y (Di)) (LoopHook.out' (Di) (uF s) (SS.mk [] [] true w [])) (fun x0 w0 b0=>(.leaf .ret [(.raw (x0.snd 4))] (SS.mk [] [] true w0 b0)))):=by kernel_rfl
theorem Qx(s:ByteArray)(w:World):(by have h:=LS s w;unfold uF at h;exact type_of% h):=LS s w
theorem P7(s:ByteArray)(i:Nat)(w:World)(g:Nat->Value):aK Tryz.prog au 1000 77 (ar Tryz.prog 77 3) (az ((JK .normal).zip [.str s false,.str ⟨#[47]⟩ true,.int .i64 i false]) g 33 0) (fun e a s=>.leaf e (ep JK e a) s) (SS.at w) =
 (.split (decide ((↑i:Int) > (0:Int)))
  (.need ((0:Int)<=i64.wrap ((↑i:Int)-(1:Int))/\i64.wrap ((↑i:Int)-(1:Int))<(↑s.size:Int))
  (.split ((↑(47:Nat):Int) == (↑(s.data.toList.getD (i64.wrap ((↑i:Int)-(1:Int))).toNat (0:UInt8)).toNat:Int))
  (.leaf .normal [(.str s false),(.str (ByteArray.mk #[47]) true),(.int .i64 (i64.wrap ((↑i:Int)-(1:Int))) false)] (SS.mk [] [] true w []))
  (.leaf (.exit 0) [(.str s false),(.int .i64 ((↑i:Int)) false)] (SS.mk [] [] true w []))))
  (.leaf (.exit 0) [(.str s false),(.int .i64 ((↑i:Int)) false)] (SS.mk [] [] true w []))):=by kernel_rfl
def OE(l:List UInt8)(v:Value)(_:World):Prop:=(v=.int .i64 (-1)/\∀x∈l,x≠47)∨(∃a b,l=a++47 :: b/\(∀x∈a,x≠47)/\v=.int .i64 (a.length:Int))
theorem Fe{l:List UInt8}{i:Nat}(h:i<l.length):((⟨l.toArray⟩:ByteArray).extract i (i+1)).toList=[l.getD i 0]:=by
 have e:(⟨l.toArray⟩:ByteArray).extract i (i+1)=⟨((l.drop i).take 1).toArray⟩:=by
  apply ByteArray.ext
  rw[ByteArray.data_extract]
  apply Array.ext'
  simp
 rw[e,ByteArray.toList_eq,List.getD_eq_getElem?_getD,List.getElem?_eq_getElem h]
 simp only[List.drop_eq_getElem_cons h]
 rfl
theorem B7(l:List UInt8)(hl:l.length<2^61)(w:World):Calls Tryz.prog 92 #[.string ⟨l.toArray⟩,.string ⟨#[47]⟩] w (bF (OE l) w):=by
 refine aH (hk:=J9) (n:=1000) (args:=[.str ⟨l.toArray⟩ false,.str ⟨#[47]⟩ true]) ⟨trivial,trivial,trivial⟩ ?_
 refine ah (Qp _ w) ?_
 have hsz:(⟨l.toArray⟩:ByteArray).size=l.length:=aB _
 refine fm (w:=w) (Fine.start w _) JI (α:=Nat) (fun i=>[.str ⟨l.toArray⟩ false,.str ⟨#[47]⟩ true,.int .i64 i false]) (fun i=>l.length-i) (fun _ i _=>i<=l.length/\∀j,j<i->l.getD j 0≠47)
  (fun _ e lv _=>(e=.ret/\∃i:Nat,lv=[.int .i64 (i:Int)]/\i<l.length/\l.getD i 0=47/\∀j,j<i->l.getD j 0≠47)∨(e=.exit 0/\lv=[]/\∀j,j<l.length->l.getD j 0≠47)) (fun _=>au) 1000 (by simp) (by simp[JI]) (by simp[JI]) (fun _=>⟨trivial,trivial,trivial,trivial⟩) rfl rfl rfl
  (by simp) (by simp) (fun _=>⟨trivial,trivial⟩) (fun _=>trivial) ?_ ?_ ?_
 ·rintro w0 i w1 g _ ⟨hi,hall⟩ hb0 _
  refine ah (P4 _ i w1 g) ?_
  have hi1:i64.wrap ((i:Int)+((1:Nat):Int))=((i+1:Nat):Int):=by rw[show((1:Nat):Int)=1 from rfl,ax (by omega) (by omega)];omega
  have hi1':i64.wrap ((i:Int)+1)=((i+1:Nat):Int):=hi1
  rw[hi1,hi1',hsz]
  simp only[Int.toNat_natCast]
  refine ak (fun hlt=>?_) (fun hge=>cy (Fine.nil hb0) (by simp) fun β w' _ _=>.inr ⟨rfl,rfl,fun j hj=>hall j (by omega)⟩)
  have hlt':i<l.length:=by omega
  refine aa (by omega) (aa (by omega) ?_)
  rw[Fe hlt',ByteArray.toList_eq]
  refine af (fun he=>cy (Fine.nil hb0) (by simp) fun β w' _ _=>.inl ⟨rfl,i,rfl,hlt',by simpa using he,hall⟩) (fun hne=>dM (Fine.nil hb0) fun β w' _ _=>⟨i+1,by omega,rfl,by omega,fun j hj=>?_⟩)
  by_cases h:j=i
  ·rw[h];simpa using hne
  ·exact hall j (by omega)
 ·intro β w0 hst hb
  exact⟨0,rfl,Nat.zero_le _,fun j hj=>absurd hj (Nat.not_lt_zero j)⟩
 ·rintro β w0 hst hb e lv w' (⟨rfl,i,rfl,hi,h47,hall⟩ |⟨rfl,rfl,hall⟩) hb0 hb1
  ·refine .inl ⟨i,rfl,rfl,fun g bs hbs=>aN (Fine.mk' hb1 hbs) fun β w' _ _=>.inr ⟨l.take i,l.drop (i+1),?_,?_,?_⟩⟩
   ·have:l.getD i 0=l[i]:=by rw[List.getD_eq_getElem?_getD,List.getElem?_eq_getElem hi];rfl
    rw[<- h47,this,<- List.drop_eq_getElem_cons hi,List.take_append_drop]
   ·intro x hx
    obtain⟨j,hj,rfl⟩:=List.getElem_of_mem hx
    have hj':j<i:=by simp at hj;omega
    have:=hall j hj'
    rw[List.getD_eq_getElem?_getD,List.getElem?_eq_getElem (by omega)]at this
    rw[List.getElem_take]
    exact this
   ·rw[List.length_take,Nat.min_eq_left (by omega)]
    rfl
  ·refine .inr ⟨(),rfl,rfl,fun g bs hbs=>aN (Fine.mk' hb1 hbs) fun β w' _ _=>.inl ⟨rfl,fun x hx=>?_⟩⟩
   obtain⟨j,hj,rfl⟩:=List.getElem_of_mem hx
   have:=hall j hj
   rw[List.getD_eq_getElem?_getD,List.getElem?_eq_getElem hj]at this
   exact this
theorem EW(l:List UInt8)(x:UInt8)(hx:x≠47)(hl:l.length<2^61)(w:World):Calls Tryz.prog 77 #[.string ⟨(l++[x]).toArray⟩,.string ⟨#[47]⟩] w (bF (fun v _=>v=.string ⟨(l++[x]).toArray⟩) w):=by
 refine aH (hk:=Kh) (n:=1000) (args:=[.str ⟨(l++[x]).toArray⟩ false,.str ⟨#[47]⟩ true]) ⟨trivial,trivial,trivial⟩ ?_
 refine ah (Qx _ w) ?_
 have hsz:(⟨(l++[x]).toArray⟩:ByteArray).size=l.length+1:=by rw[aB];simp
 have hd:(⟨(l++[x]).toArray⟩:ByteArray).data.toList.getD l.length 0=x:=by
  show(l++[x]).getD l.length 0=x
  simp
 rw[hsz]
 refine fm (w:=w) (Fine.start w _) JK (α:=Unit) (fun _=>[.str ⟨(l++[x]).toArray⟩ false,.str ⟨#[47]⟩ true,.int .i64 ((l.length+1:Nat):Int) false]) (fun _=>0) (fun _ _ _=>True)
  (fun _ e lv _=>e=.exit 0/\lv=[.string ⟨(l++[x]).toArray⟩,.int .i64 ((l.length+1:Nat):Int)]) (fun _=>au) 1000 (by simp) (by simp[JK]) (by simp[JK]) (fun _=>⟨trivial,trivial,trivial,trivial⟩) rfl rfl rfl
  (by simp) (by simp) (fun _=>⟨trivial,trivial,trivial⟩) (fun _=>trivial) ?_ ?_ ?_
 ·rintro w0 ⟨⟩ w1 g _ _ hb0 _
  refine ah (P7 _ (l.length+1) w1 g) ?_
  have hi1:i64.wrap (((l.length+1:Nat):Int)-1)=((l.length:Nat):Int):=by rw[ax (by omega) (by omega)];omega
  rw[hi1,hsz]
  simp only[Int.toNat_natCast]
  rw[hd]
  refine ak (fun hlt=>aa (by omega) (af (fun h47=>?_) (fun _=>cy (Fine.nil hb0) (by simp) fun β w' _ _=>⟨rfl,rfl⟩))) (fun h=>absurd h (by omega))
  exact absurd (UInt8.toNat_inj.1 (by have:=eq_of_beq h47;have h2:(47:Int)=((x.toNat:Nat):Int):=this;show x.toNat=47;omega)) hx
 ·intro β w0 hst hb
  exact⟨(),rfl,trivial⟩
 ·rintro β w0 hst hb e lv w' ⟨rfl,rfl⟩ hb0 hb1
  refine .inl ⟨(_,_),rfl,rfl,fun g bs hbs=>aa (by dsimp only;rw[hsz];omega) (aN (Fine.mk' hb1 hbs) fun β w' _ _=>?_)⟩
  dsimp only
  rw[Int.toNat_natCast,<- hsz]
  show Value.string _=_
  rw[ByteArray.extract_zero_size]
end
section
open Go Go.RowKit Go.Rx
theorem Kk:(Tryz.prog.info? 9).map (fun i=>(i.zero,i.size,i.bytes))=some (some (.string ⟨#[]⟩),1,16):=by kernel_rfl
abbrev xF(l:List (List UInt8)):List Value:=l.map fun x=>Value.string ⟨x.toArray⟩
def StrsAt(w:World)(B:Nat)(A:Option Addr)(n:Nat)(l:List (List UInt8)):Prop:=SeqAt (fun a (x:List UInt8)=>w.cell? a=some (.string ⟨x.toArray⟩)) 1 B A n l
theorem StrsAt.below{w w':World}{B B':Nat}{A:Option Addr}{n:Nat}{l:List (List UInt8)}(h:StrsAt w B A n l)(hb:Below B w w')(hB:B<=B'):StrsAt w' B' A n l:=
 h.imp hB fun a x ha hx=>by rw[cM hb ha];exact hx
theorem xG(a:List (List UInt8))(x:List UInt8):xF (a++[x])=xF a++[Value.string ⟨x.toArray⟩]:=by simp[xF]
def OH(l:List UInt8)(w:World)(v:Value)(w':World):Prop:=∃b c,v=.slice (some ⟨b,0,none⟩) (b7 l).length c/\(b7 l).length<=c/\StrsAt w' w'.heap.size (some ⟨b,0,none⟩) (b7 l).length (b7 l)/\∃cur,w'.heap[b]?=some (.cells cur 9 (0,0))/\cur.toList.take (b7 l).length=xF (b7 l)
theorem DE{w:World}{B:Nat}{v:Value}{l:List (List UInt8)}(h:w.ownsRow B 9 1 v l.length (xF l))(hl:l≠[]):∃b c,v=.slice (some ⟨b,0,none⟩) l.length c/\l.length<=c/\StrsAt w w.heap.size (some ⟨b,0,none⟩) l.length l/\∃cur,w.heap[b]?=some (.cells cur 9 (0,0))/\cur.toList.take l.length=xF l:=by
 rcases h.2 with⟨_,h0⟩ |⟨b,c,cur,rfl,hB,hg,hc,_,hsz,htk⟩
 ·exact absurd (List.eq_nil_of_length_eq_zero h0) hl
 ·refine⟨b,c,rfl,hc,⟨rfl,fun _=>⟨_,rfl,cO hg,fun i x hi=>?_⟩⟩,cur,hg,by rw[<- htk,Nat.mul_one]⟩
  have ha:(Addr.add ⟨b,0,none⟩ (i*1))=⟨b,i,none⟩:=by unfold Addr.add;split <;> simp_all
  have hil:i<l.length:=(List.getElem?_eq_some_iff.1 hi).1
  rw[ha]
  show w.cell? _=_
  rw[Lib.cell_of_heap hg]
  have e1:(cur.toList.take (l.length*1))[i]?=cur.toList[i]?:=by rw[List.getElem?_take,if_pos (by omega)]
  rw[<- Array.getElem?_toList,<- e1,htk,List.getElem?_map,hi]
  rfl
def Mg(l:List UInt8)(w:World)(s v:Value)(wr:World):Prop:=∃(r:List UInt8) (pre:List (List UInt8)),s=.string ⟨r.toArray⟩/\r.length<=l.length/\b7 l=pre++b7 r/\wr.ownsRow w.heap.size 9 1 v pre.length (xF pre)/\Below w.heap.size w wr
theorem pU:∀l:List UInt8,(b7 l).length<=l.length+1
 |[]=>by simp[b7]
 |x :: r=>by
  have:=pU r
  rw[b7]
  split
  ·simp only[List.length_cons];omega
  ·split
   ·simp
   ·rename_i h
    rw[h]at this
    simp only[List.length_cons]at this ⊢
    omega
def lenOf:Value->Nat
 | .string s=>s.size
 |_=>0
theorem B8(l:List UInt8)(hl:l.length<2^40)(w:World):Calls Tryz.prog 78 #[.string ⟨l.toArray⟩,.string ⟨#[47]⟩] w (bF (OH l w) w):=by
 have hid0:=Hid.mk hl
 clear hl
 obtain⟨i0,hi,hz0,hz1,hz2⟩:=info_parts Kk
 go_enter Tryz.func78,Tryz.ntmps78
 go_wp2
 go_loopw [0,5] (fun s v wr=>Mg l w s v wr) (fun s _ _=>lenOf s)
 case atStart=>exact⟨l,[],rfl,Nat.le_refl _,rfl,World.ownsRow_nil _ _ _ _,Below.refl _ _⟩
 case round=>
  obtain⟨r,pre,rfl,hrl,hcut,hown,hnx⟩:=hrel
  have hl:=hid0.out
  have hid1:=Hid.mk (And.intro hrl (And.intro hcut (And.intro hown hnx)))
  have hrl2:r.length<2^61:=by omega
  clear hrl hcut hown hnx hl
  go_wp2_with fail
  refine(B7 r hrl2 _).mono ?_
  rintro e w1 ⟨v,rfl,hv,hb1⟩
  obtain⟨hrl,hcut,hown,hnx⟩:=hid1.out
  have hl:=hid0.out
  have own1:=me hown hb1 (Nat.le_refl _)
  have hnx1:Below w.heap.size w w1:=hnx.trans (hb1.mono hnx.size)
  have hpl:pre.length+(b7 r).length<=l.length+1:=by have:=pU l;rw[hcut,List.length_append]at this;exact this
  rcases hv with⟨rfl,hall⟩ |⟨a,b,hr,ha,rfl⟩
  ·have hc:=g7 hall
   have hidn:=Hid.mk (And.intro (And.intro hpl hl) (And.intro hnx1.size (And.intro hnx1 (And.intro own1 (And.intro hcut hc)))))
   clear hrl hcut hown hnx hl hnx1 hpl hall hc hb1 own1 hrl2
   go_wp2_with (at_builtin;refine wpList_append_own _ rfl _ _ 113 rfl w.heap.size 9 i0 (.string ⟨#[]⟩) 1 16 Tryz.underlying113 hi hz0 hz1 hz2 rfl (by decide) _ _ _ rfl (hidn.out.2.2.2.1.alloc _) ⟨w1.heap.size,0,none⟩ 1 1 [.string ⟨r.toArray⟩] rfl rfl ?c1 ?c2 ?c3 ?c4 ?c5 ?_)
   case c1=>
    intro j u hj
    match j,hj with
    |0,hj=>simp at hj;subst hj;simp[Addr.add]
   case c2=>intro u hu;simp at hu;subst hu;rfl
   case c3=>obtain⟨⟨_,_⟩,_⟩:=hidn.out;unfold maxLen;omega
   case c4=>obtain⟨⟨_,_⟩,_⟩:=hidn.out;omega
   case c5=>have:=hidn.out.2.1;rw[bt];omega
   intro v' w2 hown' hgrow _
   have h1:=Hid.mk (And.intro hown' hgrow)
   clear hown' hgrow
   go_wp2
   go_ret
   refine⟨_,rfl,?_,(hidn.out.2.2.1.alloc hidn.out.2.1 _).grown h1.out.2 (by have:=hidn.out.2.1;rw[bt];omega) (fun k hk=>(hidn.out.2.2.2.1.lt k hk).1)⟩
   have hc:=hidn.out.2.2.2.2
   refine DE (B:=w.heap.size) (l:=b7 l) ?_ (s9 l)
   rw[hc.1,hc.2,List.length_append,xG]
   exact h1.out.1
  ·have hc:b7 r=a :: b7 b:=by rw[hr];exact gM b ha
   have hcut2:b7 l=(pre++[a])++b7 b:=by rw[hcut,hc];simp
   have hbl:b.length<r.length:=by rw[hr];simp;omega
   have hext:(⟨r.toArray⟩:ByteArray).extract 0 a.length=⟨a.toArray⟩:=by
    have:=CB r a.length
    apply ByteArray.ext
    rw[ByteArray.data_extract]
    apply Array.ext'
    rw[hr]
    simp
   have hext2:(⟨r.toArray⟩:ByteArray).extract (a.length+1) r.length=⟨b.toArray⟩:=by
    apply ByteArray.ext
    rw[ByteArray.data_extract]
    apply Array.ext'
    rw[hr]
    simp
    exact List.take_of_length_le (by omega)
   have hsz:(⟨r.toArray⟩:ByteArray).size=r.length:=aB _
   have hal:a.length+1+b.length=r.length:=by rw[hr];simp;omega
   have hidn:=Hid.mk (And.intro (And.intro hpl hl) (And.intro hnx1.size (And.intro hnx1 (And.intro own1 (And.intro hcut2 (And.intro hrl hbl))))))
   clear hr hrl hcut hown hnx hl hnx1 hpl hc hb1 own1 hcut2 ha hbl
   go_wp2_with (at_builtin;refine wpList_append_own _ rfl _ _ 113 rfl w.heap.size 9 i0 (.string ⟨#[]⟩) 1 16 Tryz.underlying113 hi hz0 hz1 hz2 rfl (by decide) _ _ _ rfl (hidn.out.2.2.2.1.alloc _) ⟨w1.heap.size,0,none⟩ 1 1 [.string ⟨a.toArray⟩] rfl rfl ?c1 ?c2 ?c3 ?c4 ?c5 ?_)
   case c1=>
    intro j u hj
    match j,hj with
    |0,hj=>simp at hj;subst hj;simp[Addr.add]
   case c2=>intro u hu;simp at hu;subst hu;rfl
   case c3=>obtain⟨⟨_,_⟩,_⟩:=hidn.out;unfold maxLen;omega
   case c4=>obtain⟨⟨_,_⟩,_⟩:=hidn.out;omega
   case c5=>have:=hidn.out.2.1;rw[bt];omega
   intro v' w2 hown' hgrow _
   have h1:=Hid.mk (And.intro hown' hgrow)
   clear hown' hgrow
   go_wp2
   refine⟨⟨b,pre++[a],rfl,?_,hidn.out.2.2.2.2.1,?_,(hidn.out.2.2.1.alloc hidn.out.2.1 _).grown h1.out.2 (by have:=hidn.out.2.1;rw[bt];omega) (fun k hk=>(hidn.out.2.2.2.1.lt k hk).1)⟩,?_⟩
   ·have:=hidn.out.2.2.2.2.2
    omega
   ·rw[List.length_append,xG]
    exact h1.out.1
   ·show(⟨b.toArray⟩:ByteArray).size<(⟨r.toArray⟩:ByteArray).size
    rw[aB,aB]
    exact hidn.out.2.2.2.2.2.2
end
section
open Go Go.RowKit Go.Rx
theorem qH(F:FuncId)(he:∀args w,(callFunc F args).run Tryz.prog w=.ok (.enter F args) w)(g:Fn)(s:ByteArray)(val:List UInt8)(w:World)(hc:∀w1,Below w.heap.size w w1->Calls Tryz.prog F #[.string s] w1 (bF (SQ val w1) w1)) :
  Calls Tryz.prog 390 #[.agg #[.func (.func F) #[] #[],.func g #[] #[],.nilFunc],.string s] w (bF (SQ val w) w):=by
 have hal:=Below.alloc (Below.refl w.heap.size w) (Nat.le_refl _) (Obj.cells #[Value.func (.func F) #[] #[],Value.func g #[] #[],Value.nilFunc] 147)
 have h1:=hc _ hal
 clear hc
 go_enter Tryz.func390,Tryz.ntmps390
 go_wp2_with (go_at_fn F;refine h1.mono ?_;rintro e w' ⟨v,rfl,⟨b,o,c,rfl,q1,q2,q3⟩,hb⟩)
 go_ret2
 refine⟨_,rfl,⟨b,o,c,rfl,q1,q2,Nat.le_trans hal.size q3⟩,hal.trans (hb.mono hal.size)⟩
theorem jv(F:FuncId)(he:∀args w,(callFunc F args).run Tryz.prog w=.ok (.enter F args) w)(g h:Fn)(s:ByteArray)(val:List UInt8)(w:World)(hc:∀w1,Below w.heap.size w w1->Calls Tryz.prog F #[.string s] w1 (bF (SQ val w1) w1)) :
  Calls Tryz.prog 390 #[.agg #[.func (.func F) #[] #[],.func g #[] #[],.func h #[] #[]],.string s] w (bF (SQ val w) w):=by
 have hal:=Below.alloc (Below.refl w.heap.size w) (Nat.le_refl _) (Obj.cells #[Value.func (.func F) #[] #[],Value.func g #[] #[],Value.func h #[] #[]] 147)
 have h1:=hc _ hal
 clear hc
 go_enter Tryz.func390,Tryz.ntmps390
 go_wp2_with (go_at_fn F;refine h1.mono ?_;rintro e w' ⟨v,rfl,⟨b,o,c,rfl,q1,q2,q3⟩,hb⟩)
 go_ret2
 refine⟨_,rfl,⟨b,o,c,rfl,q1,q2,Nat.le_trans hal.size q3⟩,hal.trans (hb.mono hal.size)⟩
def E1(v:Value)(val txt:List UInt8)(X:Nat)(w:World):Prop:=(∀w1,Below X w w1->X<=w1.heap.size->Calls Tryz.prog 390 #[v,.string ⟨txt.toArray⟩] w1 (bF (SQ val w1) w1)) /\
 ∀w1 b o c B,Below X w w1->X<=w1.heap.size->Bts w1 B (some ⟨b,o,none⟩) val.length val->B<=w1.heap.size->val.length<=c->Calls Tryz.prog 391 #[v,.slice (some ⟨b,o,none⟩) val.length c] w1 fun e w'=>e=.returned .nilIface/\Below w1.heap.size w1 w'
theorem pQ{f:FuncId}{args:Array Value}{w:World}(h:Calls Tryz.prog f args w (bF NQ w)):Calls Tryz.prog f args w fun e w'=>e=.returned .nilIface/\Below w.heap.size w w':=
 h.mono fun _ _ ⟨_,he,hv,hb⟩=>⟨by rw[he,hv],hb⟩
theorem Jc{k:Int}{val txt:List UInt8}(hs:Simple k val txt)(h0:(an k).size≠0)(hl:val.length<=2147483647)(w:World)(ht:Tens w) :
  ∃v,(an k).tr=.iface 147 v/\E1 v val txt w.heap.size w:=by
 cases hs with
 |N hk hz hp htr=>exact absurd hz h0
 |P hk hz hp htr a b=>
  refine⟨_,(htr id).symm,fun w1 hb hX=>qH _ (enters_of Tryz.func165 (by kernel_rfl) rfl) _ _ _ w1 fun w2 hb2=>?_,fun w1 bb o c B hb hX hbt hB hc=>es _ _ _ w1⟩
  exact FC a b w2 ((ht.below hb ht.lt).below hb2 (ht.below hb ht.lt).lt)
 |F hk hz hp htr a b c d=>
  refine⟨_,(htr id).symm,fun w1 hb hX=>qH _ (enters_of Tryz.func163 (by kernel_rfl) rfl) _ _ _ w1 fun w2 hb2=>?_,fun w1 bb o c B hb hX hbt hB hc=>es _ _ _ w1⟩
  exact IC a b c d w2
 |S hk hz hp htr _ hl16=>
  refine⟨_,(htr id).symm,fun w1 hb hX=>qH _ (enters_of Tryz.func170 (by kernel_rfl) rfl) _ _ _ w1 fun w2 hb2=>?_,fun w1 bb o c B hb hX hbt hB hc=>es _ _ _ w1⟩
  exact CM hl16 w2
 |C hk hz hp htr a=>
  refine⟨_,(htr id).symm,fun w1 hb hX=>jv _ (enters_of Tryz.func175 (by kernel_rfl) rfl) _ _ _ _ w1 fun w2 hb2=>?_,fun w1 bb o c B hb hX hbt hB hc=>jx _ _ _ w1 fun w2 hb2=>pQ (z7 _ _ w2)⟩
  rw[kL a.toNat_lt];exact E7 a w2
 |M hk hz hp htr a b c d e f g h=>
  refine⟨_,(htr id).symm,fun w1 hb hX=>jv _ (enters_of Tryz.func202 (by kernel_rfl) rfl) _ _ _ _ w1 fun w2 hb2=>?_,fun w1 bb o c B hb hX hbt hB hc=>kF _ _ _ w1 fun w2 hb2=>pQ (Ds _ _ w2)⟩
  exact I2 a b c d e f g h w2 ((ht.below hb ht.lt).below hb2 (ht.below hb ht.lt).lt)
 |D hk hz hp htr _ hn=>
  refine⟨_,(htr id).symm,fun w1 hb hX=>jv _ (enters_of Tryz.func167 (by kernel_rfl) rfl) _ _ _ _ w1 fun w2 hb2=>?_,fun w1 bb o c B hb hX hbt hB hc=>kE _ _ _ w1 fun w2 hb2=>pQ (CA _ _ _ _ _ B w2 (hbt.below (hb2.mono hB) (Nat.le_refl _)) (Nat.le_trans hB hb2.size) hn)⟩
  exact Ik _ hn w2
 |Z hk hz hp htr _ hn=>
  refine⟨_,(htr id).symm,fun w1 hb hX=>jv _ (enters_of Tryz.func172 (by kernel_rfl) rfl) _ _ _ _ w1 fun w2 hb2=>?_,fun w1 bb o c B hb hX hbt hB hc=>jz _ _ _ w1 fun w2 hb2=>pQ (A9 _ _ _ _ _ B w2 (hbt.below (hb2.mono hB) (Nat.le_refl _)) (Nat.le_trans hB hb2.size) hn)⟩
  exact FU _ (by omega) hn w2
 |U hk hz hp htr _ hn=>
  refine⟨_,(htr id).symm,fun w1 hb hX=>jv _ (enters_of Tryz.func199 (by kernel_rfl) rfl) _ _ _ _ w1 fun w2 hb2=>?_,fun w1 bb o c B hb hX hbt hB hc=>jy _ _ _ w1 fun w2 hb2=>pQ (AM _ _ _ _ B w2 (hbt.below (hb2.mono hB) (Nat.le_refl _)) (Nat.le_trans hB hb2.size) hn (by omega))⟩
  exact FL _ w2
end
section
open Go.Shelf Go.Proofs
def Tryz.laysM180_ren:Go.Shelf.Ren:=⟨fun |180=>79 |251=>93 |252=>94 |181=>138 |184=>139 |290=>140 |324=>160 |n=>n,fun |130=>129 |37=>22 |3=>3 |75=>53 |0=>0 |93=>112 |91=>110 |131=>130 |4=>4 |20=>20 |5=>5 |80=>66 |9=>9 |n=>n,fun |14=>1 |n=>n⟩
theorem Tryz.laysM180:Go.Proofs.LaysM.n180 Tryz.prog Tryz.laysM180_ren:={
 mixed:=by kernel_rfl
 f180:=Tryz.func79.trans (congrArg some (by kernel_rfl))
 f181:=Tryz.func138.trans (congrArg some (by kernel_rfl))
 f184:=Tryz.func139.trans (congrArg some (by kernel_rfl))
 f251:=Tryz.func93.trans (congrArg some (by kernel_rfl))
 f252:=Tryz.func94.trans (congrArg some (by kernel_rfl))
 f290:=Tryz.func140.trans (congrArg some (by kernel_rfl))
 f324:=Tryz.func160.trans (congrArg some (by kernel_rfl))
 t0:=Tryz.underlying0
 a0:=Tryz.isAgg0
 z0:=Tryz.sizeOf0
 v0:=Tryz.zeroValue0
 t3:=Tryz.underlying3
 a3:=Tryz.isAgg3
 z3:=Tryz.sizeOf3
 v3:=Tryz.zeroValue3
 t4:=Tryz.underlying4
 a4:=Tryz.isAgg4
 z4:=Tryz.sizeOf4
 v4:=Tryz.zeroValue4
 t20:=Tryz.underlying20
 a20:=Tryz.isAgg20
 z20:=Tryz.sizeOf20
 v20:=Tryz.zeroValue20
 t37:=Tryz.underlying22
 a37:=Tryz.isAgg22
 z37:=Tryz.sizeOf22
 v37:=Tryz.zeroValue22
 t75:=Tryz.underlying53
 a75:=Tryz.isAgg53
 z75:=Tryz.sizeOf53
 v75:=Tryz.zeroValue53
 t91:=Tryz.underlying110
 a91:=Tryz.isAgg110
 z91:=Tryz.sizeOf110
 v91:=Tryz.zeroValue110
 t93:=Tryz.underlying112
 a93:=Tryz.isAgg112
 z93:=Tryz.sizeOf112
 v93:=Tryz.zeroValue112
 t130:=Tryz.underlying129
 a130:=Tryz.isAgg129
 z130:=Tryz.sizeOf129
 v130:=Tryz.zeroValue129
 t131:=Tryz.underlying130
 a131:=Tryz.isAgg130
 z131:=Tryz.sizeOf130
 v131:=Tryz.zeroValue130
 g14:=by kernel_rfl
 t5:=Tryz.underlying5
 a5:=Tryz.isAgg5
 z5:=Tryz.sizeOf5
 v5:=Tryz.zeroValue5
 t9:=Tryz.underlying9
 a9:=Tryz.isAgg9
 z9:=Tryz.sizeOf9
 v9:=Tryz.zeroValue9
 t80:=Tryz.underlying66
 a80:=Tryz.isAgg66
 z80:=Tryz.sizeOf66
 v80:=Tryz.zeroValue66
 i0:=by kernel_rfl
 i3:=by kernel_rfl
 i4:=by kernel_rfl
 i5:=by kernel_rfl
 i9:=by kernel_rfl
 i20:=by kernel_rfl
 i37:=by kernel_rfl
 i75:=by kernel_rfl
 i80:=by kernel_rfl
 i91:=by kernel_rfl
 i93:=by kernel_rfl
 i130:=by kernel_rfl
 i131:=by kernel_rfl
 m14:=by kernel_rfl }
end
section
open Go Go.RowKit Go.Rx
def RowOf(b:Nat)(r:Option Nat)(w:World):Prop:=∃v,w.cell? ⟨b,0,none⟩=some v/\v.ownBlock=r
theorem JP(B b:Nat)(bs:List Value)(w:World)(h:Lib.IsBuffer 112 5 B b bs w) :
  Calls Tryz.prog 138 #[.pointer (some ⟨b,0,none⟩)] w fun e w'=>e=.returned (.int .i64 bs.length)/\∃n,w'=w.drewN n:=Any.Buffer_Len { Tryz.laysM180 with } B b bs w h
theorem JQ(b:Nat)(ao:Option Addr)(l cap n:Nat)(w:World)(c0:w.cell? ⟨b,0,none⟩=some (.slice ao l cap))(f0:w.frozen? ⟨b,0,none⟩=false)(hlc:l<=cap)(hcap:cap<=maxLen)(hn:n<=cap-l) :
  Calls Tryz.prog 93 #[.pointer (some ⟨b,0,none⟩),.int .i64 n] w fun e w'=>e=.returned (.tuple #[.int .i64 l,.bool true])/\w'=w.setCell ⟨b,0,none⟩ (.slice ao (l+n) cap):=Any.Buffer_tryGrow_room { Tryz.laysM180 with } b ao l cap n w c0 f0 hlc hcap hn
theorem zV(b:Nat)(ao:Option Addr)(l cap n:Nat)(w:World)(c0:w.cell? ⟨b,0,none⟩=some (.slice ao l cap))(hlc:l<=cap)(hcap:cap<=maxLen)(hn:cap-l<n) :
  Calls Tryz.prog 93 #[.pointer (some ⟨b,0,none⟩),.int .i64 n] w fun e w'=>e=.returned (.tuple #[.int .i64 0,.bool false])/\w'=w:=Any.Buffer_tryGrow_none { Tryz.laysM180 with } b ao l cap n w c0 hlc hcap hn
theorem H8(g l c n:Nat)(cur:Array Value)(w:World)(hg:w.heap[g]?=some (.cells cur 5 (0,0)))(hcs:cur.size=c)(hlc:l<=c)(hn:1<=n)(hlim:l+n<=140737488355328)(hc2:c<=140737488355328)(h1:∀v∈cur.toList.take l,v.oneCell'=true) :
  Calls Tryz.prog 140 #[.slice (some ⟨g,0,none⟩) l c,.int .i64 n] w fun e w'=>∃cap2 cells,e=.returned (.slice (some ⟨w.heap.size,0,none⟩) l cap2)/\w'.heap[w.heap.size]?=some (.cells cells 5 (0,0)) /\
   cells.size=cap2/\cells.toList.take l=cur.toList.take l/\l+n<=cap2/\cap2<=maxLen/\Below w.heap.size w w':=Any.bytes_growSlice_row { Tryz.laysM180 with } g l c n cur w hg hcs hlc hn hlim hc2 h1
theorem CH:(Tryz.prog.info? 5).map (fun i=>(i.zero,i.size,i.bytes))=some (some (.int .u8 0),1,1):=by kernel_rfl
theorem Bo(B b n:Nat)(lr:Int)(w:World)(hB:B<=b)(hBw:B<=w.heap.size)(hbk:w.heap[b]?=some (.cells #[.slice none 0 0,.int .i64 0,.int .i8 lr] 112 (0,0)))(hn:1<=n)(h64:n<=64) :
  Calls Tryz.prog 94 #[.pointer (some ⟨b,0,none⟩),.int .i64 n] w fun e w'=>e=.returned (.int .i64 0)/\Below B w w'/\w.grownBy w' (some b)/\∃N c cur,w'.heap[b]?=some (.cells #[.slice (some ⟨N,0,none⟩) n c,.int .i64 0,.int .i8 lr] 112 (0,0))/\w.heap.size<=N/\w'.heap[N]?=some (.cells cur 5 (0,0))/\n<=c/\c<=maxLen/\cur.size=c:=by
 obtain⟨i0,hi,hz0,hz1,hz2⟩:=info_parts CH
 obtain⟨M,hM⟩:∃M,M=madeCells (Value.int .u8 0).cells ((64:Int).toNat*i0.size):=⟨_,rfl⟩
 have hMs:M.size=64:=by rw[hM,size_madeCells,hz1];rfl
 have hmk:∀W:World,(Instr.makeSlice 22 (.int .i64 (n:Int)) (.int .i64 64)).run Tryz.prog W=.ok (.slice (some ⟨W.heap.size,0,none⟩) n 64) (W.alloc (.cells M 5)):=fun W=>by
  have h:=run_makeSlice (P:=Tryz.prog) W 22 5 i0 (.int .u8 0) Tryz.underlying22 hi hz0 .i64 .i64 (n:Int) 64 (by omega) (by omega) (by rw[hz1];decide) (by rw[hz2];decide) (by decide)
  rw[<- hM]at h
  simpa using h
 clear hM
 have hIs:Lib.IsBuffer 112 5 B b [] w:=⟨hB,_,_,hbk,World.ownsRow_nil _ _ _ _,by simp[Value.ownBlock]⟩
 have hnil:∀W,(binOp .eql 22 (.slice none 0 0) (.slice none 0 0)).run Tryz.prog W=.ok (.bool true) W:=fun W=>Lib.run_eql_slice_nil_nil W _ _ Tryz.underlying22
 go_enter Tryz.func94,Tryz.ntmps94
 go_wp2_with fail
 refine(JP B b [] _ hIs).mono ?_
 rintro e W0 ⟨rfl,k,hW0⟩
 have hbk0:W0.heap[b]?=some (.cells #[.slice none 0 0,.int .i64 0,.int .i8 lr] 112 (0,0)):=by rw[hW0];exact hbk
 have c0:W0.cell? ⟨b,0,none⟩=some (.slice none 0 0):=by rw[Lib.cell_of_heap hbk0];rfl
 have c1:W0.cell? ⟨b,1,none⟩=some (.int .i64 0):=by rw[Lib.cell_of_heap hbk0];rfl
 have f0:W0.frozen? ⟨b,0,none⟩=false:=Lib.frozen_of_heap hbk0 0
 have f1:W0.frozen? ⟨b,1,none⟩=false:=Lib.frozen_of_heap hbk0 1
 have hbW0:=Lib.lt_of_heap hbk0
 have c0a:∀o,(W0.alloc o).cell? ⟨b,0,none⟩=some (.slice none 0 0):=fun o=>(World.cell?_of_block (a:=⟨b,0,none⟩) (Below.heap_alloc W0 o b hbW0)).trans c0
 have f0a:∀o,(W0.alloc o).frozen? ⟨b,0,none⟩=false:=fun o=>(World.frozen?_of_block (a:=⟨b,0,none⟩) (Below.heap_alloc W0 o b hbW0)).trans f0
 have HW0:=Lib.hid (And.intro hW0 hbk0)
 clear hW0 hIs hbk0
 go_wp2_with fail
 refine(zV b _ 0 0 n _ c0 (Nat.le_refl _) (Nat.zero_le _) (by omega)).mono ?_
 rintro e w' ⟨rfl,rfl⟩
 go_wp2
 go_ret
 obtain⟨hW0,hbk0⟩:=HW0.out
 have hsz0:w'.heap.size=w.heap.size:=by rw[hW0];rfl
 have hb0:Below B w w':=by rw[hW0];exact⟨rfl,rfl,rfl,Nat.le_refl _,fun _ _=>rfl⟩
 have hg0:w.grownBy w' (some b):=by rw[hW0];exact⟨rfl,rfl,rfl,Nat.le_refl _,fun _ _ _=>rfl⟩
 have hsz:(w'.setCell ⟨b,0,none⟩ (.slice (some ⟨w'.heap.size,0,none⟩) n 64)).heap.size=w'.heap.size:=by simp[World.setCell]
 refine⟨rfl,(hb0.setCell (p:=⟨b,0,none⟩) hB _).alloc (by rw[hsz];omega) _,Lib.grownBy_allocR (Lib.grownBy_setB hg0 0 _) _,w'.heap.size,64,M,?_,by omega,?_,h64,by unfold maxLen;omega,hMs⟩
 ·rw[Below.heap_alloc _ _ b (by rw[hsz];exact hbW0)]
  exact Lib.heap_setCell_same (i:=0) hbk0 _
 ·have h:=heap_alloc_new (w'.setCell ⟨b,0,none⟩ (.slice (some ⟨w'.heap.size,0,none⟩) n 64)) (.cells M 5)
  rw[hsz]at h
  exact h
theorem Bp(B b g l cap n:Nat)(lr:Int)(cur:Array Value)(w:World)(hB:B<=b)(hBw:B<=w.heap.size)(hbk:w.heap[b]?=some (.cells #[.slice (some ⟨g,0,none⟩) l cap,.int .i64 0,.int .i8 lr] 112 (0,0)))(hBg:B<=g)
  (hg:w.heap[g]?=some (.cells cur 5 (0,0))) (hl0:l≠0) (hlc:l<=cap) (hcm:cap<=maxLen) (hcs:cur.size=cap) (hgb:g≠b) (h1:∀v∈cur.toList.take l,v.oneCell'=true) (hn:1<=n) (hroom:cap-l<n) (hlim:l+n<=140737488355328) :
  Calls Tryz.prog 94 #[.pointer (some ⟨b,0,none⟩),.int .i64 n] w fun e w'=>e=.returned (.int .i64 l)/\Below B w w'/\w.grownBy w' (some b)/\∃N c cur',w'.heap[b]?=some (.cells #[.slice (some ⟨N,0,none⟩) (l+n) c,.int .i64 0,.int .i8 lr] 112 (0,0))/\w.heap.size<=N/\w'.heap[N]?=some (.cells cur' 5 (0,0)) /\
   l+n<=c/\c<=maxLen/\cur'.size=c/\cur'.toList.take l=cur.toList.take l:=by
 have hIs:Lib.IsBuffer 112 5 B b (cur.toList.take l) w:=by
  have hll:(cur.toList.take l).length=l:=by simp;omega
  exact⟨hB,_,_,hbk,⟨by rw[hll,Nat.mul_one],.inr ⟨g,cap,cur,by rw[hll],hBg,hg,by omega,hcm,by omega,by rw[hll,Nat.mul_one]⟩⟩,by simp[Value.ownBlock];exact hgb⟩
 have hll:(cur.toList.take l).length=l:=by simp;omega
 have hnil:∀W,(binOp .eql 22 (.slice (some ⟨g,0,none⟩) l cap) (.slice none 0 0)).run Tryz.prog W=.ok (.bool false) W:=fun W=>Lib.run_eql_slice_some_nil W _ _ _ Tryz.underlying22
 go_enter Tryz.func94,Tryz.ntmps94
 go_wp2_with fail
 refine(JP B b _ _ hIs).mono ?_
 rintro e W0 ⟨rfl,k,hW0⟩
 rw[hll]
 have hbk0:W0.heap[b]?=some (.cells #[.slice (some ⟨g,0,none⟩) l cap,.int .i64 0,.int .i8 lr] 112 (0,0)):=by rw[hW0];exact hbk
 have hg0:W0.heap[g]?=some (.cells cur 5 (0,0)):=by rw[hW0];exact hg
 have c0:W0.cell? ⟨b,0,none⟩=some (.slice (some ⟨g,0,none⟩) l cap):=by rw[Lib.cell_of_heap hbk0];rfl
 have c1:W0.cell? ⟨b,1,none⟩=some (.int .i64 0):=by rw[Lib.cell_of_heap hbk0];rfl
 have f0:W0.frozen? ⟨b,0,none⟩=false:=Lib.frozen_of_heap hbk0 0
 have f1:W0.frozen? ⟨b,1,none⟩=false:=Lib.frozen_of_heap hbk0 1
 have HW0:=Lib.hid hW0
 clear hW0 hIs hll
 have hcm':=hcm
 unfold maxLen at hcm'
 go_wp2_with fail
 refine(zV b _ l cap n _ c0 hlc hcm hroom).mono ?_
 rintro e w' ⟨rfl,rfl⟩
 have hc2:cap<=140737488355328:=by omega
 have hbW:=Lib.lt_of_heap hbk0
 have hwn:i64.wrap (n:Int)=n:=by rw[IntKind.wrap_i64];omega
 go_wp2_with fail
 go_region_with (
   go_at_call 140
   refine(H8 g l cap n cur _ ?_ hcs hlc hn hlim hc2 h1).mono ?_
   exact hg0
   rintro e w2 ⟨cap2,cells,rfl,hN,hcsz,htk,hcap2,hcm2,hbel⟩
   have hbk2:w2.heap[b]?=some (.cells #[.slice (some ⟨g,0,none⟩) l cap,.int .i64 0,.int .i8 lr] 112 (0,0)):=(hbel.block b hbW).trans hbk0
   have d0:w2.cell? ⟨b,0,none⟩=some (.slice (some ⟨g,0,none⟩) l cap):=by rw[Lib.cell_of_heap hbk2];rfl
   have d1:w2.cell? ⟨b,1,none⟩=some (.int .i64 0):=by rw[Lib.cell_of_heap hbk2];rfl
   have e0:w2.frozen? ⟨b,0,none⟩=false:=Lib.frozen_of_heap hbk2 0
   have e1:w2.frozen? ⟨b,1,none⟩=false:=Lib.frozen_of_heap hbk2 1)
 all_goals (
  go_wp2
  go_ret
  have hsz0:w'.heap.size=w.heap.size:=by rw[HW0.out];rfl
  have hb0:Below B w w'.drew:=by rw[HW0.out];exact⟨rfl,rfl,rfl,Nat.le_refl _,fun _ _=>rfl⟩
  have hg2:w.grownBy w2 (some b):=Lib.grownBy_below (w:=w'.drew) (by rw[HW0.out];exact⟨rfl,rfl,rfl,Nat.le_refl _,fun _ _ _=>rfl⟩) hbel
  have hbel':Below B w w2:=hb0.trans (hbel.mono (by show B<=w'.heap.size;omega))
  have hNb:w'.heap.size≠b:=by omega
  refine⟨rfl,((hbel'.setCell (p:=⟨b,0,none⟩) hB _).setCell (p:=⟨b,1,none⟩) hB _).setCell (p:=⟨b,0,none⟩) hB _,Lib.grownBy_setB (Lib.grownBy_setB (Lib.grownBy_setB hg2 0 _) 1 _) 0 _,w'.heap.size,cap2,cells,?_,by omega,?_,hcap2,hcm2,hcsz,htk⟩
  ·exact Lib.heap_setCell_same (i:=0) (Lib.heap_setCell_same (i:=1) (Lib.heap_setCell_same (i:=0) hbk2 _) (.int .i64 0)) _
  ·rw[Below.heap_setCell _ _ _ _ hNb,Below.heap_setCell _ _ _ _ hNb,Below.heap_setCell _ _ _ _ hNb]
   exact hN)
end
end Go.Proofs.YtnklanajebphpaaGreatDoor
