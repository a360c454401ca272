/- Joined texts: M24 M9 M10 M13 K6 M25 M19 M4 M23 M27 M28 K7 K8 K9 N3 M29 M30. -/
import Derived.Test.YtnklanajebphpaaGreatDoorW3
import Derived.Test.YtnklanajebphpaaGreatDoorW4
import Derived.Test.YtnklanajebphpaaGreatDoorW5
import Derived.Lib.ItoaLen
set_option maxRecDepth 100000
set_option maxHeartbeats 4000000
set_option linter.unusedVariables false
set_option linter.unusedSimpArgs false
namespace Go.Proofs.YtnklanajebphpaaGreatDoor
open IntKind
section
open Go Go.Rx Go.RowKit
def tens:List Int:=[1,10,100,1000,10000,100000,1000000,10000000,100000000,1000000000,10000000000,100000000000,1000000000000,10000000000000,100000000000000,1000000000000000,10000000000000000,100000000000000000,1000000000000000000,10000000000000000000]
def sx:SObj:=.cells (tens.map fun n=>.int .u64 n true) 20 280 0 0
def cP(n:Nat):List UInt8:=if n<10 then[UInt8.ofNat (48+n)] else if n<100 then[UInt8.ofNat (48+n/10),UInt8.ofNat (48+n%10)] else[UInt8.ofNat (48+n/100),UInt8.ofNat (48+n/10%10),UInt8.ofNat (48+n%10)]
def c8(n:Nat)(w:World):T:=
 .leaf .ret [.str ⟨(cP n).toArray⟩ true] (SS.mk (if n<100 then[sx] else[sx,.cells ([.int .u8 0 true]++(cP n).map (fun b=>.int .u8 (b.toNat:Int) true)++List.replicate 20 (.int .u8 0 true)) 24 227 0 0]) [(14,0)] true w [14])
theorem Bv(w:World):(List.range 32).map (fun(j:Nat)=>am Tryz.prog au 500 215 [.int .i64 ((0+j:Nat):Int) true] (SS.mk [sx] [(14,0)] true w [14]))=(List.range 32).map (fun(j:Nat)=>c8 (0+j) w):=by kernel_rfl
theorem Bw(w:World):(List.range 32).map (fun(j:Nat)=>am Tryz.prog au 500 215 [.int .i64 ((32+j:Nat):Int) true] (SS.mk [sx] [(14,0)] true w [14]))=(List.range 32).map (fun(j:Nat)=>c8 (32+j) w):=by kernel_rfl
theorem Bx(w:World):(List.range 32).map (fun(j:Nat)=>am Tryz.prog au 500 215 [.int .i64 ((64+j:Nat):Int) true] (SS.mk [sx] [(14,0)] true w [14]))=(List.range 32).map (fun(j:Nat)=>c8 (64+j) w):=by kernel_rfl
theorem Bz(w:World):(List.range 32).map (fun(j:Nat)=>am Tryz.prog au 500 215 [.int .i64 ((96+j:Nat):Int) true] (SS.mk [sx] [(14,0)] true w [14]))=(List.range 32).map (fun(j:Nat)=>c8 (96+j) w):=by kernel_rfl
theorem BA(w:World):(List.range 32).map (fun(j:Nat)=>am Tryz.prog au 500 215 [.int .i64 ((128+j:Nat):Int) true] (SS.mk [sx] [(14,0)] true w [14]))=(List.range 32).map (fun(j:Nat)=>c8 (128+j) w):=by kernel_rfl
theorem BB(w:World):(List.range 32).map (fun(j:Nat)=>am Tryz.prog au 500 215 [.int .i64 ((160+j:Nat):Int) true] (SS.mk [sx] [(14,0)] true w [14]))=(List.range 32).map (fun(j:Nat)=>c8 (160+j) w):=by kernel_rfl
theorem BC(w:World):(List.range 32).map (fun(j:Nat)=>am Tryz.prog au 500 215 [.int .i64 ((192+j:Nat):Int) true] (SS.mk [sx] [(14,0)] true w [14]))=(List.range 32).map (fun(j:Nat)=>c8 (192+j) w):=by kernel_rfl
theorem BD(w:World):(List.range 32).map (fun(j:Nat)=>am Tryz.prog au 500 215 [.int .i64 ((224+j:Nat):Int) true] (SS.mk [sx] [(14,0)] true w [14]))=(List.range 32).map (fun(j:Nat)=>c8 (224+j) w):=by kernel_rfl
theorem Fq(n:Nat)(hn:n<256)(w:World):am Tryz.prog au 500 215 [.int .i64 (n:Int) true] (SS.mk [sx] [(14,0)] true w [14])=c8 n w:=by
 have key:∀(k:Nat),(List.range 32).map (fun(j:Nat)=>am Tryz.prog au 500 215 [.int .i64 ((k+j:Nat):Int) true] (SS.mk [sx] [(14,0)] true w [14]))=(List.range 32).map (fun(j:Nat)=>c8 (k+j) w)->k<=n->n<k+32 ->
   am Tryz.prog au 500 215 [.int .i64 (n:Int) true] (SS.mk [sx] [(14,0)] true w [14])=c8 n w:=by
  intro k h h1 h2
  have h:=congrArg (fun l=>l[n-k]?) h
  simp only[List.getElem?_map,List.getElem?_range (show n-k<32 by omega),Option.map_some,Option.some.injEq]at h
  rw[show k+(n-k)=n by omega]at h
  exact h
 rcases(by omega:n<32∨(32<=n/\n<64)∨(64<=n/\n<96)∨(96<=n/\n<128)∨(128<=n/\n<160)∨(160<=n/\n<192)∨(192<=n/\n<224)∨(224<=n/\n<256)) with h |h |h |h |h |h |h |h
 ·exact key 0 (Bv w) (by omega) (by omega)
 ·exact key 32 (Bw w) (by omega) (by omega)
 ·exact key 64 (Bx w) (by omega) (by omega)
 ·exact key 96 (Bz w) (by omega) (by omega)
 ·exact key 128 (BA w) (by omega) (by omega)
 ·exact key 160 (BB w) (by omega) (by omega)
 ·exact key 192 (BC w) (by omega) (by omega)
 ·exact key 224 (BD w) (by omega) (by omega)
def Tens(w:World):Prop:=w.heap[14]?=some (.cells (tens.map (Value.int .u64)).toArray 280 (0,0))
theorem Tens.below{w w':World}{B:Nat}(h:Tens w)(hb:Below B w w')(hB:14<B):Tens w':=by
 unfold Tens at *
 rw[hb.block 14 hB]
 exact h
theorem Tens.lt{w:World}(h:Tens w):14<w.heap.size:=(Array.getElem?_eq_some_iff.1 h).1
theorem D8{β:Nat->Nat}{x:Option Obj}:sx.At β x ↔ x=some (.cells (tens.map (Value.int .u64)).toArray 280 (0,0)):=by
 unfold sx SObj.At
 constructor
 ·rintro⟨rest,h1,h2⟩
  have hr:rest=[]:=List.eq_nil_of_length_eq_zero (by simp[tens]at h2;simp[h2])
  subst hr
  rw[h1]
  congr 2
 ·intro h
  refine⟨[],?_,by simp[tens]⟩
  rw[h]
  congr 2
theorem St.tens{P:Program}{Q:SE->List Value->World->Prop}{w:World}(h:Tens w):St { P:=P,β0:=fun _=>14,n0:=1,Q:=Q } (fun _=>14) (SS.mk [sx] [(14,0)] true w [14]) w where
 lt i hi:=h.lt
 inj i j hi hj _:=by simp[SS.n]at hi hj;omega
 at_ i o hi:=by
  match i,hi with
  |0,hi=>
   simp at hi
   subst hi
   exact D8.2 h
  |i+1,hi=>simp at hi
 ok i o hi:=by
  match i,hi with
  |0,hi=>
   simp at hi
   subst hi
   show bf _ (YtnklanajebphpaaGreatDoor.tens.map fun n=>SV.int .u64 n true)
   rw[eA]
   intro v hv
   obtain⟨n,_,rfl⟩:=List.mem_map.1 hv
   trivial
  |i+1,hi=>simp at hi
 gl p hp:=by
  simp at hp
  subst hp
  exact⟨by simp[SS.n],rfl⟩
 old _:=
      {fr:=fun _ _ _=>rfl,sz:=Nat.le_refl _,tape:=rfl,os:=rfl,out:=rfl,
       pre:=fun i b hi=>by
        match i,hi with
        |0,hi=>simpa using hi
        |i+1,hi=>simp at hi
       pren:=by simp[SS.n]
       new:=fun i hi hin=>by simp[SS.n]at hi hin;omega }
 base i hi:=rfl
 n0:=by simp[SS.n]
theorem D7{Γ:Ctx}{β:Nat->Nat}{s:SS}{w w':World}(hs:St Γ β s w')(h0:s.objs[0]?=some sx)(hext:s.ext=true)(hw0:s.w0=w)(hpre:s.pre=[14])(ht:Tens w):Below w.heap.size w w':=by
 subst hw0
 have o:=hs.old hext
 have hb0:β 0=14:=o.pre 0 14 (by rw[hpre];rfl)
 refine⟨o.os,o.tape,o.out,o.sz,fun b hb=>?_⟩
 by_cases h9:b=14
 ·subst h9
  have:=D8.1 (hs.at_ 0 _ h0)
  rw[hb0]at this
  rw[this]
  exact ht.symm
 ·refine o.fr b hb fun i hi he=>?_
  by_cases hi0:i=0
  ·subst hi0
   omega
  ·have:=o.new i (by rw[hpre];simp;omega) hi
   omega
theorem CP(n:Nat)(hn:n<256)(w:World)(ht:Tens w):Calls Tryz.prog 215 #[.int .i64 (n:Int)] w (bF (fun v _=>v=.string ⟨(cP n).toArray⟩) w):=by
 have h:=Fq n hn w
 refine(gx (hk:=au) (n:=500) (args:=[.int .i64 (n:Int) true]) (Q:=fun v w'=>v=.string ⟨(cP n).toArray⟩/\Below w.heap.size w w') (St.tens ht) ⟨trivial,trivial⟩ ?_).mono ?_
 ·rw[h]
  intro β w' hs _
  refine⟨_,rfl,rfl,D7 hs ?_ rfl rfl rfl ht⟩
  show(if n<100 then[sx] else[sx,_])[0]?=some sx
  split <;> rfl
 ·rintro e w' ⟨v,rfl,h1,h2⟩
  exact⟨v,rfl,h1,h2⟩
end
section
open Go Go.Rx Go.RowKit
structure MV where
 s:ByteArray
 p:Addr
 at':Int
@[reducible] def tu:Hook:={ X:=MV,out:=fun _ s x=>(.agg [.str x.s false,.xp x.p,.int .i64 x.at' false],s.objs) }
def LA:SE->List Nat
 | .normal=>[3,6,7,8]
 | .exit 0=>[3]
 |_=>[]
def ej:Hooks:={ calls:=fun f=>if f=39 then some tu else none,loops:=fun _ _=>none }
def Fu(N:Nat):LoopHook:=bK N UV (.exit 0) [3] (fun x=>[.xs x.A x.k x.c]) Unit .ret [] (fun _=>[])
def Fl(N:Nat):Hooks:={ calls:=fun _=>none,loops:=fun _ _=>some (Fu N) }
noncomputable abbrev A7(A:Option Addr)(n c:Nat):List SV:=([(.xs A n c),(.tup []),(.one (.slice none 0 0) rfl),(.one (.slice none 0 0) rfl),(.tup []),(.tup []),(.xs A n c),(.int .i64 ((↑n:Int)) false),(.int .i64 0 true)]++List.replicate 10 aA)
theorem Lu(A:Option Addr)(n c:Nat)(w:World):am Tryz.prog (Fl 19) 1000 53 [.xs A n c] (SS.at w) =
(.loop 53 (ar Tryz.prog 53 4) (A7 A n c) (SS.mk [] [] true w []) (LoopHook.X (Fu 19)) (LoopHook.out (Fu 19) (A7 A n c) (SS.mk [] [] true w [])) (fun x0 w0 b0=>(.leaf .ret [(.xs x0.fst.A x0.fst.k x0.fst.c)] (SS.mk [] [] true w0 b0))) (LoopHook.Y (Fu 19)) (LoopHook.out' (Fu 19) (A7 A n c) (SS.mk [] [] true w [])) (fun x0 w0 b0=>(.leaf .ret [(.raw (x0.snd 2))] (SS.mk [] [] true w0 b0)))):=by kernel_rfl
theorem Qb(A:Option Addr)(n c:Nat)(w:World):(by have h:=Lu A n c w;unfold A7 at h;exact type_of% h):=Lu A n c w
noncomputable abbrev mK(w:World)(A:Option Addr)(i:Nat):List SV:=[(.int .i64 (ai w (((A.getD default).add ((↑i:Int).toNat*2)).add 0)) false),(.xs (kD w (((A.getD default).add ((↑i:Int).toNat*2)).add 1)) (iO w (((A.getD default).add ((↑i:Int).toNat*2)).add 1)) (m8 w (((A.getD default).add ((↑i:Int).toNat*2)).add 1)))]
noncomputable abbrev sK(x0:(Hook.X (tu))):List SV:=[(.str x0.s false),(.xp x0.p),(.int .i64 x0.at' false)]
noncomputable abbrev xW(i:Nat):SV:=(.int .i64 (i64.wrap ((↑i:Int)+(1:Int))) false)
theorem KF(A:Option Addr)(n c i:Nat)(w:World)(g:Nat->Value):aK Tryz.prog ej 1000 53 (ar Tryz.prog 53 4) (az ((LA .normal).zip [.one (.slice none 0 0) rfl,.xs A n c,.int .i64 n false,.int .i64 i false]) g 19 0) (fun e a s=>.leaf e (ep LA e a) s) (SS.at w) =
(.split (decide ((↑i:Int)<(↑n:Int))) (.need ((0:Int)<=(↑i:Int)/\(↑i:Int)<(↑n:Int)) (.need (A.isSome=true) (.need (canRead w [] ((A.getD default).add ((↑i:Int).toNat*2)) [SV.int i64 (ai w (((A.getD default).add ((↑i:Int).toNat*2)).add 0)) false,SV.xs (kD w (((A.getD default).add ((↑i:Int).toNat*2)).add 1)) (iO w (((A.getD default).add ((↑i:Int).toNat*2)).add 1)) (m8 w (((A.getD default).add ((↑i:Int).toNat*2)).add 1))]) (.hc 39 [(.agg (mK w A i))] (SS.mk [(.cells (mK w A i) 2 31 0 0)] [] true w []) (tu) fun x0 w0 b0=>(.need (32<=281474976710656) (.need ((↑(1:Nat):Int)<=i64.max) (.choose (.appendCap 1 0 64) fun c1=>(.leaf .normal [(.slc 2 0 1 c1 true false),(.xs A n c),(.int .i64 ((↑n:Int)) false),(xW i)] (SS.mk [(.cells (mK w A i) 2 31 0 0),(.cells (sK x0) 3 64 0 0),(.cells (sK x0) (c1*3) 64 0 0)] [] true w0 b0))))))))) (.leaf (.exit 0) [(.one (.slice none 0 0) rfl)] (SS.mk [] [] true w []))):=by kernel_rfl
theorem PA(A:Option Addr)(n c i:Nat)(w:World)(g:Nat->Value):(by have h:=KF A n c i w g;unfold xW sK mK at h;exact type_of% h):=KF A n c i w g
theorem K7(A:Option Addr)(n c i kk cc:Nat)(Ls:List Value)(w:World)(bs:List Nat)(g:Nat->Value):aK Tryz.prog ej 1000 53 (ar Tryz.prog 53 4) (az ((LA .normal).zip [.slc 0 0 kk cc false false,.xs A n c,.int .i64 n false,.int .i64 i false]) g 19 0) (fun e a s=>.leaf e (ep LA e a) s) (SS.mk [.vals Ls (cc*3) 64 0 0] [] true w bs) =
(.split (decide ((↑i:Int)<(↑n:Int))) (.need ((0:Int)<=(↑i:Int)/\(↑i:Int)<(↑n:Int)) (.need (A.isSome=true) (.need (canRead w bs ((A.getD default).add ((↑i:Int).toNat*2)) [SV.int i64 (ai w (((A.getD default).add ((↑i:Int).toNat*2)).add 0)) false,SV.xs (kD w (((A.getD default).add ((↑i:Int).toNat*2)).add 1)) (iO w (((A.getD default).add ((↑i:Int).toNat*2)).add 1)) (m8 w (((A.getD default).add ((↑i:Int).toNat*2)).add 1))]) (.hc 39 [(.agg (mK w A i))] (SS.mk [(.vals Ls (cc*3) 64 0 0),(.cells (mK w A i) 2 31 0 0)] [] true w bs) (tu) fun x0 w0 b0=>(.split (decide (kk+1<=cc)) (.need (0+kk*3=Ls.length/\Ls.length+(ae id [SV.str x0.s false,SV.xp x0.p,SV.int i64 x0.at' false]).length<=cc*3/\ap 0 0 Ls.length (ae id [SV.str x0.s false,SV.xp x0.p,SV.int i64 x0.at' false]).length=true) (.leaf .normal [(.slc 0 0 (kk+1) cc false false),(.xs A n c),(.int .i64 ((↑n:Int)) false),(xW i)] (SS.mk [(.vals (Ls++ae id [SV.str x0.s false,SV.xp x0.p,SV.int i64 x0.at' false]) (cc*3) 64 0 0),(.cells (mK w A i) 2 31 0 0),(.cells (sK x0) 3 64 0 0)] [] true w0 b0))) (.need (0+kk*3<=Ls.length/\Builtin.nextslicecap (kk+1) cc*32<=281474976710656/\(↑(kk+1):Int)<=i64.max) (.choose (.appendCap (kk+1) cc 64) fun c1=>(.leaf .normal [(.slc 3 0 (kk+1) c1 false false),(.xs A n c),(.int .i64 ((↑n:Int)) false),(xW i)] (SS.mk [(.vals Ls (cc*3) 64 0 0),(.cells (mK w A i) 2 31 0 0),(.cells (sK x0) 3 64 0 0),(.vals (List.take (kk*3) (List.drop 0 Ls)++ae id [SV.str x0.s false,SV.xp x0.p,SV.int i64 x0.at' false]) (c1*3) 64 0 0)] [] true w0 b0))))))))) (.leaf (.exit 0) [(.slc 0 0 kk cc false false)] (SS.mk [(.vals Ls (cc*3) 64 0 0)] [] true w bs))):=by kernel_rfl
theorem PY(A:Option Addr)(n c i kk cc:Nat)(Ls:List Value)(w:World)(bs:List Nat)(g:Nat->Value):(by have h:=K7 A n c i kk cc Ls w bs g;unfold xW sK mK at h;exact type_of% h):=K7 A n c i kk cc Ls w bs g
def MaR(w:World)(B:Nat)(x:Comp)(vs:List Value):Prop:=∃pre p,vs=[.string ⟨(pre++x.val).toArray⟩,.pointer (some p),.int .i64 (pre.length:Int)]/\ProtAt w B p x.code/\pre.length<=26
theorem ProtAt.sub{w w':World}{B B':Nat}{p:Addr}{k:Int}(h:ProtAt w B p k)(hs:Sub B w w')(hB:B<=B'):ProtAt w' B' p k:=by
 obtain⟨h1,x,h2⟩:=h
 exact⟨by omega,x,fun i v hi=>hs _ _ (by rw[aD];exact h1) (h2 i v hi)⟩
theorem MaR.sub(B B':Nat)(a b:World)(x:Comp)(vs:List Value)(hs:Sub B a b)(hB:B<=B')(h:MaR a B x vs):MaR b B' x vs:=by
 obtain⟨pre,p,h1,h2,h3⟩:=h
 exact⟨pre,p,h1,h2.sub hs hB,h3⟩
theorem MaR.len{w:World}{B:Nat}(x:Comp)(vs:List Value)(h:MaR w B x vs):vs.length=3:=by
 obtain⟨pre,p,rfl,_⟩:=h
 rfl
def MasAt(w:World)(B:Nat)(A:Option Addr)(n:Nat)(l:List Comp):Prop:=SeqAt (CellsAt (MaR w B) w B) 3 B A n l
theorem MasAt.sub{w w':World}{B B':Nat}{A:Option Addr}{n:Nat}{l:List Comp}(h:MasAt w B A n l)(hs:Sub B w w')(hB:B<=B'):MasAt w' B' A n l:=
 h.imp hB fun a x _ hx=>hx.sub hs hB fun x vs=>MaR.sub _ _ _ _ x vs hs hB
end
section
open Go Go.Rx Go.RowKit
structure CV where
 code:Int
 A:Option Addr
 n:Nat
 c:Nat
@[reducible] def td:Hook:={ X:=CV,out:=fun _ s x=>(.agg [.int .i64 x.code false,.xs x.A x.n x.c],s.objs) }
def Iz:Hooks:={ calls:=fun f=>if f=46 then some td else none,loops:=fun _ _=>none }
noncomputable abbrev uY(A:Option Addr)(n c:Nat):List SV:=([(.xs A n c),(.tup []),(.one (.slice none 0 0) rfl),(.one (.slice none 0 0) rfl),(.tup []),(.tup []),(.xs A n c),(.int .i64 ((↑n:Int)) false),(.int .i64 0 true)]++List.replicate 9 aA)
theorem Lw(A:Option Addr)(n c:Nat)(w:World):am Tryz.prog (Fl 18) 1000 30 [.xs A n c] (SS.at w) =
(.loop 30 (ar Tryz.prog 30 4) (uY A n c) (SS.mk [] [] true w []) (LoopHook.X (Fu 18)) (LoopHook.out (Fu 18) (uY A n c) (SS.mk [] [] true w [])) (fun x0 w0 b0=>(.leaf .ret [(.xs x0.fst.A x0.fst.k x0.fst.c)] (SS.mk [] [] true w0 b0))) (LoopHook.Y (Fu 18)) (LoopHook.out' (Fu 18) (uY A n c) (SS.mk [] [] true w [])) (fun x0 w0 b0=>(.leaf .ret [(.raw (x0.snd 2))] (SS.mk [] [] true w0 b0)))):=by kernel_rfl
theorem Qc(A:Option Addr)(n c:Nat)(w:World):(by have h:=Lw A n c w;unfold uY at h;exact type_of% h):=Lw A n c w
noncomputable abbrev lH(w:World)(A:Option Addr)(i:Nat):SObj:=(.cells [(.str (bo w (((A.getD default).add ((↑i:Int).toNat*3)).add 0)) false),(.xp (ca w (((A.getD default).add ((↑i:Int).toNat*3)).add 1))),(.int .i64 (ai w (((A.getD default).add ((↑i:Int).toNat*3)).add 2)) false)] 3 64 0 0)
noncomputable abbrev ru(i:Nat):SV:=(.int .i64 (i64.wrap ((↑i:Int)+(1:Int))) false)
noncomputable abbrev nW(x0:(Hook.X (td))):List SV:=[(.int .i64 x0.code false),(.xs x0.A x0.n x0.c)]
theorem KG(A:Option Addr)(n c i:Nat)(w:World)(g:Nat->Value):aK Tryz.prog Iz 1000 30 (ar Tryz.prog 30 4) (az ((LA .normal).zip [.one (.slice none 0 0) rfl,.xs A n c,.int .i64 n false,.int .i64 i false]) g 18 0) (fun e a s=>.leaf e (ep LA e a) s) (SS.mk [] [] true w []) =
(.split (decide ((↑i:Int)<(↑n:Int))) (.need ((0:Int)<=(↑i:Int)/\(↑i:Int)<(↑n:Int)) (.need (A.isSome=true) (.need (canRead w [] ((A.getD default).add ((↑i:Int).toNat*3)) [SV.str (bo w (((A.getD default).add ((↑i:Int).toNat*3)).add 0)) false,SV.xp (ca w (((A.getD default).add ((↑i:Int).toNat*3)).add 1)),SV.int i64 (ai w (((A.getD default).add ((↑i:Int).toNat*3)).add 2)) false]) (.hc 46 [(.ptr 0 0)] (SS.mk [(lH w A i)] [] true w []) (td) fun x0 w0 b0=>(.need (32<=281474976710656) (.need ((↑(1:Nat):Int)<=i64.max) (.choose (.appendCap 1 0 31) fun c1=>(.leaf .normal [(.slc 2 0 1 c1 true false),(.xs A n c),(.int .i64 ((↑n:Int)) false),(ru i)] (SS.mk [(lH w A i),(.cells (nW x0) 2 31 0 0),(.cells (nW x0) (c1*2) 31 0 0)] [] true w0 b0))))))))) (.leaf (.exit 0) [(.one (.slice none 0 0) rfl)] (SS.mk [] [] true w []))):=by kernel_rfl
theorem PB(A:Option Addr)(n c i:Nat)(w:World)(g:Nat->Value):(by have h:=KG A n c i w g;unfold nW ru lH at h;exact type_of% h):=KG A n c i w g
theorem K9(A:Option Addr)(n c i kk cc:Nat)(Ls:List Value)(w:World)(bs:List Nat)(g:Nat->Value):aK Tryz.prog Iz 1000 30 (ar Tryz.prog 30 4) (az ((LA .normal).zip [.slc 0 0 kk cc false false,.xs A n c,.int .i64 n false,.int .i64 i false]) g 18 0) (fun e a s=>.leaf e (ep LA e a) s) (SS.mk [.vals Ls (cc*2) 31 0 0] [] true w bs) =
(.split (decide ((↑i:Int)<(↑n:Int))) (.need ((0:Int)<=(↑i:Int)/\(↑i:Int)<(↑n:Int)) (.need (A.isSome=true) (.need (canRead w bs ((A.getD default).add ((↑i:Int).toNat*3)) [SV.str (bo w (((A.getD default).add ((↑i:Int).toNat*3)).add 0)) false,SV.xp (ca w (((A.getD default).add ((↑i:Int).toNat*3)).add 1)),SV.int i64 (ai w (((A.getD default).add ((↑i:Int).toNat*3)).add 2)) false]) (.hc 46 [(.ptr 1 0)] (SS.mk [(.vals Ls (cc*2) 31 0 0),(lH w A i)] [] true w bs) (td) fun x0 w0 b0=>(.split (decide (kk+1<=cc)) (.need (0+kk*2=Ls.length/\Ls.length+(ae id [SV.int i64 x0.code false,SV.xs x0.A x0.n x0.c]).length<=cc*2/\ap 0 0 Ls.length (ae id [SV.int i64 x0.code false,SV.xs x0.A x0.n x0.c]).length=true) (.leaf .normal [(.slc 0 0 (kk+1) cc false false),(.xs A n c),(.int .i64 ((↑n:Int)) false),(ru i)] (SS.mk [(.vals (Ls++ae id [SV.int i64 x0.code false,SV.xs x0.A x0.n x0.c]) (cc*2) 31 0 0),(lH w A i),(.cells (nW x0) 2 31 0 0)] [] true w0 b0))) (.need (0+kk*2<=Ls.length/\Builtin.nextslicecap (kk+1) cc*32<=281474976710656/\(↑(kk+1):Int)<=i64.max) (.choose (.appendCap (kk+1) cc 31) fun c1=>(.leaf .normal [(.slc 3 0 (kk+1) c1 false false),(.xs A n c),(.int .i64 ((↑n:Int)) false),(ru i)] (SS.mk [(.vals Ls (cc*2) 31 0 0),(lH w A i),(.cells (nW x0) 2 31 0 0),(.vals (List.take (kk*2) (List.drop 0 Ls)++ae id [SV.int i64 x0.code false,SV.xs x0.A x0.n x0.c]) (c1*2) 31 0 0)] [] true w0 b0))))))))) (.leaf (.exit 0) [(.slc 0 0 kk cc false false)] (SS.mk [(.vals Ls (cc*2) 31 0 0)] [] true w bs))):=by kernel_rfl
theorem PZ(A:Option Addr)(n c i kk cc:Nat)(Ls:List Value)(w:World)(bs:List Nat)(g:Nat->Value):(by have h:=K9 A n c i kk cc Ls w bs g;unfold nW ru lH at h;exact type_of% h):=K9 A n c i kk cc Ls w bs g
noncomputable abbrev zB(w:World)(a:Addr)(c0:Nat):List SV:=[(.int .i64 (ai w (((ca w ((a.add 1).add 0)).add 1).add 0)) false),(.slc 1 0 (((bo w ((a.add 0).add 0)).extract (ai w ((a.add 2).add 0)).toNat (bo w ((a.add 0).add 0)).size).size) c0 false false)]
theorem LF(a:Addr)(w:World):am Tryz.prog au 1000 46 [.xp a] (SS.mk [] [] true w []) =
(.need (canRead w [] (a.add 1) [SV.xp (ca w ((a.add 1).add 0))]) (.need (canRead w [] (a.add 1) [SV.xp (ca w ((a.add 1).add 0))]) (.need (canRead w [] ((ca w ((a.add 1).add 0)).add 1) [SV.int i64 (ai w (((ca w ((a.add 1).add 0)).add 1).add 0)) false]) (.need (canRead w [] (a.add 0) [SV.str (bo w ((a.add 0).add 0)) false]) (.need (canRead w [] (a.add 2) [SV.int i64 (ai w ((a.add 2).add 0)) false]) (.need ((0:Int)<=ai w ((a.add 2).add 0)/\ai w ((a.add 2).add 0)<=(↑(bo w ((a.add 0).add 0)).size:Int)) (.choose (.appendCap (((bo w ((a.add 0).add 0)).extract (ai w ((a.add 2).add 0)).toNat (bo w ((a.add 0).add 0)).size).size) 0 5) fun c0=>(.leaf .ret [(.agg (zB w a c0))] (SS.mk [(.cells (zB w a c0) 2 31 0 0),(.ints .u8 (List.map (fun b=>(↑b.toNat:Int)) (#[].extract 0 0++(bo w ((a.add 0).add 0)).data.extract (ai w ((a.add 2).add 0)).toNat ((ai w ((a.add 2).add 0)).toNat+((bo w ((a.add 0).add 0)).size-(ai w ((a.add 2).add 0)).toNat))++#[].extract (0+min ((bo w ((a.add 0).add 0)).size-(ai w ((a.add 2).add 0)).toNat) ((bo w ((a.add 0).add 0)).data.size-(ai w ((a.add 2).add 0)).toNat)) 0).toList++List.replicate (c0-((bo w ((a.add 0).add 0)).extract (ai w ((a.add 2).add 0)).toNat (bo w ((a.add 0).add 0)).size).size) (0:Int)) 5 c0 (c0+1))] [] true w []))))))))):=by kernel_rfl
theorem Qh(a:Addr)(w:World):(by have h:=LF a w;unfold zB at h;exact type_of% h):=LF a w
theorem MaR.lasts:Lasts MaR 3:=⟨MaR.sub,fun w B x vs=>MaR.len x vs,by omega⟩
def AddrR(w:World)(B:Nat)(l:List Comp)(vs:List Value):Prop:=∃A n c,vs=[.slice A n c]/\RowAt MaR 3 w B A n l
theorem AddrR.lasts:Lasts AddrR 1 where
 sub _ _ _ _ _ _ hs hB:=by
  rintro⟨A,n,c,h1,h2⟩
  exact⟨A,n,c,h1,h2.sub MaR.lasts hs hB⟩
 len _ _ _ _:=by
  rintro⟨A,n,c,rfl,_⟩
  rfl
 pos:=by omega
def CompR(w:World)(B:Nat)(x:Comp)(vs:List Value):Prop:=∃A n c,vs=[.int .i64 x.code,.slice A n c]/\Bts w B A n x.val
theorem CompR.lasts:Lasts CompR 2 where
 sub _ _ _ _ _ _ hs hB:=by
  rintro⟨A,n,c,h1,h2⟩
  exact⟨A,n,c,h1,h2.sub hs hB⟩
 len _ _ _ _:=by
  rintro⟨A,n,c,rfl,_⟩
  rfl
 pos:=by omega
def ListR(w:World)(B:Nat)(l:List Comp)(vs:List Value):Prop:=∃A n c,vs=[.slice A n c]/\RowAt CompR 2 w B A n l
theorem ListR.lasts:Lasts ListR 1 where
 sub _ _ _ _ _ _ hs hB:=by
  rintro⟨A,n,c,h1,h2⟩
  exact⟨A,n,c,h1,h2.sub CompR.lasts hs hB⟩
 len _ _ _ _:=by
  rintro⟨A,n,c,rfl,_⟩
  rfl
 pos:=by omega
def H2{γ:Type}(R:World->Nat->γ->List Value->Prop)(size:Nat)(l:List γ)(w:World)(v:Value)(w':World):Prop:=∃A k c,v=.slice A k c/\RowAt R size (since w w') w'.heap.size A k l
theorem I6{γ:Type}{R:World->Nat->γ->List Value->Prop}{size:Nat}(hR:Lasts R size){l:List γ}{w w0 w':World}{bs:List Nat}{objs:List SObj}{x:UV}(hb:Below w.heap.size w w0)(hb1:Below w.heap.size w w')(hm:RowAt R size (since w0 w') w'.heap.size x.A x.k l)
  (hbs:∀b∈bs,w.heap.size<=b/\b<w0.heap.size):(T.leaf .ret [.xs x.A x.k x.c] (SS.mk objs [] true w' bs)).holds (cS Tryz.prog (bC fun v w2=>H2 R size l w v w2/\Below w.heap.size w w2)):=
 aN (Fine.mk' hb1 fun b hb=>(hbs b hb).1) fun β w2 hst2 hb2=>⟨x.A,x.k,x.c,rfl,hm.sub hR (kc (hst2.old rfl) rfl (fun b hb=>(hbs b hb).2) hb.size) (hst2.old rfl).sz⟩
theorem cX{w:World}{pre:List Nat}{a:Addr}{v:SV}(hb:a.block<w.heap.size)(hp:a.block ∉ pre)(hc:w.cell? a=some (v.den id)):canRead w pre a [v]:=
 ⟨hb,hp,fun j u hj=>match j,hj with
  |0,hj=>by
   simp only[List.getElem?_cons_zero,Option.some.injEq]at hj
   subst hj
   exact hc
  |j+1,hj=>by simp at hj⟩
theorem Bts.since{w w':World}{B:Nat}{A:Option Addr}{n:Nat}{l:List UInt8}(h:Bts w' B A n l)(hf:Fresh w A):Bts (Rx.since w w') B A n l:=by
 refine⟨h.1,fun hn=>?_⟩
 obtain⟨a,ha,hb,hx⟩:=h.2 hn
 exact⟨a,ha,hb,fun i x hi=>(cu _ _ _ _).2 ⟨by rw[aD];exact hf a ha,hx i x hi⟩⟩
theorem KK(a:Addr)(x:Comp)(B:Nat)(w:World)(h:CellsAt (MaR w B) w B a x)(hB:B<=w.heap.size) :
  Calls Tryz.prog 46 #[.pointer (some a)] w (bF (fun v w'=>∃A n c,v=.agg #[.int .i64 x.code,.slice A n c]/\Bts (Rx.since w w') w'.heap.size A n x.val) w):=by
 obtain⟨h1,vs,⟨pre,p,rfl,⟨hp1,y,hp2⟩,hlen⟩,hcell⟩:=h
 have c0:w.cell? ((a.add 0).add 0)=some (.string ⟨(pre++x.val).toArray⟩):=hcell 0 _ rfl
 have c1:w.cell? ((a.add 1).add 0)=some (.pointer (some p)):=hcell 1 _ rfl
 have c2:w.cell? ((a.add 2).add 0)=some (.int .i64 (pre.length:Int)):=hcell 2 _ rfl
 have c3:w.cell? ((p.add 1).add 0)=some (.int .i64 x.code):=hp2 1 _ rfl
 have e0:bo w ((a.add 0).add 0)=⟨(pre++x.val).toArray⟩:=by simp[bo,c0]
 have e1:ca w ((a.add 1).add 0)=p:=by simp[ca,c1]
 have e2:ai w ((a.add 2).add 0)=(pre.length:Int):=by simp[ai,c2]
 have e3:ai w ((p.add 1).add 0)=x.code:=by simp[ai,c3]
 refine aH (hk:=au) (n:=1000) (args:=[.xp a]) ⟨trivial,trivial⟩ ?_
 refine ah (Qh a w) ?_
 rw[e0,e1,e2,e3]
 refine aa (cX (by rw[aD];omega) (by simp) c1) (aa (cX (by rw[aD];omega) (by simp) c1) (aa (cX (by rw[aD];omega) (by simp) c3) (aa (cX (by rw[aD];omega) (by simp) c0) (aa (cX (by rw[aD];omega) (by simp) c2) (aa ?_ (aE ?_))))))
 ·exact⟨by omega,by simp[ByteArray.size];omega⟩
 rintro cc ⟨t,hcc⟩
 refine aN (Fine.start _ _) fun β w' hst hb=>?_
 have hz:((⟨(pre++x.val).toArray⟩:ByteArray).extract ((pre.length:Int)).toNat (⟨(pre++x.val).toArray⟩:ByteArray).size).size=x.val.length:=by simp[ByteArray.size_extract,ByteArray.size]
 have o:=hst.old rfl
 have h0:=hst.at_ 1 _ rfl
 have hfr:Fresh w (some ⟨β 1,0,none⟩):=fun a ha=>by
  cases ha
  exact(Fine.start w _).new o 1 (by simp[SS.n])
 refine⟨some ⟨β 1,0,none⟩,x.val.length,cc,?_,?_⟩
 ·simp only[SV.den,ae]
  rw[hz]
 ·have hL:=cp (k:=x.val.length) h0 ?_ ?_ (hst.lt 1 (by simp[SS.n]))
  ·refine Bts.since ?_ hfr
   refine cast ?_ hL
   congr 1
   simp[ByteArray.size,Function.comp_def]
  ·intro v hv
   rcases List.mem_append.1 hv with h |h
   ·obtain⟨b,_,rfl⟩:=List.mem_map.1 h
    have:=b.toNat_lt
    omega
   ·have:=List.eq_of_mem_replicate h
    omega
  ·simp[ByteArray.size]
theorem Cw{x:Comp}{Q:SE->List Value->World->Prop}{β0:Nat->Nat}{n0:Nat}{s:SS}{w:World}{bs:List Nat}{args:List SV}{objs:List SObj}{k:CV->World->List Nat->T}(hf:KFine bs w s)(hs0:s.objs=objs)
  (hc:∀β wc,St { P:=Tryz.prog,β0:=β0,n0:=n0,Q:=Q } β s wc->Keep bs w wc->∃a B,(ae β args).toArray=#[.pointer (some a)]/\CellsAt (MaR wc B) wc B a x/\B<=wc.heap.size)
  (hk:∀y wc w' bs',Keep bs w wc->Below wc.heap.size wc w'->Keep bs w w'->(∀b∈bs',(b∈bs∨w.heap.size<=b)/\b<wc.heap.size)->CompR (Rx.since wc w') w'.heap.size x [.int .i64 y.code,.slice y.A y.n y.c]->(k y w' bs').holds { P:=Tryz.prog,β0:=β0,n0:=n0,Q:=Q }) :
  (T.call 46 args s CV (fun x=>(.agg [.int .i64 x.code false,.xs x.A x.n x.c],objs)) k).holds { P:=Tryz.prog,β0:=β0,n0:=n0,Q:=Q }:=by
 refine dI (R:=fun(y:CV) wc w'=>CompR (Rx.since wc w') w'.heap.size x [.int .i64 y.code,.slice y.A y.n y.c]) hf (fun x=>⟨hs0.symm,trivial,trivial,trivial⟩) (fun β wc hst ho hkp=>?_) (fun y wc w' bs' h1 hr h2 h3 h4=>hk y wc w' bs' h1 h2 h3 h4 hr)
 obtain⟨a,B,h1,h2,h3⟩:=hc β wc hst hkp
 show Calls Tryz.prog 46 (ae β args).toArray wc _
 rw[h1]
 refine(KK a x B wc h2 h3).mono ?_
 rintro e w' ⟨v,rfl,⟨A,kk,c,rfl,h5⟩,hb'⟩
 exact⟨⟨x.code,A,kk,c⟩,rfl,hb',A,kk,c,rfl,h5⟩
theorem Dp{w:World}{B:Nat}{a:Addr}{x:Comp}(h:CellsAt (MaR w B) w B a x)(hB:B<=w.heap.size){pre:List Nat}(hp:∀b∈pre,B<=b) :
  canRead w pre a [SV.str (bo w (a.add 0)) false,SV.xp (ca w (a.add 1)),SV.int i64 (ai w (a.add 2)) false] /\
  ∃pr p,[Value.string (bo w (a.add 0)),.pointer (some (ca w (a.add 1))),.int .i64 (ai w (a.add 2))]=[.string ⟨(pr++x.val).toArray⟩,.pointer (some p),.int .i64 (pr.length:Int)]/\ProtAt w B p x.code/\pr.length<=26:=by
 obtain⟨h1,vs,⟨pr,p,rfl,hp1,hlen⟩,hcell⟩:=h
 have c0:=hcell 0 _ rfl
 have c1:=hcell 1 _ rfl
 have c2:=hcell 2 _ rfl
 have e0:bo w (a.add 0)=⟨(pr++x.val).toArray⟩:=by simp[bo,c0]
 have e1:ca w (a.add 1)=p:=by simp[ca,c1]
 have e2:ai w (a.add 2)=(pr.length:Int):=by simp[ai,c2]
 rw[e0,e1,e2]
 refine⟨⟨by omega,fun hm=>by have:=hp _ hm;omega,fun j v hj=>?_⟩,pr,p,rfl,hp1,hlen⟩
 match j,hj with
 |0,hj=>simp only[List.getElem?_cons_zero,Option.some.injEq]at hj;subst hj;exact c0
 |1,hj=>simp only[List.getElem?_cons_succ,List.getElem?_cons_zero,Option.some.injEq]at hj;subst hj;exact c1
 |2,hj=>simp only[List.getElem?_cons_succ,List.getElem?_cons_zero,Option.some.injEq]at hj;subst hj;exact c2
 |j+3,hj=>simp at hj
theorem cellsIn{w:World}{b:Nat}{vs rest:List Value}{e:TypeId}{fr:Nat×Nat}(h:w.heap[b]?=some (.cells (vs++rest).toArray e fr)):∀j v,vs[j]?=some v->w.cell? (Addr.add ⟨b,0,none⟩ j)=some v:=by
 intro j v hj
 have ha:(Addr.add ⟨b,0,none⟩ j)=⟨b,j,none⟩:=by unfold Addr.add;split <;> simp_all
 rw[ha]
 simp only[World.cell?,h]
 simp[List.getElem?_append_left (List.getElem?_eq_some_iff.1 hj).1,hj]
theorem sX(A:Option Addr)(n c:Nat)(l:List Comp)(B:Nat)(w:World)(h:RowAt MaR 3 w B A n l)(hB:B<=w.heap.size)(hn:(n:Int)<2^40) :
  Calls Tryz.prog 30 #[.slice A n c] w (bF (H2 CompR 2 l w) w):=by
 have hl:=h.1
 refine aH (hk:=Fl 18) (n:=1000) (args:=[.xs A n c]) ⟨trivial,trivial⟩ ?_
 rw[Qc]
 refine Dl (Fine.start _ _) 31 2 LA (α:=Nat) (fun i=>[.xs A n c,.int .i64 n false,.int .i64 i false]) (fun i=>n-i) (IR CompR l n) (ER CompR 2 l)
  (fun _=>Iz) 1000 (by simp) (by simp[LA]) (by simp[LA]) (fun _=>⟨trivial,trivial,trivial,trivial⟩) rfl rfl rfl (by simp) (by simp) (fun _=>⟨trivial,trivial⟩) (fun _=>trivial) ?_ ?_ ?_ ?_
 ·rintro w0 i w1 g hbw0 hI hb0 hbw
  refine ah (PB A n c i w1 g) (ak (fun hlt=>?_) (fun hge=>Fc CompR.lasts hl (by omega) hI hb0 (fun _=>rfl)))
  have hlt':i<n:=by omega
  have hB1:B<=w1.heap.size:=Nat.le_trans hB hbw.size
  obtain⟨ad,x,rfl,had,hx,hR⟩:=(h.sub MaR.lasts (Below.sub (hbw.mono hB)) (Nat.le_refl _)).get hlt'
  obtain⟨r1,pr,p,r2,r3,r4⟩:=Dp hR hB1 (pre:=[]) (by simp)
  refine aa (by omega) (aa rfl (aa r1 ?_))
  refine Cw (x:=x) (bs:=[]) ⟨rfl,Keep.refl _ _,by simp⟩ rfl (fun β wc hst hk=>?_) fun m wc w2 bs' hk1 hb2 hk2 hbs' hnew=>?_
  ·obtain⟨rest,e1,_⟩:=hst.at_ 0 _ rfl
   refine⟨⟨β 0,0,none⟩,wc.heap.size,rfl,⟨hst.lt 0 (by simp[SS.n]),_,⟨pr,p,r2,r3.sub (Below.sub (hk.belowB hB1 (by simp))) (Nat.le_trans hB1 hk.size),r4⟩,cellsIn e1⟩,Nat.le_refl _⟩
  ·exact ya CompR.lasts hlt' hx hI hb0 hk1 hb2 hk2 hbs' (by omega) (by decide) (vs:=[.int .i64 m.code,.slice m.A m.n m.c]) (fun _=>rfl) (fun _=>rfl) hnew (fun _=>by rw[gz hlt' (by omega)];rfl)
 ·rintro w0 i w1 g b kk cc Ls hbw0 hI hb0 hbw hb1 hb2 hLs hkc
  refine ah (PZ A n c i kk cc Ls w1 [b] g) (ak (fun hlt=>?_) (fun hge=>Rx.Fd CompR.lasts hl (by omega) hI hb0 hb1 hLs hkc))
  have hlt':i<n:=by omega
  have hB1:B<=w1.heap.size:=Nat.le_trans hB hbw.size
  have hBb:∀b'∈[b],B<=b':=fun b' hb'=>by
   have:=hbw0.size
   simp at hb'
   omega
  obtain⟨ad,x,rfl,had,hx,hR⟩:=(h.sub MaR.lasts (Below.sub (hbw.mono hB)) (Nat.le_refl _)).get hlt'
  obtain⟨r1,pr,p,r2,r3,r4⟩:=Dp hR hB1 (pre:=[b]) hBb
  refine aa (by omega) (aa rfl (aa r1 ?_))
  refine Cw (x:=x) (bs:=[b]) ⟨rfl,Keep.refl _ _,fun b hb=>.inl hb⟩ rfl (fun β wc hst hk=>?_) fun m wc w2 bs' hk1 hb2 hk2 hbs' hnew=>?_
  ·obtain⟨rest,e1,_⟩:=hst.at_ 1 _ rfl
   refine⟨⟨β 1,0,none⟩,wc.heap.size,rfl,⟨hst.lt 1 (by simp[SS.n]),_,⟨pr,p,r2,r3.sub (Below.sub (hk.belowB hB1 hBb)) (Nat.le_trans hB1 hk.size),r4⟩,cellsIn e1⟩,Nat.le_refl _⟩
  ·exact yb CompR.lasts hlt' hx hI hb0 hb1 hLs hkc hk1 hb2 hk2 hbs' (by omega) (by omega) (vs:=[.int .i64 m.code,.slice m.A m.n m.c]) rfl (fun _=>rfl) hnew (fun _=>by rw[gz hlt' (by omega)];rfl)
 ·intro β w0 hst hb
  exact⟨0,rfl,Nat.zero_le _,.nil⟩
 ·rintro β w0 hst hb e lv w' ⟨rfl,A',k,c',rfl,hmas⟩ hb0 hb1
  exact .inl ⟨⟨A',k,c'⟩,rfl,rfl,fun g bs hbs=>I6 CompR.lasts (x:=⟨A',k,c'⟩) hb hb1 hmas hbs⟩
end
section
open Go Go.Rx Go.RowKit
theorem gL{Γ:Ctx}{w:World}{f:FuncId}{args:List SV}{X:Type}{out:X->SV×List SObj}{k:X->World->List Nat->T}{R:X->World->World->Prop}(hout:∀x,(out x).2=[]/\(out x).1.ok 0)
  (hc:∀β w0,Below w.heap.size w w0->Calls Γ.P f (ae β args).toArray w0 fun e w'=>∃x,e=.returned ((out x).1.den β)/\Below w0.heap.size w0 w'/\R x w0 w')
  (hk:∀x w0 w',Below w.heap.size w w0->R x w0 w'->Below w0.heap.size w0 w'->(k x w' []).holds Γ):(T.call f args (SS.mk [] [] true w []) X out k).holds Γ:=by
 intro β w0 hs hargs
 have o:=hs.old rfl
 have hbw:Below w.heap.size w w0:=o.belowB (Below.refl _ _) (Nat.le_refl _) (by simp)
 refine(hc β w0 hbw).mono ?_
 rintro e w' ⟨x,rfl,hb,hr⟩
 obtain⟨ho1,ho2⟩:=hout x
 refine⟨x,β,[],rfl,⟨?_,?_,fun _ _=>rfl⟩,?_,hk x w0 w' hbw hr hb⟩
 ·rw[ho1];exact hs.rebase hb
 ·exact Nat.zero_le _
 ·rw[ho1];exact ho2
end
section
open Go Go.Rx Go.RowKit
def ym(args:List SV)(l:List SObj)(v:List Int):List SObj:=
 match args with
 |[.slc id _ _ _ _ _,_]=>l.set id (.ints .u8 v 227 0 0)
 |_=>l
@[reducible] def CC:Hook:={ X:=List Int,out:=fun args s x=>(.tup [],ym args s.objs x) }
def Og:Hooks:={ calls:=fun f=>if f=308 then some aL else if f=309 then some dn else if f=310 then some CC else none,loops:=fun _ _=>none }
def Kc:Hooks:={ calls:=fun f=>if f=243 then some il else none,loops:=fun _ _=>none }
noncomputable abbrev EH:SObj:=(.cells [(.int .u8 0 true),(.int .u8 0 true),(.int .u8 0 true),(.int .u8 0 true),(.int .u8 0 true),(.int .u8 0 true),(.int .u8 0 true),(.int .u8 0 true),(.int .u8 0 true),(.int .u8 0 true),(.int .u8 0 true),(.int .u8 0 true),(.int .u8 0 true),(.int .u8 0 true),(.int .u8 0 true),(.int .u8 0 true),(.int .u8 0 true),(.int .u8 0 true),(.int .u8 0 true),(.int .u8 0 true),(.int .u8 0 true),(.int .u8 0 true),(.int .u8 0 true),(.int .u8 0 true)] 24 227 0 0)
theorem Kr(n:Nat)(w:World):am Tryz.prog Og 500 211 [.int .u64 n false,.int .i64 10 true] (SS.mk [] [] true w []) =
(.split (decide ((↑n:Int)<(100:Int))) (.hc 308 [(.int .i64 (i64.wrap (↑n:Int)) false)] (SS.mk [] [] true w []) (aL) fun x0 w0 b0=>(.leaf .ret [(.str x0 false)] (SS.mk [] [] true w0 b0))) (.hc 309 [(.int .u64 ((↑n:Int)) false)] (SS.mk [EH] [] true w []) (dn) fun x0 w0 b0=>(.need ((0:Int)<=(↑x0:Int)/\(↑x0:Int)<=(↑(24:Nat):Int)) (.hc 310 [(.slc 0 0 ((↑x0:Int).toNat-0) 24 false true),(.int .u64 ((↑n:Int)) false)] (SS.mk [EH] [] true w0 b0) (CC) fun x1 w1 b1=>(.need ((0:Int)<=(↑x0:Int)/\(↑x0:Int)<=(↑(24:Nat):Int)) (.need (0+((↑x0:Int).toNat-0)<=List.length x1) (.leaf .ret [(.str (bytesOf (List.take ((↑x0:Int).toNat-0) (List.drop 0 x1))) false)] (SS.mk [(.ints .u8 x1 227 0 0)] [] true w1 b1)))))))):=by kernel_rfl
theorem Pq(n:Nat)(w:World):(by have h:=Kr n w;unfold EH at h;exact type_of% h):=Kr n w
theorem Pr(s:ByteArray)(b:Int)(w:World):am Tryz.prog Kc 500 208 [.str s false,.int .i64 10 true,.int .i64 b true] (SS.mk [] [] true w []) =
 (.hc 243 [(.str s false),(.int .i64 10 true),(.int .i64 b true)] (SS.mk [] [] true w []) (il) fun x0 w0 b0=>
 (.leaf .ret [(.tup [(.int .u64 ((↑x0:Int)) false),(.one .nilIface rfl)])] (SS.mk [] [] true w0 b0))):=by kernel_rfl
open Go.Sort in
theorem Ja{w:World}(h:Tens w):Lib.TabIs Tryz.prog w "internal/strconv.uint64pow10" .u64 Lib.pow10Tab:=by
 have hg:Tryz.prog.globalNamed "internal/strconv.uint64pow10" = some 14:=by kernel_rfl
 have he:tens=Lib.pow10Tab:=by decide +kernel
 unfold Lib.TabIs World.var?
 rw[hg]
 show(match w.heap[14]? with |some (.cells cs _ _)=>some cs |_=>none)=_
 rw[h,he]
theorem pO:∀(l:List Int) (r:ByteArray),l.foldl (fun r n=>r.push (UInt8.ofNat n.toNat)) r=⟨(r.data.toList++l.map fun n=>UInt8.ofNat n.toNat).toArray⟩
 |[],r=>by simp
 |n :: l,r=>by
  rw[List.foldl_cons,pO l]
  simp[ByteArray.push]
theorem ja(l:List Int):bytesOf l=⟨(l.map fun n=>UInt8.ofNat n.toNat).toArray⟩:=by
 unfold bytesOf
 rw[pO]
 rfl
def lS(d:Array UInt8)(l:List Int):List Int:=l.mapIdx fun k z=>if k<d.size then(d[k]!.toNat:Int) else z
theorem Bl(d:Array UInt8)(l:List Int):(lS d l).length=l.length:=by simp[lS]
theorem Iw{w:World}{b:Nat}{l:List Int}{t:TypeId}{fr:Nat×Nat}(d:Array UInt8)(h:w.heap[b]?=some (.cells (l.map (Value.int .u8)).toArray t fr)) :
  (Sort.putRow (fun(b:UInt8)=>Value.int .u8 (b.toNat:Int)) w b 0 d).heap[b]?=some (.cells ((lS d l).map (Value.int .u8)).toArray t fr):=by
 show(w.heap.modify b _)[b]?=_
 rw[Array.getElem?_modify,if_pos rfl,h]
 simp only[Option.map_some,Sort.onCells,Option.some.injEq,Obj.cells.injEq,and_true]
 apply Array.ext
 ·simp[Sort.putCells,lS]
 ·intro i h1 h2
  simp only[Sort.putCells,lS,Array.getElem_mapIdx,List.getElem_toArray,List.getElem_map,List.getElem_mapIdx,Nat.zero_le,true_and,Nat.zero_add,Nat.sub_zero]
  split <;> rfl
theorem CD{w:World}{b k:Nat}(d:Array UInt8)(h:k≠b):(Sort.putRow (fun(b:UInt8)=>Value.int .u8 (b.toNat:Int)) w b 0 d).heap[k]?=w.heap[k]?:=by
 show(w.heap.modify b _)[k]?=_
 rw[Array.getElem?_modify,if_neg (Ne.symm h)]
theorem Ff{n v':Nat}{dk:Array UInt8}(h:Lib.FmtInv (Lib.nDigits n) n 0 v' dk)(l:List Int)(hl:Lib.nDigits n<=l.length):bytesOf ((lS dk l).take (Lib.nDigits n))=⟨(Lib.decDigits n).toArray⟩:=by
 rw[ja]
 congr 2
 apply List.ext_getElem
 ·simp[lS,Lib.decDigits_length]
  omega
 ·intro i h1 h2
  rw[Lib.decDigits_length]at h2
  rw[Lib.row_is_numeral h i (by rw[Lib.decDigits_length];exact h2)]
  simp only[lS,List.getElem_map,List.getElem_take,List.getElem_mapIdx,h.size,if_pos h2]
  simp
theorem Ct{w:World}{b N j:Nat}{t:TypeId}{fr:Nat×Nat}(h:w.heap[b]?=some (.cells ((List.replicate N (0:Int)).map (Value.int .u8)).toArray t fr))(hj:j<N):w.cell? ⟨b,j,none⟩=some (.int .u8 0):=by
 simp only[World.cell?,h,List.map_replicate]
 simp[hj]
theorem JT(n:Nat)(hn:n<2^64)(w:World)(ht:Tens w):Calls Tryz.prog 211 #[.int .u64 n,.int .i64 10] w (bF (fun v _=>v=.string ⟨(Lib.decDigits n).toArray⟩) w):=by
 refine aH (hk:=Og) (n:=500) (args:=[.int .u64 n false,.int .i64 10 true]) ⟨trivial,trivial,trivial⟩ ?_
 refine ah (Pq n w) (ak (fun h=>?_) (fun h=>?_))
 ·refine gL (R:=fun(s:ByteArray) _ _=>s=⟨(Lib.decDigits n).toArray⟩) (fun x=>⟨rfl,trivial⟩) (fun β wc hb=>?_) ?_
  ·rw[ax (by omega) (by omega)]
   refine(Tryz.internal_strconv_small n (by omega) wc).mono ?_
   rintro e w' ⟨rfl,rfl⟩
   exact⟨_,rfl,Below.refl _ _,rfl⟩
  ·rintro s wc w1 hwc rfl hb
   exact aN (Fine.nil (hwc.trans (hb.mono hwc.size))) fun β w' _ _=>rfl
 ·have hd20:=Lib.nDigits_le20 n hn
  refine o9 (fun r=>r=Lib.nDigits n) (Fine.start _ _) rfl (fun β w0 hb=>?_) ?_
  ·refine(Tryz.internal_strconv_numDigits n (by omega) hn w0 (Ja (ht.below hb ht.lt))).mono ?_
   rintro e w' ⟨rfl,rfl⟩
   exact⟨_,rfl,⟨_,rfl,rfl⟩,Below.refl _ _⟩
  rintro r w1 bs rfl hb1 hbs
  refine aa ⟨by omega,by omega⟩ ?_
  refine F0 (R:=fun(x:List Int) _ _=>bytesOf (x.take (Lib.nDigits n))=⟨(Lib.decDigits n).toArray⟩/\x.length=24) (Fine.mk' hb1 hbs) rfl (fun x=>⟨rfl,by simp[ym,SObj.ok],trivial⟩) (fun β w0 hst ho hb=>?_) ?_
  ·obtain⟨rest,hx,hr⟩:=hst.at_ 0 _ rfl
   have:rest=[]:=List.eq_nil_of_length_eq_zero (by simpa using hr)
   subst this
   have hx':w0.heap[β 0]?=some (.cells ((List.replicate 24 (0:Int)).map (Value.int .u8)).toArray 227 (0,0)):=hx
   have hH:Sort.Holds (fun(b:UInt8)=>Value.int .u8 (b.toNat:Int)) w0 (β 0) 0 (Array.replicate (Lib.nDigits n) (0:UInt8)):=fun j hj=>by
    have hj':j<Lib.nDigits n:=by simpa using hj
    refine⟨?_,?_⟩
    ·rw[getElem!_pos _ j hj]
     rw[Nat.zero_add,Array.getElem_replicate]
     exact Ct hx' (by omega)
    ·simp[World.frozen?,hx']
   have hfmt:=Tryz.internal_strconv_formatBase10 (β 0) 0 24 n (Array.replicate (Lib.nDigits n) (0:UInt8)) w0 hH (by rw[Array.size_replicate];exact Lib.lt_pow_nDigits n) hn (by rw[Array.size_replicate];omega)
   rw[Array.size_replicate]at hfmt
   refine(show Calls Tryz.prog _ #[.slice (some ⟨β 0,0,none⟩) (Lib.nDigits n) 24,.int .u64 n] w0 _ from hfmt).mono ?_
   rintro e w' ⟨rfl,k,v',dk,rfl,hF⟩
   have hlt:=hst.lt 0 (by simp[SS.n])
   refine⟨lS dk (List.replicate 24 0),rfl,⟨rfl,rfl,rfl,?_,fun b hbl hnb=>?_⟩,?_,Ff hF _ (by simp;omega),by rw[Bl];simp⟩
   ·show w0.heap.size<=(w0.heap.modify _ _).size
    simp
   ·refine CD dk ?_
    rintro rfl
    exact hnb (by simp[ac,SS.n])
   ·intro i o hi
    match i,hi with
    |0,hi=>
     cases hi
     exact Iw dk hx'
    |i+1,hi=>exact absurd hi (by simp[ym])
  ·rintro x w2 w3 b3 hb2 ⟨hx1,hx2⟩ hb3 hbs3
   refine aa ⟨by omega,by omega⟩ (aa (by rw[hx2];omega) ?_)
   refine aN (Fine.mk' hb3 fun b hb=>(hbs3 b hb).1) fun β w' _ _=>?_
   show Value.string (bytesOf (List.take (((Lib.nDigits n:Nat):Int).toNat-0) (List.drop 0 x)))=_
   rw[show((Lib.nDigits n:Nat):Int).toNat-0=Lib.nDigits n by omega,List.drop_zero,hx1]
theorem wO(n:Nat):(⟨(Lib.decDigits n).toArray⟩:ByteArray).size=(Lib.decDigits n).length:=by simp[ByteArray.size]
theorem tE(n b:Nat)(w:World)(h:∀w,Calls Tryz.prog 243 #[.string ⟨(Lib.decDigits n).toArray⟩,.int .i64 10,.int .i64 b] w fun e w'=>e=.returned (.tuple #[.int .u64 n,.nilIface])/\Below w.heap.size w w') :
  Calls Tryz.prog 208 #[.string ⟨(Lib.decDigits n).toArray⟩,.int .i64 10,.int .i64 b] w (bF (fun v _=>v=.tuple #[.int .u64 n,.nilIface]) w):=by
 refine aH (hk:=Kc) (n:=500) (args:=[.str ⟨(Lib.decDigits n).toArray⟩ false,.int .i64 10 true,.int .i64 b true]) ⟨trivial,trivial,trivial,trivial⟩ ?_
 refine ah (Pr _ b w) ?_
 refine gL (R:=fun(m:Nat) _ _=>m=n) (fun x=>⟨rfl,trivial,trivial,trivial⟩) (fun β wc hb=>?_) ?_
 ·refine(h wc).mono ?_
  rintro e w' ⟨rfl,hb'⟩
  exact⟨_,rfl,hb',rfl⟩
 ·rintro s wc w1 hwc rfl hb
  exact aN (Fine.nil (hwc.trans (hb.mono hwc.size))) fun β w' _ _=>rfl
theorem ee(w:World)(e:TypeId)(s:ByteArray):Below w.heap.size w (Lib.bytesWorld w e s):=
 ⟨rfl,rfl,rfl,by rw[Lib.bytesWorld_size];omega,fun k hk=>Lib.bytesWorld_at_old w e s k hk⟩
theorem AF:∀(l:List UInt8) (acc:Nat),Lib.parseUint10 acc l=Lib.parseUintM 18446744073709551615 acc l
 |[],acc=>rfl
 |c :: r,acc=>by
  simp only[Lib.parseUint10,Lib.parseUintM]
  split
  ·split
   ·rfl
   ·by_cases h:18446744073709551616<=acc*10+(c.toNat-48)
    ·rw[if_pos h,if_pos (by omega)]
    ·rw[if_neg h,if_neg (by omega),AF r]
  ·rfl
theorem tf(n:Nat):(⟨(Lib.decDigits n).toArray⟩:ByteArray).size≠0:=by
 rw[wO]
 intro h
 exact fu n (List.eq_nil_of_length_eq_zero h)
theorem oZ(n:Nat)(h:n<18446744073709551616):(⟨(Lib.decDigits n).toArray⟩:ByteArray).size<=9223372036854775806:=by
 rw[wO,Lib.decDigits_length]
 have:=Lib.nDigits_le20 n h
 omega
theorem I4(n:Nat)(h:n<2^64)(w:World):Calls Tryz.prog 208 #[.string ⟨(Lib.decDigits n).toArray⟩,.int .i64 10,.int .i64 64] w (bF (fun v _=>v=.tuple #[.int .u64 n,.nilIface]) w):=by
 refine tE n 64 w fun w=>?_
 refine(Tryz.internal_strconv_ParseUint_10_b64 ⟨(Lib.decDigits n).toArray⟩ (tf n) (oZ n h) w).mono ?_
 rintro e w' ⟨rfl,rfl⟩
 refine⟨?_,ee _ _ _⟩
 rw[AF,show(⟨(Lib.decDigits n).toArray⟩:ByteArray).data.toList=Lib.decDigits n from rfl,fF _ n (by omega) h]
 rfl
theorem I3(n:Nat)(h:n<2^16)(w:World):Calls Tryz.prog 208 #[.string ⟨(Lib.decDigits n).toArray⟩,.int .i64 10,.int .i64 16] w (bF (fun v _=>v=.tuple #[.int .u64 n,.nilIface]) w):=by
 refine tE n 16 w fun w=>?_
 refine(Tryz.internal_strconv_ParseUint_10_b16 ⟨(Lib.decDigits n).toArray⟩ (tf n) (oZ n (by omega)) w).mono ?_
 rintro e w' ⟨rfl,rfl⟩
 refine⟨?_,ee _ _ _⟩
 rw[show(⟨(Lib.decDigits n).toArray⟩:ByteArray).data.toList=Lib.decDigits n from rfl,fF _ n (by omega) (by omega)]
 rfl
theorem KW(n:Nat)(h:n<2^8)(w:World):Calls Tryz.prog 208 #[.string ⟨(Lib.decDigits n).toArray⟩,.int .i64 10,.int .i64 8] w (bF (fun v _=>v=.tuple #[.int .u64 n,.nilIface]) w):=by
 refine tE n 8 w fun w=>?_
 refine(Tryz.internal_strconv_ParseUint_10_b8 ⟨(Lib.decDigits n).toArray⟩ (tf n) (oZ n (by omega)) w).mono ?_
 rintro e w' ⟨rfl,rfl⟩
 refine⟨?_,ee _ _ _⟩
 rw[show(⟨(Lib.decDigits n).toArray⟩:ByteArray).data.toList=Lib.decDigits n from rfl,fF _ n (by omega) (by omega)]
 rfl
end
section
open Go Go.Rx Go.RowKit
structure HX where
 m:Nat
 s:ByteArray
 ok:Bool
def JG:SE->List Nat
 | .normal=>[0,3,4]
 | .exit 0=>[3]
 |_=>[]
def Dd:LoopHook:=bK 19 ByteArray (.exit 0) [3] (fun s=>[.str s false]) Unit .ret [] (fun _=>[])
def J6:Hooks:={ calls:=fun _=>none,loops:=fun _ _=>some Dd }
noncomputable abbrev uZ(n:Nat):List SV:=([(.int .i64 ((↑n:Int)) false),(.tup []),(.str (ByteArray.mk #[]) true),(.str (ByteArray.mk #[]) true),(.bool true true)]++List.replicate 14 aA)
theorem LK(n:Nat)(w:World):am Tryz.prog J6 500 241 [.int .i64 n false] (SS.mk [] [] true w []) =
(.loop 241 (ar Tryz.prog 241 4) (uZ n) (SS.mk [] [] true w []) (LoopHook.X (Dd)) (LoopHook.out (Dd) (uZ n) (SS.mk [] [] true w [])) (fun x0 w0 b0=>(.leaf .ret [(.str x0.fst false)] (SS.mk [] [] true w0 b0))) (LoopHook.Y (Dd)) (LoopHook.out' (Dd) (uZ n) (SS.mk [] [] true w [])) (fun x0 w0 b0=>(.leaf .ret [(.raw (x0.snd 2))] (SS.mk [] [] true w0 b0)))):=by kernel_rfl
theorem t91(n:Nat)(w:World):(by have h:=LK n w;unfold uZ at h;exact type_of% h):=LK n w
noncomputable abbrev nX(z:HX):Int:=(↑(BitVec.ofInt 64 (↑z.m:Int) &&& BitVec.ofInt 64 (15:Int)).toNat:Int)
noncomputable abbrev zC:ByteArray:=(ByteArray.mk #[(48:UInt8),(49:UInt8),(50:UInt8),(51:UInt8),(52:UInt8),(53:UInt8),(54:UInt8),(55:UInt8),(56:UInt8),(57:UInt8),(97:UInt8),(98:UInt8),(99:UInt8),(100:UInt8),(101:UInt8),(102:UInt8)])
noncomputable abbrev nY(z:HX):Int:=(i64.wrap (nX z)+(1:Int))
theorem Lf(z:HX)(w:World)(g:Nat->Value):aK Tryz.prog au 1000 241 (ar Tryz.prog 241 4) (az ((JG .normal).zip [.int .i64 z.m false,.str z.s false,.bool z.ok false]) g 19 0) (fun e a s=>.leaf e (ep JG e a) s) (SS.mk [] [] true w []) =
(.split z.ok (.need ((0:Int)<=i64.wrap (nY z)/\i64.wrap (nY z)<=(↑(16:Nat):Int)) (.need ((0:Int)<=i64.wrap (nX z)/\i64.wrap (nX z)<=(↑(i64.wrap (nY z)).toNat:Int)) (.need ((↑((zC.extract (i64.wrap (nX z)).toNat (i64.wrap (nY z)).toNat).size+z.s.size):Int)<=i64.max) (.leaf .normal [(.int .i64 ((↑z.m:Int).fdiv ((2:Int)^4)) false),(.str (zC.extract (i64.wrap (nX z)).toNat (i64.wrap (nY z)).toNat++z.s) false),(.bool (decide ((↑z.m:Int).fdiv ((2:Int)^4) > (0:Int))) false)] (SS.mk [] [] true w []))))) (.leaf (.exit 0) [(.str z.s false)] (SS.mk [] [] true w []))):=by kernel_rfl
theorem P2(z:HX)(w:World)(g:Nat->Value):(by have h:=Lf z w g;unfold nY zC nX at h;exact type_of% h):=Lf z w g
def bR(d:Nat):UInt8:=if d<10 then UInt8.ofNat (48+d) else UInt8.ofNat (87+d)
def ay(n:Nat):List UInt8:=if h:n<16 then[bR n] else ay (n/16)++[bR (n%16)]
termination_by n
decreasing_by omega
theorem ez{n:Nat}(h:n<16):ay n=[bR n]:=by
 rw[ay,dif_pos h]
theorem fv{n:Nat}(h:¬n<16):ay n=ay (n/16)++[bR (n%16)]:=by
 rw[ay,dif_neg h]
theorem cK(n:Nat):(ay n).length<=n+1:=by
 induction n using Nat.strongRecOn with
 |ind n ih=>
  by_cases h:n<16
  ·rw[ez h];simp
  ·rw[fv h]
   have:=ih (n/16) (by omega)
   simp
   omega
theorem JO{m:Nat}(hm:m<2^62):(BitVec.ofInt 64 (m:Int) &&& BitVec.ofInt 64 (15:Int)).toNat=m%16:=by
 rw[BitVec.toNat_and]
 have e1:(BitVec.ofInt 64 (m:Int)).toNat=m:=by
  simp
  omega
 have e2:(BitVec.ofInt 64 (15:Int)).toNat=2^4-1:=by decide
 rw[e1,e2,Nat.and_two_pow_sub_one_eq_mod]
theorem Aa:∀d:Nat,d<16->((ByteArray.mk #[(48:UInt8),(49:UInt8),(50:UInt8),(51:UInt8),(52:UInt8),(53:UInt8),(54:UInt8),(55:UInt8),(56:UInt8),(57:UInt8),(97:UInt8),(98:UInt8),(99:UInt8),(100:UInt8),(101:UInt8),(102:UInt8)]).extract d (d+1))=⟨#[bR d]⟩:=by
 intro d hd
 rcases(by omega:d=0∨d=1∨d=2∨d=3∨d=4∨d=5∨d=6∨d=7∨d=8∨d=9∨d=10∨d=11∨d=12∨d=13∨d=14∨d=15) with rfl |rfl |rfl |rfl |rfl |rfl |rfl |rfl |rfl |rfl |rfl |rfl |rfl |rfl |rfl |rfl <;> rfl
theorem Nz(m:Nat):(m:Int).fdiv ((2:Int)^4)=((m/16:Nat):Int):=by
 rw[show((2:Int)^4)=((16:Nat):Int) from rfl]
 cases m <;> rfl
def Iy(n:Nat)(z:HX):Prop:=z.m<2^62/\z.s.size<=n+1/\((z.ok=true/\ay n=ay z.m++z.s.data.toList)∨(z.ok=false/\z.s.data.toList=ay n))
theorem Fi{n:Nat}{z:HX}(hz:z.ok=true)(h:Iy n z):Iy n ⟨z.m/16,⟨#[bR (z.m%16)]⟩++z.s,decide (((z.m/16:Nat):Int) > 0)⟩:=by
 obtain⟨h1,h2,h3⟩:=h
 have h3:ay n=ay z.m++z.s.data.toList:=by
  rcases h3 with⟨_,h⟩ |⟨h,_⟩
  ·exact h
  ·rw[hz]at h;cases h
 have hd:((⟨#[bR (z.m%16)]⟩:ByteArray)++z.s).data.toList=bR (z.m%16) :: z.s.data.toList:=by
  rw[ByteArray.data_append,Array.toList_append]
  rfl
 have hsz:((⟨#[bR (z.m%16)]⟩:ByteArray)++z.s).size=((⟨#[bR (z.m%16)]⟩:ByteArray)++z.s).data.toList.length:=by
  rw[Array.length_toList]
  rfl
 have hlen:=cK n
 by_cases h16:z.m<16
 ·rw[ez h16]at h3
  have e:bR (z.m%16)=bR z.m:=by rw[Nat.mod_eq_of_lt h16]
  refine⟨by show z.m/16<2^62;omega,?_,.inr ⟨?_,?_⟩⟩
  ·show((⟨#[bR (z.m%16)]⟩:ByteArray)++z.s).size<=n+1
   rw[hsz,hd,e,<- List.singleton_append,<- h3]
   exact hlen
  ·show decide (((z.m/16:Nat):Int) > 0)=false
   simp
   omega
  ·show((⟨#[bR (z.m%16)]⟩:ByteArray)++z.s).data.toList=ay n
   rw[hd,e,<- List.singleton_append,<- h3]
 ·rw[fv h16,List.append_assoc,List.singleton_append]at h3
  refine⟨by show z.m/16<2^62;omega,?_,.inl ⟨?_,?_⟩⟩
  ·show((⟨#[bR (z.m%16)]⟩:ByteArray)++z.s).size<=n+1
   rw[hsz,hd]
   rw[h3,List.length_append]at hlen
   omega
  ·show decide (((z.m/16:Nat):Int) > 0)=true
   simp
   omega
  ·show ay n=ay (z.m/16)++((⟨#[bR (z.m%16)]⟩:ByteArray)++z.s).data.toList
   rw[hd,h3]
theorem FV(n:Nat)(hn:n<2^60)(w:World):Calls Tryz.prog 241 #[.int .i64 (n:Int)] w (bF (fun v _=>v=.string ⟨(ay n).toArray⟩) w):=by
 refine aH (hk:=J6) (n:=500) (args:=[.int .i64 (n:Int) false]) ⟨trivial,trivial⟩ ?_
 refine ah (t91 n w) ?_
 refine fm (Fine.start _ _) JG (α:=HX) (fun z=>[.int .i64 z.m false,.str z.s false,.bool z.ok false]) (fun z=>2*z.m+(if z.ok then 1 else 0)) (fun _ z _=>Iy n z)
  (fun w0 e lv w'=>e=.exit 0/\lv=[.string ⟨(ay n).toArray⟩]) (fun _=>au) 1000 (by simp) (by simp[JG]) (by simp[JG]) (fun _=>⟨trivial,trivial,trivial,trivial⟩) rfl rfl rfl
  (by simp) (by simp) (fun _=>⟨trivial,trivial⟩) (fun _=>trivial) ?_ ?_ ?_
 ·rintro w0 z w1 g hbw0 hI hb0 hbw
  refine ah (P2 z w1 g) (af (fun hz=>?_) (fun hz=>cy (Fine.nil hb0) (by simp) fun β w' _ _=>⟨rfl,?_⟩))
  ·have hm:=hI.1
   have hs:=hI.2.1
   rw[JO hm,ax (n:=((z.m%16:Nat):Int)) (by omega) (by omega),ax (by omega) (by omega),Nz]
   rw[show((z.m%16:Nat):Int).toNat=z.m%16 from rfl,show(((z.m%16:Nat):Int)+1).toNat=z.m%16+1 from rfl,Aa _ (Nat.mod_lt _ (by omega))]
   refine aa (by omega) (aa (by omega) (aa ?_ (dM (Fine.nil hb0) fun β w' _ _=>⟨_,?_,rfl,Fi hz hI⟩)))
   ·rw[be]
    have:(ByteArray.mk #[bR (z.m%16)]).size=1:=rfl
    rw[this]
    omega
   ·show 2*(z.m/16)+(if decide (((z.m/16:Nat):Int) > 0)=true then 1 else 0)<2*z.m+(if z.ok=true then 1 else 0)
    rw[if_pos hz]
    by_cases h0:z.m/16=0
    ·rw[h0];simp
    ·split <;> omega
  ·rcases hI.2.2 with⟨h,_⟩ |⟨_,h⟩
   ·rw[hz]at h;cases h
   ·simp only[ae,SV.den]
    rw[<- h]
 ·intro β w0 hst hb
  refine⟨⟨n,⟨#[]⟩,true⟩,rfl,?_,?_,.inl ⟨rfl,by simp⟩⟩
  ·show n<2^62;omega
  ·show(⟨#[]⟩:ByteArray).size<=n+1
   simp[ByteArray.size]
 ·rintro β w0 hst hb e lv w' ⟨rfl,rfl⟩ hb0 hb1
  exact .inl ⟨⟨(ay n).toArray⟩,rfl,rfl,fun g bs hbs=>aN (Fine.mk' hb1 hbs) fun β w' _ _=>rfl⟩
end
section
open Go Go.Rx Go.RowKit
def J3:Hooks:={ calls:=fun f=>if f=240 then some bl else none,loops:=fun _ _=>none }
theorem t72(A:Option Addr)(n c:Nat)(w:World):am Tryz.prog J3 500 206 [.xs A n c] (SS.mk [] [] true w []) =
 (.split ((↑n:Int) == (4:Int))
  (.leaf .ret [(.xs A n c)] (SS.mk [] [] true w []))
  (.split ((↑n:Int) == (16:Int))
  (.need ((0:Int)<=(10:Int)/\(10:Int)<=(↑c:Int))
  (.hc 240 [(.xs (if c=(0:Nat) then A else Option.map (fun x=>x.add (0:Nat)) A) 10 (c-(0:Nat)))] (SS.mk [] [] true w []) (bl) fun x0 w0 b0=>
  (.split x0
   (.need ((0:Int)<=(10:Int)/\(10:Int)<(↑n:Int))
   (.need (A.isSome=true)
   (.need (canRead w0 b0 ((A.getD default).add (10:Nat)) [SV.int u8 (ai w0 (((A.getD default).add (10:Nat)).add (0:Nat))) false])
   (.split (ai w0 (((A.getD default).add (10:Nat)).add (0:Nat)) == (255:Int))
   (.need ((0:Int)<=(11:Int)/\(11:Int)<(↑n:Int))
   (.need (A.isSome=true)
   (.need (canRead w0 b0 ((A.getD default).add (11:Nat)) [SV.int u8 (ai w0 (((A.getD default).add (11:Nat)).add (0:Nat))) false])
   (.split (ai w0 (((A.getD default).add (11:Nat)).add (0:Nat)) == (255:Int))
    (.need ((0:Int)<=(16:Int)/\(16:Int)<=(↑c:Int))
    (.leaf .ret [(.xs (if c=(12:Nat) then A else Option.map (fun x=>x.add (12:Nat)) A) 4 (c-(12:Nat)))] (SS.mk [] [] true w0 b0)))
    (.leaf .ret [(.one (.slice none 0 0) rfl)] (SS.mk [] [] true w0 b0))))))
   (.leaf .ret [(.one (.slice none 0 0) rfl)] (SS.mk [] [] true w0 b0))))))
   (.leaf .ret [(.one (.slice none 0 0) rfl)] (SS.mk [] [] true w0 b0)))))
  (.leaf .ret [(.one (.slice none 0 0) rfl)] (SS.mk [] [] true w [])))):=by kernel_rfl
theorem t46(a:Addr)(w:World):am Tryz.prog au 500 44 [.xp a] (SS.mk [] [] true w []) =
 (.need (canRead w [] (a.add (0:Nat)) [SV.str (bo w ((a.add (0:Nat)).add (0:Nat))) false])
 (.need (canRead w [] (a.add (2:Nat)) [SV.int i64 (ai w ((a.add (2:Nat)).add (0:Nat))) false])
 (.need ((0:Int)<=ai w ((a.add (2:Nat)).add (0:Nat))/\ai w ((a.add (2:Nat)).add (0:Nat))<=(↑(bo w ((a.add (0:Nat)).add (0:Nat))).size:Int))
 (.choose (.appendCap (((bo w ((a.add (0:Nat)).add (0:Nat))).extract (ai w ((a.add (2:Nat)).add (0:Nat))).toNat (bo w ((a.add (0:Nat)).add (0:Nat))).size).size) 0 5) fun c0=>
 (.leaf .ret [(.slc 0 0 (((bo w ((a.add (0:Nat)).add (0:Nat))).extract (ai w ((a.add (2:Nat)).add (0:Nat))).toNat (bo w ((a.add (0:Nat)).add (0:Nat))).size).size) c0 false false)] (SS.mk [(.ints .u8 (List.map (fun b=>(↑b.toNat:Int)) (#[].extract (0:Nat) (0:Nat)++(bo w ((a.add (0:Nat)).add (0:Nat))).data.extract (ai w ((a.add (2:Nat)).add (0:Nat))).toNat ((ai w ((a.add (2:Nat)).add (0:Nat))).toNat+((bo w ((a.add (0:Nat)).add (0:Nat))).size-(ai w ((a.add (2:Nat)).add (0:Nat))).toNat))++#[].extract ((0:Nat)+min ((bo w ((a.add (0:Nat)).add (0:Nat))).size-(ai w ((a.add (2:Nat)).add (0:Nat))).toNat) ((bo w ((a.add (0:Nat)).add (0:Nat))).data.size-(ai w ((a.add (2:Nat)).add (0:Nat))).toNat)) (0:Nat)).toList++List.replicate (c0-((bo w ((a.add (0:Nat)).add (0:Nat))).extract (ai w ((a.add (2:Nat)).add (0:Nat))).toNat (bo w ((a.add (0:Nat)).add (0:Nat))).size).size) (0:Int)) 5 c0 (c0+(1:Nat)))] [] true w [])))))):=by kernel_rfl
end
section
open Go Go.Rx Go.RowKit
def L7:SE->List Nat
 | .normal=>[0,5,6,7]
 | .ret=>[2]
 |_=>[0]
def Ky(A:Option Addr)(n c:Nat):LoopHook:=bK 36 Unit .ret [2] (fun _=>[.bool false true]) Unit (.exit 0) [0] (fun _=>[.xs A n c])
def Oe(A:Option Addr)(n c:Nat):Hooks:={ calls:=fun f=>none,loops:=fun f k=>some (Ky A n c) }
def J4:Hooks:={ calls:=fun f=>if f=13 then some bl else none,loops:=fun f k=>none }
noncomputable abbrev AW(A:Option Addr)(n c:Nat):List SV:=([(.xs A n c),(.tup []),(.bool false true),(.tup []),(.tup []),(.xs A n c),(.int .i64 ((↑n:Int)) false),(.int .i64 0 true)]++List.replicate 28 aA)
theorem Ou(A:Option Addr)(n c:Nat)(w:World):am Tryz.prog (Oe A n c) 1000 22 [.xs A n c] (SS.at w) =
(.loop 22 (ar Tryz.prog 22 3) (AW A n c) (SS.mk [] [] true w []) (LoopHook.X (Ky A n c)) (LoopHook.out (Ky A n c) (AW A n c) (SS.mk [] [] true w [])) (fun x0 w0 b0=>(.leaf .ret [(.bool false true)] (SS.mk [] [] true w0 b0))) (LoopHook.Y (Ky A n c)) (LoopHook.out' (Ky A n c) (AW A n c) (SS.mk [] [] true w [])) (fun x0 w0 b0=>(.split (decide ((↑n:Int) ≥ (1:Int))) (.leaf .ret [(.bool (decide ((↑n:Int)<=(12:Int))) false)] (SS.mk [] [] true w0 b0)) (.leaf .ret [(.bool false true)] (SS.mk [] [] true w0 b0))))):=by kernel_rfl
theorem t7(A:Option Addr)(n c:Nat)(w:World):(by have h:=Ou A n c w;unfold AW at h;exact type_of% h):=Ou A n c w
noncomputable abbrev sF(w:World)(A:Option Addr)(i:Nat):List SV:=[(.int .i64 (ai w (((A.getD default).add ((↑i:Int).toNat*2)).add 0)) false),(.xs (kD w (((A.getD default).add ((↑i:Int).toNat*2)).add 1)) (iO w (((A.getD default).add ((↑i:Int).toNat*2)).add 1)) (m8 w (((A.getD default).add ((↑i:Int).toNat*2)).add 1)))]
noncomputable abbrev EM(A:Option Addr)(n c i:Nat)(w w0:World)(b0:List Nat):T:=(.leaf .normal [(.xs A n c),(.xs A n c),(.int .i64 ((↑n:Int)) false),(.int .i64 (i64.wrap ((↑i:Int)+(1:Int))) false)] (SS.mk [(.cells (sF w A i) 2 31 0 0)] [] true w0 b0))
theorem Om(A:Option Addr)(n c i:Nat)(w:World)(g:Nat->Value):aK Tryz.prog J4 1000 22 (ar Tryz.prog 22 3) (az ((L7 .normal).zip [.xs A n c,.xs A n c,.int .i64 n false,.int .i64 i false]) g 36 0) (fun e a s=>.leaf e (ep L7 e a) s) (SS.at w) =
(.split (decide ((↑i:Int)<(↑n:Int))) (.need ((0:Int)<=(↑i:Int)/\(↑i:Int)<(↑n:Int)) (.need (A.isSome=true) (.need (canRead w [] ((A.getD default).add ((↑i:Int).toNat*2)) [SV.int i64 (ai w (((A.getD default).add ((↑i:Int).toNat*2)).add 0)) false,SV.xs (kD w (((A.getD default).add ((↑i:Int).toNat*2)).add 1)) (iO w (((A.getD default).add ((↑i:Int).toNat*2)).add 1)) (m8 w (((A.getD default).add ((↑i:Int).toNat*2)).add 1))]) (.hc 13 [(.agg (sF w A i))] (SS.mk [(.cells (sF w A i) 2 31 0 0)] [] true w []) (bl) fun x0 w0 b0=>(.split (!x0) (.leaf .ret [(.bool false true)] (SS.mk [(.cells (sF w A i) 2 31 0 0)] [] true w0 b0)) (.split (ai w (((A.getD default).add ((↑i:Int).toNat*2)).add 0) == (400:Int)) (.split (decide ((↑i:Int)<i64.wrap ((↑n:Int)-(1:Int)))) (.leaf .ret [(.bool false true)] (SS.mk [(.cells (sF w A i) 2 31 0 0)] [] true w0 b0)) (EM A n c i w w0 b0)) (EM A n c i w w0 b0))))))) (.leaf (.exit 0) [(.xs A n c)] (SS.mk [] [] true w []))):=by kernel_rfl
theorem r7(A:Option Addr)(n c i:Nat)(w:World)(g:Nat->Value):(by have h:=Om A n c i w g;unfold EM sF at h;exact type_of% h):=Om A n c i w g
def f7(R:Bool->Prop)(v:Value)(_:World):Prop:=∃b,v=.bool b/\R b
theorem ed{Q:SE->List Value->World->Prop}{s:SS}{w:World}{f:FuncId}{args:List SV}{a0:List SV}{s0:SS}{k:Bool->World->List Nat->T}(R:Bool->Prop)(hf:Fine w s)(hs0:s0.objs=s.objs)
  (hc:∀β w0,Below w.heap.size w w0->St (cS Tryz.prog Q) β s w0->Old β s w0->Calls Tryz.prog f (ae β args).toArray w0 (bF (f7 R) w0))
  (hk:∀b w' bs,R b->Below w.heap.size w w'->(∀b∈bs,w.heap.size<=b)->(k b w' bs).holds (cS Tryz.prog Q)) :
  (T.call f args s (Hook.X bl) (Hook.out bl a0 s0) k).holds (cS Tryz.prog Q):=by
 refine eK (Γ:=cS Tryz.prog Q) (R:=fun x _ _=>R x) hf (fun x=>⟨hs0,trivial⟩) (fun β w0 hst ho hb=>?_) (fun x w0 w' bs _ hr _ hb hbs=>hk x w' bs hr hb hbs)
 refine(hc β w0 hb hst ho).mono ?_
 rintro e w' ⟨v,rfl,⟨b,rfl,hr⟩,hb'⟩
 exact⟨b,rfl,hb',hr⟩
end
section
open Go Go.Rx Go.RowKit
def JF:SE->List Nat
 | .normal=>[0,3]
 | .ret=>[2]
 |_=>[]
def Dc:LoopHook:=bK 15 Unit .ret [2] (fun _=>[.bool false true]) Unit (.exit 0) [] (fun _=>[])
def J5:Hooks:={ calls:=fun _=>none,loops:=fun _ _=>some Dc }
theorem Ql(A:Option Addr)(n c:Nat)(w:World):am Tryz.prog J5 500 240 [.xs A n c] (SS.mk [] [] true w []) =
 (.loop 240 (ar Tryz.prog 240 3) ([(.xs A n c),(.tup []),(.bool false true),(.int .i64 0 true)]++List.replicate 11 aA) (SS.mk [] [] true w []) (LoopHook.X (Dc)) (LoopHook.out (Dc) ([(.xs A n c),(.tup []),(.bool false true),(.int .i64 0 true)]++List.replicate 11 aA) (SS.mk [] [] true w [])) (fun x0 w0 b0=>
  (.leaf .ret [(.bool false true)] (SS.mk [] [] true w0 b0)))
 (LoopHook.Y (Dc)) (LoopHook.out' (Dc) ([(.xs A n c),(.tup []),(.bool false true),(.int .i64 0 true)]++List.replicate 11 aA) (SS.mk [] [] true w [])) (fun x0 w0 b0=>
  (.leaf .ret [(.bool true true)] (SS.mk [] [] true w0 b0)))):=by kernel_rfl
theorem P1(A:Option Addr)(n c i:Nat)(w:World)(g:Nat->Value):aK Tryz.prog au 1000 240 (ar Tryz.prog 240 3) (az ((JF .normal).zip [.xs A n c,.int .i64 i false]) g 15 0) (fun e a s=>.leaf e (ep JF e a) s) (SS.mk [] [] true w []) =
 (.split (decide ((↑i:Int)<(↑n:Int)))
  (.need ((0:Int)<=(↑i:Int)/\(↑i:Int)<(↑n:Int))
  (.need (A.isSome=true)
  (.need (canRead w [] ((A.getD default).add ((↑i:Int).toNat*(1:Nat))) [SV.int u8 (ai w (((A.getD default).add ((↑i:Int).toNat*(1:Nat))).add (0:Nat))) false])
  (.split (ai w (((A.getD default).add ((↑i:Int).toNat*(1:Nat))).add (0:Nat)) != (0:Int))
  (.leaf .ret [(.bool false true)] (SS.mk [] [] true w []))
  (.leaf .normal [(.xs A n c),(.int .i64 (i64.wrap ((↑i:Int)+(1:Int))) false)] (SS.mk [] [] true w []))))))
  (.leaf (.exit 0) [] (SS.mk [] [] true w []))):=by kernel_rfl
theorem Ia{Q:SE->List Value->World->Prop}{w:World}{f:FuncId}{args:List SV}{out:Bool->SV×List SObj}{k:Bool->World->List Nat->T}(R:Bool->Prop)(hout:∀b,out b=(.bool b false,[]))
  (hc:∀β wc,Below w.heap.size w wc->Calls Tryz.prog f (ae β args).toArray wc (bF (f7 R) wc))
  (hk:∀b w',Below w.heap.size w w'->R b->(k b w' []).holds (cS Tryz.prog Q)):(T.call f args (SS.mk [] [] true w []) Bool out k).holds (cS Tryz.prog Q):=by
 refine gL (R:=fun b _ _=>R b) (fun b=>by rw[hout];exact⟨rfl,trivial⟩) (fun β wc hb=>?_) (fun b wc w' h1 hr h2=>hk b w' (h1.trans (h2.mono h1.size)) hr)
 refine(hc β wc hb).mono ?_
 rintro e w' ⟨v,rfl,⟨b,rfl,hr⟩,hb'⟩
 exact⟨b,by rw[hout];rfl,hb',hr⟩
def AD:List UInt8:=[0,0,0,0,0,0,0,0,0,0,255,255]
def ct(l:List UInt8):Prop:=l.take 12=AD
instance (l:List UInt8):Decidable (ct l):=inferInstanceAs (Decidable (l.take 12=AD))
theorem Bu(A:Option Addr)(n c:Nat)(l:List UInt8)(B:Nat)(w:World)(h:Bts w B A n l)(hB:B<=w.heap.size)(hn:(n:Int)<2^62) :
  Calls Tryz.prog 240 #[.slice A n c] w (bF (f7 fun b=>b=true ↔ ∀x∈l,x=0) w):=by
 have hl:=h.1
 refine aH (hk:=J5) (n:=500) (args:=[.xs A n c]) ⟨trivial,trivial⟩ ?_
 refine ah (Ql A n c w) ?_
 refine fm (Fine.start _ _) JF (α:=Nat) (fun i=>[.xs A n c,.int .i64 i false]) (fun i=>n-i) (fun _ i _=>i<=n/\∀x∈l.take i,x=0)
  (fun w0 e lv w'=>(e=.ret/\lv=[.bool false]/\¬ ∀x∈l,x=0)∨(e=.exit 0/\lv=[]/\∀x∈l,x=0)) (fun _=>au) 1000 (by simp) (by simp[JF]) (by simp[JF]) (fun _=>⟨trivial,trivial,trivial⟩) rfl rfl rfl
  (by simp) (by simp) (fun _=>⟨trivial,trivial⟩) (fun _=>trivial) ?_ ?_ ?_
 ·rintro w0 i w1 g hbw0 ⟨hi,hall⟩ hb0 hbw
  refine ah (P1 A n c i w1 g) (ak (fun hlt=>?_) (fun hge=>cy (Fine.nil hb0) (by simp) fun β w' _ _=>.inr ⟨rfl,rfl,by rw[List.take_of_length_le (by omega)]at hall;exact hall⟩))
  have hlt':i<n:=by omega
  have hB1:B<=w1.heap.size:=Nat.le_trans hB hbw.size
  obtain⟨ad,x,rfl,had,hx,hR⟩:=(h.below (hbw.mono hB) (Nat.le_refl _)).get hlt'
  have f1:ai w1 ((((some ad).getD default).add ((i:Int).toNat*1)).add 0)=(x.toNat:Int):=by
   have:w1.cell? ((((some ad).getD default).add ((i:Int).toNat*1)).add 0)=some (.int .u8 (x.toNat:Int)):=hR
   simp only[ai,this]
  rw[f1]
  refine aa (by omega) (aa rfl (aa (cX (by show(ad.add (i*1)).block<_;rw[aD];omega) (by simp) hR) (af (fun hne=>cy (Fine.nil hb0) (by simp) fun β w' _ _=>.inl ⟨rfl,rfl,fun hz=>?_⟩) (fun heq=>dM (Fine.nil hb0) fun β w' _ _=>⟨i+1,by omega,?_,by omega,fun y hy=>?_⟩))))
  ·have:=hz x (List.mem_of_getElem? hx)
   subst this
   simp at hne
  ·rw[gz hlt' (by omega)];rfl
  ·rw[List.take_add_one,hx]at hy
   rcases List.mem_append.1 hy with hy |hy
   ·exact hall y hy
   ·simp at hy
    subst hy
    have h1:(y.toNat:Int)=0:=by simpa using heq
    apply UInt8.toNat_inj.1
    simpa using h1
 ·intro β w0 hst hb
  exact⟨0,rfl,Nat.zero_le _,by simp⟩
 ·rintro β w0 hst hb e lv w' (⟨rfl,rfl,hne⟩ |⟨rfl,rfl,hall⟩) hb0 hb1
  ·exact .inl ⟨(),rfl,rfl,fun g bs hbs=>aN (Fine.mk' hb1 hbs) fun β w' _ _=>⟨_,rfl,⟨fun h=>Bool.noConfusion h,fun h=>absurd h hne⟩⟩⟩
  ·exact .inr ⟨(),rfl,rfl,fun g bs hbs=>aN (Fine.mk' hb1 hbs) fun β w' _ _=>⟨_,rfl,⟨fun _=>hall,fun _=>rfl⟩⟩⟩
theorem Cq{w:World}{B:Nat}{A:Option Addr}{n k:Nat}{l:List UInt8}(h:Bts w B A n l)(hk:k<=n):Bts w B A k (l.take k):=by
 have hl:=h.1
 refine⟨by simp;omega,fun hk0=>?_⟩
 obtain⟨a,ha,hb,hx⟩:=h.2 (by omega)
 refine⟨a,ha,hb,fun i x hi=>hx i x ?_⟩
 rw[List.getElem?_take]at hi
 split at hi
 ·exact hi
 ·cases hi
theorem lK{w:World}{B:Nat}{a:Addr}{n k:Nat}{l:List UInt8}(h:Bts w B (some a) n l)(hk:k<=n):Bts w B (some (a.add k)) (n-k) (l.drop k):=by
 have hl:=h.1
 refine⟨by simp;omega,fun hk0=>?_⟩
 obtain⟨a',ha,hb,hx⟩:=h.2 (by omega)
 cases ha
 refine⟨_,rfl,by rw[aD];exact hb,fun i x hi=>?_⟩
 rw[List.getElem?_drop]at hi
 have:=hx (k+i) x hi
 rw[Rx.add_add,Nat.mul_one]
 simpa using this
theorem yD{l:List UInt8}(hl:l.length=16):ct l ↔ (∀x∈l.take 10,x=0)/\l[10]?=some 255/\l[11]?=some 255:=by
 match l,hl with
 |[a0,a1,a2,a3,a4,a5,a6,a7,a8,a9,a10,a11,a12,a13,a14,a15],_=>simp[ct,AD,and_assoc]
theorem tR(A:Option Addr)(n c:Nat)(l:List UInt8)(B:Nat)(w:World)(h:Bts w B A n l)(hc:n<=c)(hB:B<=w.heap.size) :
  Calls Tryz.prog 206 #[.slice A n c] w (bF (fun v _=>(n=4/\v=.slice A 4 c)∨(n=16/\ct l/\∃a,A=some a/\v=.slice (some (a.add 12)) 4 (c-12))∨(n≠4/\(n=16->¬ct l)/\v=.slice none 0 0)) w):=by
 refine aH (hk:=J3) (n:=500) (args:=[.xs A n c]) ⟨trivial,trivial⟩ ?_
 refine ah (t72 A n c w) (af (fun h4=>?_) (fun h4=>af (fun h16=>?_) (fun h16=>?_)))
 ·have hn:n=4:=by have:=eq_of_beq h4;omega
  subst hn
  exact aN (Fine.start _ _) fun β w' _ _=>.inl ⟨rfl,rfl⟩
 ·have hn:n=16:=by have:=eq_of_beq h16;omega
  subst hn
  have hl:l.length=16:=h.1.symm
  obtain⟨ad,_,rfl,had,_,_⟩:=h.get (i:=0) (by omega)
  rw[if_neg (by omega:¬c=0),if_neg (by omega:¬c=12)]
  refine aa (by omega) ?_
  have h0:Bts w B (some (ad.add 0)) 10 (l.take 10):=Cq h (by omega)
  refine Ia (fun b=>b=true ↔ ∀x∈l.take 10,x=0) (fun _=>rfl) (fun β wc hb=>Bu _ 10 (c-0) (l.take 10) B wc (h0.below (hb.mono hB) (Nat.le_refl _)) (Nat.le_trans hB hb.size) (by omega)) (fun b w1 hw1 hb=>?_)
  have h1:=h.below (hw1.mono hB) (Nat.le_refl _)
  have hB1:=Nat.le_trans hB hw1.size
  have nope:∀lit,¬ct l->(T.leaf .ret [(.one (.slice none 0 0) lit)] (SS.mk [] [] true w1 [])).holds (cS Tryz.prog (bC fun v w'=>((16=4/\v=.slice (some ad) 4 c)∨(16=16/\ct l/\∃a,some ad=some a/\v=.slice (some (a.add 12)) 4 (c-12))∨(16≠4/\(16=16->¬ct l)/\v=.slice none 0 0))/\Below w.heap.size w w')):=fun lit hm=>aN (Fine.nil hw1) fun β w' _ _=>.inr (.inr ⟨by omega,fun _=>hm,rfl⟩)
  obtain⟨_,x10,ha10,_,hx10,hR10⟩:=h1.get (i:=10) (by omega)
  obtain⟨_,x11,ha11,_,hx11,hR11⟩:=h1.get (i:=11) (by omega)
  cases ha10
  cases ha11
  rw[Nat.mul_one]at hR10 hR11
  have f10:ai w1 ((((some ad:Option Addr).getD default).add 10).add 0)=(x10.toNat:Int):=by
   have:w1.cell? ((ad.add 10).add 0)=some (.int .u8 (x10.toNat:Int)):=hR10
   show ai w1 ((ad.add 10).add 0)=_
   simp only[ai,this]
  have f11:ai w1 ((((some ad:Option Addr).getD default).add 11).add 0)=(x11.toNat:Int):=by
   have:w1.cell? ((ad.add 11).add 0)=some (.int .u8 (x11.toNat:Int)):=hR11
   show ai w1 ((ad.add 11).add 0)=_
   simp only[ai,this]
  have g10:canRead w1 [] (((some ad:Option Addr).getD default).add 10) [SV.int .u8 (x10.toNat:Int) false]:=cX (by show(ad.add 10).block<_;rw[aD];omega) (by simp) hR10
  have g11:canRead w1 [] (((some ad:Option Addr).getD default).add 11) [SV.int .u8 (x11.toNat:Int) false]:=cX (by show(ad.add 11).block<_;rw[aD];omega) (by simp) hR11
  rw[f10,f11]
  have hm:=yD hl
  rw[hx10,hx11]at hm
  have u255:∀x:UInt8,((x.toNat:Int) == 255)=true ↔ x=255:=fun x=>by
   rw[beq_iff_eq]
   constructor
   ·intro h
    apply UInt8.toNat_inj.1
    have:x.toNat=255:=by omega
    rw[this];rfl
   ·rintro rfl;rfl
  refine af (fun hbt=>?_) (fun hbf=>nope _ fun h=>?_)
  rotate_left
  ·rw[hb.2 (hm.1 h).1]at hbf
   cases hbf
  refine aa (by omega) (aa rfl (aa g10 (af (fun e10=>aa (by omega) (aa rfl (aa g11 (af (fun e11=>aa (by omega) ?_) (fun n11=>nope _ fun h=>?_))))) (fun n10=>nope _ fun h=>?_))))
  ·refine aN (Fine.nil hw1) fun β w' _ _=>.inr (.inl ⟨rfl,hm.2 ⟨hb.1 hbt,?_,?_⟩,ad,rfl,rfl⟩)
   ·rw[(u255 _).1 e10]
   ·rw[(u255 _).1 e11]
  ·have h2:=(hm.1 h).2.2
   simp only[Option.some.injEq]at h2
   rw[(u255 _).2 h2]at n11
   cases n11
  ·have h2:=(hm.1 h).2.1
   simp only[Option.some.injEq]at h2
   rw[(u255 _).2 h2]at n10
   cases n10
 ·exact aN (Fine.start _ _) fun β w' _ _=>.inr (.inr ⟨by have:=beq_eq_false_iff_ne.1 h4;omega,fun he=>absurd he (by have:=beq_eq_false_iff_ne.1 h16;omega),rfl⟩)
end
section
open Go Go.Rx Go.RowKit
theorem bj(n:Nat):(cP n).length<=3:=by
 unfold cP
 split
 ·simp
 ·split <;> simp
def aF(a b c d:UInt8):List UInt8:=cP a.toNat++[46]++cP b.toNat++[46]++cP c.toNat++[46]++cP d.toNat
theorem dg(a b:List UInt8):((⟨a.toArray⟩:ByteArray)++⟨b.toArray⟩)=⟨(a++b).toArray⟩:=by
 apply ByteArray.ext
 rw[ByteArray.data_append]
 simp
theorem aB(a:List UInt8):(⟨a.toArray⟩:ByteArray).size=a.length:=by simp[ByteArray.size]
theorem lX{Q:SE->List Value->World->Prop}{s:SS}{w:World}{x:UInt8}{z:Int}{lit:Bool}{k:ByteArray->World->List Nat->T}(hf:Fine w s)(ht:Tens w)(hz:z=(x.toNat:Int))
  (hk:∀w' bs,Below w.heap.size w w'->(∀b∈bs,w.heap.size<=b)->(k ⟨(cP x.toNat).toArray⟩ w' bs).holds (cS Tryz.prog Q)) :
  (T.call 215 [.int .i64 (i64.wrap z) lit] s ByteArray (fun y=>(.str y false,s.objs)) k).holds (cS Tryz.prog Q):=by
 subst hz
 have hx:=x.toNat_lt
 rw[ax (by omega) (by omega)]
 refine eK (Γ:=cS Tryz.prog Q) (R:=fun y _ _=>y=⟨(cP x.toNat).toArray⟩) hf (fun y=>⟨rfl,trivial⟩) (fun β w0 hst ho hb=>?_) (fun y w0 w' bs _ hr _ hb hbs=>by subst hr;exact hk w' bs hb hbs)
 refine(CP x.toNat (by omega) w0 (ht.below hb ht.lt)).mono ?_
 rintro e w' ⟨v,rfl,rfl,hb'⟩
 exact⟨_,rfl,hb',rfl⟩
theorem i7{w w1:World}{bs:List Nat}{a:Addr}{n B j:Nat}{l:List UInt8}{x:UInt8}(h:Bts w B (some a) n l)(hB:B<=w.heap.size)(hw:Below w.heap.size w w1)(hbs:∀b∈bs,w.heap.size<=b)(hx:l[j]?=some x) :
  canRead w1 bs (a.add j) [SV.int u8 (ai w1 ((a.add j).add 0)) false]/\ai w1 ((a.add j).add 0)=(x.toNat:Int):=by
 have hl:=h.1
 have hj:j<n:=by
  have:=(List.getElem?_eq_some_iff.1 hx).1
  omega
 obtain⟨a',x',ha,hb,hx',hR⟩:=(h.below (hw.mono hB) (Nat.le_refl _)).get hj
 cases ha
 rw[hx]at hx'
 cases hx'
 rw[Nat.mul_one]at hR
 have e:ai w1 ((a.add j).add 0)=(x.toNat:Int):=by
  have:w1.cell? ((a.add j).add 0)=some (.int .u8 (x.toNat:Int)):=hR
  simp only[ai,this]
 refine⟨?_,e⟩
 rw[e]
 refine cX (by rw[aD];exact Nat.lt_of_lt_of_le hb (Nat.le_trans hB hw.size)) (fun hm=>?_) hR
 rw[aD]at hm
 have:=hbs _ hm
 omega
theorem rY(A:Option Addr)(n c:Nat)(l:List UInt8)(p0 p1 p2 p3:UInt8)(B:Nat)(w:World)(h:Bts w B A n l)(hc:n<=c)(hB:B<=w.heap.size)(ht:Tens w)(hcase:(n=4/\l=[p0,p1,p2,p3])∨(n=16/\ct l/\l.drop 12=[p0,p1,p2,p3])) :
  Calls Tryz.prog 207 #[.slice A n c] w (bF (fun v _=>v=.string ⟨(aF p0 p1 p2 p3).toArray⟩) w):=by
 refine aH (hk:=IA ⟨A,n,c⟩) (n:=500) (args:=[.xs A n c]) ⟨trivial,trivial⟩ ?_
 refine ah (Ot ⟨A,n,c⟩ w) ?_
 have hcall:∀β wc,Below w.heap.size w wc->Calls Tryz.prog 206 (ae β [.xs A n c]).toArray wc fun e w'=>∃x:UV,e=.returned (SV.den β (.xs x.A x.k x.c))/\Below wc.heap.size wc w'/\(∃a,x.A=some a/\x.k=4/\Bts w B (some a) 4 [p0,p1,p2,p3]):=fun β wc hb=>by
  refine(tR A n c l B wc (h.below (hb.mono hB) (Nat.le_refl _)) hc (Nat.le_trans hB hb.size)).mono ?_
  rintro e w' ⟨v,rfl,hv,hb'⟩
  rcases hcase with⟨rfl,rfl⟩ |⟨rfl,hm,hd⟩
  ·obtain⟨a,_,rfl,_⟩:=h.get (i:=0) (by omega)
   rcases hv with⟨_,rfl⟩ |⟨h1,_⟩ |⟨h1,_⟩
   ·exact⟨⟨some a,4,c⟩,rfl,hb',a,rfl,rfl,h⟩
   ·omega
   ·omega
  ·rcases hv with⟨h1,_⟩ |⟨_,_,a,rfl,rfl⟩ |⟨_,h2,_⟩
   ·omega
   ·have:=lK h (k:=12) (by omega)
    rw[hd]at this
    exact⟨⟨some (a.add 12),4,c-12⟩,rfl,hb',_,rfl,rfl,this⟩
   ·exact absurd hm (h2 rfl)
 have hn416:n=4∨n=16:=by rcases hcase with⟨h,_⟩ |⟨h,_⟩ <;> omega
 have l0:=bj p0.toNat
 have l1:=bj p1.toNat
 have l2:=bj p2.toNat
 have l3:=bj p3.toNat
 refine af (fun h0=>by have:=eq_of_beq h0;dsimp only at this;omega) (fun _=>af (fun h4=>af (fun h16=>by rcases hn416 with rfl |rfl <;> simp at h4 h16) (fun _=>?_)) (fun _=>?_))
 all_goals
  refine eK (R:=fun(x:UV) _ _=>∃a,x.A=some a/\x.k=4/\Bts w B (some a) 4 [p0,p1,p2,p3]) (Fine.start w _) (fun x=>⟨rfl,trivial⟩) (fun β wc hst o hb=>hcall β wc hb) ?_
  rintro⟨A4,k4,c4⟩ wc w0 b0 hwc ⟨a,ha,hk4,h4⟩ hb1 hw0 hbs0
  dsimp only at ha hk4
  subst ha hk4
  have G0:=fun{w1:World}{bs:List Nat}(hw:Below w.heap.size w w1) (hbs:∀b∈bs,w.heap.size<=b)=>i7 (j:=0) h4 hB hw hbs rfl
  have G1:=fun{w1:World}{bs:List Nat}(hw:Below w.heap.size w w1) (hbs:∀b∈bs,w.heap.size<=b)=>i7 (j:=1) h4 hB hw hbs rfl
  have G2:=fun{w1:World}{bs:List Nat}(hw:Below w.heap.size w w1) (hbs:∀b∈bs,w.heap.size<=b)=>i7 (j:=2) h4 hB hw hbs rfl
  have G3:=fun{w1:World}{bs:List Nat}(hw:Below w.heap.size w w1) (hbs:∀b∈bs,w.heap.size<=b)=>i7 (j:=3) h4 hB hw hbs rfl
  refine af (fun _=>?_) (fun h=>by simp at h)
  refine aa (by dsimp only;omega) (aa rfl (aa (G0 hw0 hbs0).1 (aa (by dsimp only;omega) (aa rfl (aa (G1 hw0 hbs0).1 ?_)))))
  refine aa (by dsimp only;omega) (aa rfl (aa (G2 hw0 hbs0).1 (aa (by dsimp only;omega) (aa rfl (aa (G3 hw0 hbs0).1 ?_)))))
  refine lX (Fine.mk' hw0 hbs0) ht (G0 hw0 hbs0).2 fun w1 b1 hw1 hbs1=>?_
  refine aa (G3 hw1 hbs1).1 (aa ((G3 hw1 hbs1).2.trans (G3 hw0 hbs0).2.symm) ?_)
  refine aa (G2 hw1 hbs1).1 (aa ((G2 hw1 hbs1).2.trans (G2 hw0 hbs0).2.symm) ?_)
  refine aa (G1 hw1 hbs1).1 (aa ((G1 hw1 hbs1).2.trans (G1 hw0 hbs0).2.symm) ?_)
  refine aa (by rw[aB,be];omega) ?_
  refine lX (Fine.mk' hw1 hbs1) ht (G1 hw0 hbs0).2 fun w2 b2 hw2 hbs2=>?_
  refine aa (G3 hw2 hbs2).1 (aa ((G3 hw2 hbs2).2.trans (G3 hw0 hbs0).2.symm) ?_)
  refine aa (G2 hw2 hbs2).1 (aa ((G2 hw2 hbs2).2.trans (G2 hw0 hbs0).2.symm) ?_)
  refine aa (by simp only[dg,aB,List.length_append,List.length_cons,List.length_nil,be];omega) ?_
  refine aa (by simp only[dg,aB,List.length_append,List.length_cons,List.length_nil,be];omega) ?_
  refine lX (Fine.mk' hw2 hbs2) ht (G2 hw0 hbs0).2 fun w3 b3 hw3 hbs3=>?_
  refine aa (G3 hw3 hbs3).1 (aa ((G3 hw3 hbs3).2.trans (G3 hw0 hbs0).2.symm) ?_)
  refine aa (by simp only[dg,aB,List.length_append,List.length_cons,List.length_nil,be];omega) ?_
  refine aa (by simp only[dg,aB,List.length_append,List.length_cons,List.length_nil,be];omega) ?_
  refine lX (Fine.mk' hw3 hbs3) ht (G3 hw0 hbs0).2 fun w4 b4 hw4 hbs4=>?_
  refine aa (by simp only[dg,aB,List.length_append,List.length_cons,List.length_nil,be];omega) ?_
  exact aN (Fine.mk' hw4 hbs4) fun β w' _ _=>by simp only[dg,aF];rfl
end
section
open Go Go.Rx Go.RowKit
def aO(l:List UInt8)(j:Nat):Nat:=(l.getD (2*j) 0).toNat*256+(l.getD (2*j+1) 0).toNat
theorem dh(l:List UInt8)(j:Nat):aO l j<65536:=by
 have h1:=(l.getD (2*j) 0).toNat_lt
 have h2:=(l.getD (2*j+1) 0).toNat_lt
 unfold aO
 omega
def Good(l:List UInt8)(f t:Nat):Prop:=(f=255/\t=255)∨(f+2<=t/\t<=8/\∀j,f<=j->j<t->aO l j=0)
def jn:List Nat->List UInt8
 |[]=>[]
 |[g]=>ay g
 |g :: r=>ay g++[58]++jn r
theorem l6(a:List Nat)(g:Nat):jn (a++[g])=jn a++(if a=[] then[] else[58])++ay g:=by
 induction a with
 |nil=>simp[jn]
 |cons x r ih=>
  cases r with
  |nil=>simp[jn]
  |cons y r'=>
   have e1:jn (x :: y :: r'++[g])=ay x++[58]++jn (y :: r'++[g]):=by simp[jn]
   have e2:jn (x :: y :: r')=ay x++[58]++jn (y :: r'):=by simp[jn]
   rw[e1,e2,ih]
   simp
def kW(l:List UInt8)(a b:Nat):List Nat:=(List.range' a (b-a)).map (aO l)
theorem dj(l:List UInt8){a b:Nat}(h:a<=b):kW l a (b+1)=kW l a b++[aO l b]:=by
 have e:b+1-a=(b-a)+1:=by omega
 have e2:a+(b-a)=b:=by omega
 unfold kW
 rw[e,List.range'_1_concat,List.map_append,e2]
 rfl
theorem kb(l:List UInt8)(a:Nat):kW l a a=[]:=by simp[kW]
theorem qz(l:List UInt8){a b:Nat}(h:a<b):kW l a b≠[]:=by
 obtain⟨k,rfl⟩:∃k,b=k+1:=⟨b-1,by omega⟩
 rw[dj l (by omega)]
 simp
def gB(l:List UInt8)(f t:Nat):List UInt8:=if f=255 then jn (kW l 0 8) else jn (kW l 0 f)++[58,58]++jn (kW l t 8)
theorem KL{x y:Nat}(hx:x<256)(hy:y<256):i64.wrap (((BitVec.ofInt 64 (i64.wrap (i64.wrap (x:Int)*(2:Int)^8)) |||BitVec.ofInt 64 (i64.wrap (y:Int))).toNat:Nat):Int)=((x*256+y:Nat):Int):=by
 have e0:i64.wrap (x:Int)=x:=ax (by omega) (by omega)
 have e1:i64.wrap (y:Int)=y:=ax (by omega) (by omega)
 have e2:(x:Int)*(2:Int)^8=((x*256:Nat):Int):=by
  rw[Int.natCast_mul];rfl
 have e3:i64.wrap ((x*256:Nat):Int)=((x*256:Nat):Int):=ax (by omega) (by omega)
 rw[e0,e1,e2,e3,BitVec.toNat_or]
 have f1:∀m:Nat,m<2^62->(BitVec.ofInt 64 (m:Int)).toNat=m:=fun m hm=>by
  simp
  omega
 rw[f1 _ (by omega),f1 _ (by omega)]
 have e4:x*256 |||y=x*256+y:=by
  have:=Nat.shiftLeft_add_eq_or_of_lt (show y<2^8 by omega) x
  rw[Nat.shiftLeft_eq]at this
  exact this.symm
 rw[e4]
 exact ax (by omega) (by omega)
theorem mQ{w w1:World}{bs:List Nat}{A:Option Addr}{n B j:Nat}{l:List UInt8}(h:Bts w B A n l)(hB:B<=w.heap.size)(hw:Below w.heap.size w w1)(hbs:∀b∈bs,w.heap.size<=b){z:Int}(hz:z=(j:Int))(hj:j<n) :
  A.isSome=true/\canRead w1 bs ((A.getD default).add (z.toNat*1)) [SV.int u8 (ai w1 (((A.getD default).add (z.toNat*1)).add 0)) false]/\ai w1 (((A.getD default).add (z.toNat*1)).add 0)=((l.getD j 0).toNat:Int):=by
 subst hz
 obtain⟨a,x,rfl,hb,hx,hR⟩:=(h.below (hw.mono hB) (Nat.le_refl _)).get hj
 have e1:(((some a).getD default).add ((j:Int).toNat*1))=a.add j:=by simp
 rw[e1]
 have:=i7 h hB hw hbs hx
 have e2:l.getD j 0=x:=by rw[List.getD_eq_getElem?_getD,hx];rfl
 rw[e2]
 exact⟨rfl,this.1,this.2⟩
theorem lU{w w1:World}{bs:List Nat}{A:Option Addr}{B j:Nat}{l:List UInt8}(h:Bts w B A 16 l)(hB:B<=w.heap.size)(hw:Below w.heap.size w w1)(hbs:∀b∈bs,w.heap.size<=b)(hj:j<8) :
  (0<=i64.wrap ((2:Int)*(j:Int))/\i64.wrap ((2:Int)*(j:Int))<((16:Nat):Int))/\A.isSome=true /\
  canRead w1 bs ((A.getD default).add ((i64.wrap ((2:Int)*(j:Int))).toNat*1)) [SV.int u8 (ai w1 (((A.getD default).add ((i64.wrap ((2:Int)*(j:Int))).toNat*1)).add 0)) false] /\
  (0<=i64.wrap (i64.wrap ((2:Int)*(j:Int))+(1:Int))/\i64.wrap (i64.wrap ((2:Int)*(j:Int))+(1:Int))<((16:Nat):Int)) /\
  canRead w1 bs ((A.getD default).add ((i64.wrap (i64.wrap ((2:Int)*(j:Int))+(1:Int))).toNat*1)) [SV.int u8 (ai w1 (((A.getD default).add ((i64.wrap (i64.wrap ((2:Int)*(j:Int))+(1:Int))).toNat*1)).add 0)) false] /\
  i64.wrap (((BitVec.ofInt 64 (i64.wrap (i64.wrap (ai w1 (((A.getD default).add ((i64.wrap ((2:Int)*(j:Int))).toNat*1)).add 0))*(2:Int)^8)) |||
   BitVec.ofInt 64 (i64.wrap (ai w1 (((A.getD default).add ((i64.wrap (i64.wrap ((2:Int)*(j:Int))+(1:Int))).toNat*1)).add 0)))).toNat:Nat):Int)=((aO l j:Nat):Int):=by
 have e1:i64.wrap ((2:Int)*(j:Int))=((2*j:Nat):Int):=by rw[ax (by omega) (by omega)];omega
 have e2:i64.wrap (i64.wrap ((2:Int)*(j:Int))+(1:Int))=((2*j+1:Nat):Int):=by rw[e1,ax (by omega) (by omega)];omega
 obtain⟨a1,a2,a3⟩:=mQ h hB hw hbs e1 (by omega)
 obtain⟨b1,b2,b3⟩:=mQ h hB hw hbs e2 (by omega)
 refine⟨by omega,a1,a2,by omega,b2,?_⟩
 rw[a3,b3]
 exact KL (UInt8.toNat_lt _) (UInt8.toNat_lt _)
theorem tj{Q:SE->List Value->World->Prop}{s:SS}{w:World}{bs:List Nat}{n0:Nat}{β0:Nat->Nat}{g:Nat}{z:Int}{lit:Bool}{k:ByteArray->World->List Nat->T}(hf:KFine bs w s)(hz:z=(g:Int))(hg:g<65536)
  (hk:∀w' bs',Keep bs w w'->(∀b∈bs',b∈bs∨w.heap.size<=b)->(k ⟨(ay g).toArray⟩ w' bs').holds { P:=Tryz.prog,β0:=β0,n0:=n0,Q:=Q }) :
  (T.call 241 [.int .i64 z lit] s ByteArray (fun y=>(.str y false,s.objs)) k).holds { P:=Tryz.prog,β0:=β0,n0:=n0,Q:=Q }:=by
 subst hz
 refine bZ (R:=fun y _ _=>y=⟨(ay g).toArray⟩) hf (fun y=>⟨rfl,trivial⟩) (fun β w0 hst ho hb=>?_) (fun y w0 w' bs' _ hr _ hb hbs=>by subst hr;exact hk w' bs' hb hbs)
 refine(FV g (by omega) w0).mono ?_
 rintro e w' ⟨v,rfl,rfl,hb'⟩
 exact⟨_,rfl,hb',rfl⟩
def I7(l:List UInt8)(f t:Nat)(z:IT):Prop:=
 z.f=f/\z.t=t/\z.i<=8/\z.s.size<=70000*z.i/\(((f=255∨z.i<=f)/\z.s=⟨(jn (kW l 0 z.i)).toArray⟩)∨(f≠255/\t<z.i/\z.s=⟨(jn (kW l 0 f)++[58,58]++jn (kW l t z.i)).toArray⟩))
def rl(l:List UInt8):Nat->Nat->Nat
 |0,_=>0
 |n+1,i=>if i<8/\aO l i=0 then rl l n (i+1)+1 else 0
def xB(l:List UInt8)(i:Nat):Nat:=rl l 8 i
theorem HB(l:List UInt8){j:Nat}(h2:j<=8)(he:j=8∨aO l j≠0):∀(n i:Nat),i<=j->j-i<=n->(∀k,i<=k->k<j->aO l k=0)->rl l n i=j-i
 |0,i,h1,hn,_=>by rw[rl];omega
 |n+1,i,h1,hn,hz=>by
  rw[rl]
  by_cases hij:i=j
  ·subst hij
   rw[if_neg (fun h=>he.elim (fun h'=>by omega) (fun h'=>h' h.2))]
   omega
  ·rw[if_pos ⟨by omega,hz i (Nat.le_refl _) (by omega)⟩,HB l h2 he n (i+1) (by omega) (by omega) (fun k a b=>hz k (by omega) b)]
   omega
theorem xC{l:List UInt8}{i j:Nat}(h1:i<=j)(h2:j<=8)(hz:∀k,i<=k->k<j->aO l k=0)(he:j=8∨aO l j≠0):xB l i=j-i:=HB l h2 he 8 i h1 (by omega) hz
theorem AH(l:List UInt8):∀(n i:Nat),i<=8->i+rl l n i<=8/\∀k,i<=k->k<i+rl l n i->aO l k=0
 |0,i,h=>⟨by rw[rl];omega,fun k a b=>by rw[rl]at b;omega⟩
 |n+1,i,h=>by
  rw[rl]
  split
  ·rename_i h1
   obtain⟨g1,g2⟩:=AH l n (i+1) (by omega)
   refine⟨by omega,fun k a b=>?_⟩
   by_cases hk:k=i
   ·subst hk;exact h1.2
   ·exact g2 k (by omega) (by omega)
  ·exact⟨by omega,fun k a b=>by omega⟩
def oB(l:List UInt8)(p:Nat×Nat)(i:Nat):Nat×Nat:=if 2<=xB l i/\p.2-p.1<xB l i then(i,i+xB l i) else p
def bE(l:List UInt8)(i:Nat):Nat×Nat:=(List.range i).foldl (oB l) (255,255)
theorem dw(l:List UInt8)(i:Nat):bE l (i+1)=oB l (bE l i) i:=by simp[bE,List.range_succ]
theorem eJ(l:List UInt8):∀i,i<=8->Good l (bE l i).1 (bE l i).2
 |0,_=>.inl ⟨rfl,rfl⟩
 |i+1,h=>by
  rw[dw]
  unfold oB
  split
  ·rename_i h1
   obtain⟨g1,g2⟩:=AH l 8 i (by omega)
   exact .inr ⟨by have:=h1.1;show i+2<=i+xB l i;omega,g1,g2⟩
  ·exact eJ l i (by omega)
def iY(l:List UInt8):List UInt8:=gB l (bE l 8).1 (bE l 8).2
theorem Bt(A:Option Addr)(c:Nat)(l:List UInt8)(B:Nat)(w:World)(h:Bts w B A 16 l)(hc:16<=c)(hB:B<=w.heap.size)(hm:¬ct l) :
  Calls Tryz.prog 207 #[.slice A 16 c] w (bF (fun v _=>v=.string ⟨(iY l).toArray⟩) w):=by
 refine aH (hk:=IA ⟨A,16,c⟩) (n:=500) (args:=[.xs A 16 c]) ⟨trivial,trivial⟩ ?_
 refine ah (Ot ⟨A,16,c⟩ w) ?_
 refine af (fun h0=>by simp at h0) (fun _=>af (fun h4=>af (fun h16=>by simp at h16) (fun _=>?_)) (fun h4=>by simp at h4))
 refine eK (R:=fun(x:UV) _ _=>x.A=none) (Fine.start w _) (fun x=>⟨rfl,trivial⟩) (fun β wc hst o hb=>?_) ?_
 ·refine(tR A 16 c l B wc (h.below (hb.mono hB) (Nat.le_refl _)) hc (Nat.le_trans hB hb.size)).mono ?_
  rintro e w' ⟨v,rfl,hv,hb'⟩
  rcases hv with⟨h1,_⟩ |⟨_,h2,_⟩ |⟨_,_,rfl⟩
  ·omega
  ·exact absurd h2 hm
  ·exact⟨⟨none,0,0⟩,rfl,hb',rfl⟩
 rintro⟨A4,k4,c4⟩ wc w0 b0 hwc ha hb1 hw0 hbs0
 dsimp only at ha
 subst ha
 refine af (fun h=>by simp at h) (fun _=>?_)
 have hok:∀m,0<m->rT.ok m:=fun m hm=>⟨trivial,hm,trivial⟩
 have hobjs:∀o∈ci ⟨A,16,c⟩,o.ok 1:=by
  intro o ho
  simp only[ci,List.mem_singleton]at ho
  subst ho
  exact⟨trivial,trivial⟩
 refine iJ (w:=w) (Fine.mk' hw0 hbs0) rfl 1 rfl Ch (fun z:IZ=>[rT,.int .i64 z.f false,.int .i64 z.t false,.int .i64 z.i false]) (fun _=>ci ⟨A,16,c⟩) (fun z=>8-z.i)
  (fun _ z _=>z.i<=8/\(z.f,z.t)=bE l z.i) (fun _ p _=>p=bE l 8) (fun _ _ _=>False) (fun z=>Gf ⟨A,16,c⟩ z) 1000
  (by simp) (by simp[Ch]) (by simp[Ch]) (fun _=>⟨hok 1 (by omega),trivial,trivial,trivial,trivial⟩) (fun _=>⟨rfl,hobjs⟩) rfl rfl (by simp) (by simp) (fun _=>⟨⟨hok 1 (by omega),trivial,trivial,trivial⟩,rfl,hobjs⟩) (fun _=>⟨trivial,rfl,hobjs⟩) ?_ ?_ ?_ ?_
 ·rintro β w1 z w2 g hb1 ⟨hi,hbest⟩ hkp hge
  have hgood:Good l z.f z.t:=by have:=eJ l z.i hi;rw[<- hbest]at this;exact this
  have hbl:∀b∈ac β 1,w.heap.size<=b:=fun b hb=>by
   simp[ac]at hb
   subst hb
   exact hge 0 (by omega)
  have hw2:Below w.heap.size w w2:=hkp.below hb1 (Nat.le_refl _) hbl
  refine ah (Nu ⟨A,16,c⟩ z w2 (ac β 1) g) (ak (fun hlt=>?_) (fun hge'=>?_))
  ·have hlt':z.i<8:=by omega
   refine kR (w:=w2) (bs:=ac β 1) ⟨rfl,Keep.refl _ _,fun b hb=>.inl hb⟩ rfl 1 rfl Cg (fun j:Nat=>[rT,.int .i64 z.f false,.int .i64 z.t false,.int .i64 z.i false,.int .i64 j false]) (fun _=>ci ⟨A,16,c⟩) (fun j=>8-j)
    (fun _ j _=>z.i<=j/\j<=8/\∀k,z.i<=k->k<j->aO l k=0) (fun _ j _=>z.i<=j/\j<=8/\(∀k,z.i<=k->k<j->aO l k=0)/\(j=8∨aO l j≠0)) (fun _ _ _=>False) (fun _=>au) 1000
    (by simp) (by simp[Cg]) (by simp[Cg]) (fun _=>⟨hok 1 (by omega),trivial,trivial,trivial,trivial,trivial⟩) (fun _=>⟨rfl,hobjs⟩) rfl rfl (by simp) (by simp) (fun _=>⟨⟨hok 1 (by omega),trivial,trivial,trivial,trivial,trivial⟩,rfl,hobjs⟩) (fun _=>⟨trivial,rfl,hobjs⟩) ?_ ?_ ?_ ?_
   ·rintro β2 w3 j w4 g2 ej ⟨hij,hj8,hz⟩ hk34 hk24 hblk
    have hbl2:∀b∈ac β2 1,w.heap.size<=b:=fun b hb=>by
     have:=hw2.size
     rcases(hblk b hb).1 with h |h
     ·exact hbl b h
     ·omega
    have hw4:Below w.heap.size w w4:=hk24.below hw2 (Nat.le_refl _) hbl
    refine ah (Nt ⟨A,16,c⟩ ⟨z.f,z.t,z.i,j⟩ w4 (ac β2 1) g2) (ak (fun hj=>?_) (fun hj=>?_))
    ·have hj':j<8:=by dsimp only at hj;omega
     obtain⟨n1,n2,n3,n4,n5,n6⟩:=lU h hB hw4 hbl2 hj'
     refine aa n1 (aa n2 (aa n3 (aa n4 (aa n2 (aa n5 ?_)))))
     dsimp only
     rw[n6]
     refine af (fun he=>?_) (fun he=>?_)
     ·refine aM ⟨rfl,hk34,fun b hb=>.inl hb⟩ fun β' w' hst hk'=>⟨j+1,by show 8-(j+1)<8-j;omega,?_,hst.objsAt rfl hobjs,⟨by omega,by omega,fun k h1 h2=>?_⟩,hk'⟩
      ·rw[ax (by omega) (by omega)]
       have:=hst.base 0 (by show 0<1;omega)
       simp only[rT,ae,SV.den]
       rw[this]
       rfl
      ·rcases Nat.lt_or_ge k j with h3 |h3
       ·exact hz k h1 h3
       ·have:k=j:=by omega
        subst this
        have:((aO l k:Nat):Int)=0:=by simpa using he
        omega
     ·refine aM ⟨rfl,hk34,fun b hb=>.inl hb⟩ fun β' w' hst hk'=>⟨.inl ⟨j,rfl,?_,hst.objsAt rfl hobjs,hij,hj8,hz,.inr (fun hz0=>by rw[hz0]at he;simp at he)⟩,hk'⟩
      have:=hst.base 0 (by show 0<1;omega)
      simp only[rT,ae,SV.den]
      rw[this]
    ·refine aM ⟨rfl,hk34,fun b hb=>.inl hb⟩ fun β' w' hst hk'=>⟨.inl ⟨j,rfl,?_,hst.objsAt rfl hobjs,hij,hj8,hz,.inl (by dsimp only at hj;omega)⟩,hk'⟩
     have:=hst.base 0 (by show 0<1;omega)
     simp only[rT,ae,SV.den]
     rw[this]
   ·intro β2 w3 hst ej
    refine⟨z.i,rfl,fun i o hi=>hst.at_ i o hi,Nat.le_refl _,hi,fun k h1 h2=>by omega⟩
   ·rintro w3 j w4 ⟨hij,hj8,hz,hend⟩ ej hk24 g2 bs' hbs'
    have hrun:=xC hij hj8 hz hend
    dsimp only
    have e1:i64.wrap ((j:Int)-(z.i:Int))=(j:Int)-z.i:=ax (by omega) (by omega)
    have hzb:(z.f:Int)<=(z.t:Int)/\(z.t:Int)<=255:=by
     rcases hgood with⟨h1,h2⟩ |⟨h1,h2,_⟩ <;> omega
    have e2:i64.wrap ((z.t:Int)-(z.f:Int))=(z.t:Int)-z.f:=ax (by omega) (by omega)
    have e3:i64.wrap ((z.i:Int)+1)=((z.i+1:Nat):Int):=by rw[ax (by omega) (by omega)];omega
    rw[e1,e2,e3]
    have hpre:∀b∈bs',b∈ac β 1∨w1.heap.size<=b:=fun b hb=>by
     have:=hkp.size
     rcases(hbs' b hb).1 with h |h
     ·exact .inl h
     ·exact .inr (by omega)
    have keep:∀(f t:Nat),(f,t)=bE l (z.i+1)->(T.leaf .normal [rT,.int .i64 f false,.int .i64 t false,.int .i64 ((z.i+1:Nat):Int) false] (SS.mk (ci ⟨A,16,c⟩) [] true w4 bs')).holds { P:=Tryz.prog,β0:=β,n0:=1,Q:=rI β (ac β 1) (fun z:IZ=>[rT,.int .i64 z.f false,.int .i64 z.t false,.int .i64 z.i false]) (fun _=>ci ⟨A,16,c⟩) (fun z=>8-z.i) (fun z _=>z.i<=8/\(z.f,z.t)=bE l z.i) (.exit 2) (fun p:Nat×Nat=>[rT,.int .i64 p.1 false,.int .i64 p.2 false]) (fun _=>ci ⟨A,16,c⟩) (fun p _=>p=bE l 8) .ret (fun _:Unit=>[]) (fun _=>ci ⟨A,16,c⟩) (fun _ _=>False) w1 z }:=fun f t hg=>by
     refine aM ⟨rfl,hkp.trans hk24,hpre⟩ fun β' w' hst hk'=>⟨⟨f,t,z.i+1,0⟩,by show 8-(z.i+1)<8-z.i;omega,?_,hst.objsAt rfl hobjs,⟨by show z.i+1<=8;omega,hg⟩,hk'⟩
     have:=hst.base 0 (by show 0<1;omega)
     simp only[rT,ae,SV.den]
     rw[this]
    refine ak (fun hl2=>ak (fun hl3=>?_) (fun _=>?_)) (fun _=>?_)
    ·refine keep z.i j ?_
     rw[dw,<- hbest]
     unfold oB
     rw[hrun,if_pos ⟨by omega,by dsimp only;omega⟩]
     congr 1
     omega
    ·rename_i hl3
     refine keep z.f z.t ?_
     rw[dw,<- hbest]
     unfold oB
     rw[hrun,if_neg (by dsimp only;omega)]
    ·rename_i hl2
     refine keep z.f z.t ?_
     rw[dw,<- hbest]
     unfold oB
     rw[hrun,if_neg (by dsimp only;omega)]
   ·rintro w3 j w4 hf
    exact hf.elim
  ·refine aM ⟨rfl,hkp,fun b hb=>.inl hb⟩ fun β' w' hst hk'=>⟨.inl ⟨(z.f,z.t),rfl,?_,hst.objsAt rfl hobjs,by rw[hbest];congr 1;omega⟩,hk'⟩
   have:=hst.base 0 (by show 0<1;omega)
   simp only[rT,ae,SV.den]
   rw[this]
 ·intro β w1 hst hb1
  exact⟨⟨255,255,0,0⟩,rfl,fun i o hi=>hst.at_ i o hi,Nat.zero_le _,rfl⟩
 ·rintro w1 ⟨f,t⟩ w2 hbest hbw1 hw2 g bs2 hbs2
  dsimp only at hbest ⊢
  have hgood:Good l f t:=by have:=eJ l 8 (Nat.le_refl _);rw[<- hbest]at this;exact this
  have htxt:iY l=gB l f t:=by unfold iY;rw[<- hbest]
  rw[htxt]
  refine iJ (w:=w) (Fine.mk' hw2 hbs2) rfl 1 rfl Ci (fun z:IT=>[rT,.int .i64 z.f false,.int .i64 z.t false,.str z.s false,.int .i64 z.i false]) (fun _=>ci ⟨A,16,c⟩) (fun z=>8-z.i)
   (fun _ z _=>I7 l f t z) (fun _ s _=>s=⟨(gB l f t).toArray⟩) (fun _ _ _=>False) (fun _=>Gg) 1000
   (by simp) (by simp[Ci]) (by simp[Ci]) (fun _=>⟨hok 1 (by omega),trivial,trivial,trivial,trivial,trivial⟩) (fun _=>⟨rfl,hobjs⟩) rfl rfl (by simp) (by simp) (fun _=>⟨⟨trivial,trivial⟩,rfl,hobjs⟩) (fun _=>⟨trivial,rfl,hobjs⟩) ?_ ?_ ?_ ?_
  ·rintro β w3 z w4 g2 hb3 ⟨rfl,rfl,hi,hsz,hs⟩ hkp hge
   have hbl:∀b∈ac β 1,w.heap.size<=b:=fun b hb=>by
    simp[ac]at hb
    subst hb
    exact hge 0 (by omega)
   have hw4:Below w.heap.size w w4:=hkp.below hb3 (Nat.le_refl _) hbl
   have kf:KFine (ac β 1) w4 (SS.mk (ci ⟨A,16,c⟩) [] true w4 (ac β 1)):=⟨rfl,Keep.refl _ _,fun b hb=>.inl hb⟩
   have hft:(z.f=255/\z.t=255)∨(z.f+2<=z.t/\z.t<=8):=by
    rcases hgood with⟨h1,h2⟩ |⟨h1,h2,_⟩
    ·exact .inl ⟨h1,h2⟩
    ·exact .inr ⟨h1,h2⟩
   have next:∀(s':ByteArray) (i':Nat) (w5:World) (bs5:List Nat),Keep (ac β 1) w4 w5->(∀b∈bs5,b∈ac β 1∨w4.heap.size<=b)->z.i<i'->I7 l z.f z.t ⟨z.f,z.t,i',s'⟩ ->
     (T.leaf .normal [rT,.int .i64 z.f false,.int .i64 z.t false,.str s' false,.int .i64 (i':Int) false] (SS.mk (ci ⟨A,16,c⟩) [] true w5 bs5)).holds { P:=Tryz.prog,β0:=β,n0:=1,Q:=rI β (ac β 1) (fun z:IT=>[rT,.int .i64 z.f false,.int .i64 z.t false,.str z.s false,.int .i64 z.i false]) (fun _=>ci ⟨A,16,c⟩) (fun z=>8-z.i) (fun z' _=>I7 l z.f z.t z') (.exit 6) (fun s=>[.str s false]) (fun _=>ci ⟨A,16,c⟩) (fun s _=>s=⟨(gB l z.f z.t).toArray⟩) .ret (fun _:Unit=>[]) (fun _=>ci ⟨A,16,c⟩) (fun _ _=>False) w3 z }:=fun s' i' w5 bs5 o8 hbs5 hlt hinv=>by
    have hi8:=hinv.2.2.1
    refine aM ⟨rfl,hkp.trans o8,fun b hb=>(hbs5 b hb).imp id (Nat.le_trans hkp.size)⟩ fun β' w' hst hk'=>⟨⟨z.f,z.t,i',s'⟩,by show 8-i'<8-z.i;dsimp only at hi8;omega,?_,hst.objsAt rfl hobjs,hinv,hk'⟩
    have:=hst.base 0 (by show 0<1;omega)
    simp only[rT,ae,SV.den]
    rw[this]
   refine ah (Nv ⟨A,16,c⟩ z w4 (ac β 1) g2) (ak (fun hlt=>?_) (fun hge'=>?_))
   ·have hlt':z.i<8:=by omega
    refine af (fun hf=>?_) (fun hnf=>ak (fun hpos=>?_) (fun hz0=>?_))
    ·have hif:z.i=z.f:=by have:=eq_of_beq hf;omega
     have hft2:z.f+2<=z.t/\z.t<=8:=by omega
     have hs':z.s=⟨(jn (kW l 0 z.f)).toArray⟩:=by
      rcases hs with⟨_,h⟩ |⟨_,h,_⟩
      ·rw[hif]at h;exact h
      ·omega
     refine aa (by rw[be];omega) (ak (fun ht8=>?_) (fun ht8=>?_))
     ·refine aM ⟨rfl,hkp,fun b hb=>.inl hb⟩ fun β' w' hst hk'=>⟨.inl ⟨z.s++ByteArray.mk #[(58:UInt8),(58:UInt8)],rfl,rfl,hst.objsAt rfl hobjs,?_⟩,hk'⟩
      have ht:z.t=8:=by omega
      have hf255:z.f≠255:=by omega
      rw[hs',ht,gB,if_neg hf255,kb,dg]
      simp[jn]
     ·have ht7:z.t<8:=by omega
      obtain⟨n1,n2,n3,n4,n5,n6⟩:=lU h hB hw4 hbl ht7
      refine aa n1 (aa n2 (aa n3 (aa n4 (aa n2 (aa n5 ?_)))))
      refine tj kf n6 (dh l z.t) fun w5 bs5 o8 hbs5=>?_
      have hl:=cK (aO l z.t)
      have hg:=dh l z.t
      have hsz2:(z.s++ByteArray.mk #[(58:UInt8),(58:UInt8)]).size=z.s.size+2:=by rw[ByteArray.size_append];rfl
      refine aa (by rw[hsz2,aB (ay (aO l z.t)),be];omega) ?_
      rw[show i64.wrap ((z.t:Int)+1)=((z.t+1:Nat):Int) by rw[ax (by omega) (by omega)];omega]
      refine next _ _ _ _ o8 hbs5 (by omega) ⟨rfl,rfl,by show z.t+1<=8;omega,?_,.inr ⟨by omega,Nat.lt_succ_self _,?_⟩⟩
      ·show(z.s++ByteArray.mk #[(58:UInt8),(58:UInt8)]++_).size<=70000*(z.t+1)
       rw[ByteArray.size_append,hsz2,aB (ay (aO l z.t))]
       omega
      ·show z.s++ByteArray.mk #[(58:UInt8),(58:UInt8)]++_=_
       rw[hs',dg,dg,dj l (Nat.le_refl _),kb]
       simp[jn]
    ·have hpos':0<z.i:=by omega
     obtain⟨n1,n2,n3,n4,n5,n6⟩:=lU h hB hw4 hbl hlt'
     refine aa (by rw[be];omega) (aa n1 (aa n2 (aa n3 (aa n4 (aa n2 (aa n5 ?_))))))
     refine tj kf n6 (dh l z.i) fun w5 bs5 o8 hbs5=>?_
     have hl:=cK (aO l z.i)
     have hg:=dh l z.i
     have hsz2:(z.s++ByteArray.mk #[(58:UInt8)]).size=z.s.size+1:=by rw[ByteArray.size_append];rfl
     refine aa (by rw[hsz2,aB (ay (aO l z.i)),be];omega) ?_
     rw[show i64.wrap ((z.i:Int)+1)=((z.i+1:Nat):Int) by rw[ax (by omega) (by omega)];omega]
     have hnf':z.i≠z.f:=fun he=>by rw[he]at hnf;simp at hnf
     refine next _ _ _ _ o8 hbs5 (by omega) ⟨rfl,rfl,by show z.i+1<=8;omega,?_,?_⟩
     ·show(z.s++ByteArray.mk #[(58:UInt8)]++_).size<=70000*(z.i+1)
      rw[ByteArray.size_append,hsz2,aB (ay (aO l z.i))]
      omega
     ·show((z.f=255∨z.i+1<=z.f)/\z.s++ByteArray.mk #[(58:UInt8)]++_=_)∨(z.f≠255/\z.t<z.i+1/\z.s++ByteArray.mk #[(58:UInt8)]++_=_)
      rcases hs with⟨h1,h2⟩ |⟨h1,h2,h3⟩
      ·refine .inl ⟨by omega,?_⟩
       rw[h2,dg,dg,dj l (Nat.zero_le _),l6,if_neg (qz l hpos')]
      ·refine .inr ⟨h1,by omega,?_⟩
       rw[h3,dg,dg,dj l (Nat.le_of_lt h2),l6,if_neg (qz l h2)]
       simp
    ·have hz:z.i=0:=by omega
     obtain⟨n1,n2,n3,n4,n5,n6⟩:=lU h hB hw4 hbl hlt'
     refine aa n1 (aa n2 (aa n3 (aa n4 (aa n2 (aa n5 ?_)))))
     refine tj kf n6 (dh l z.i) fun w5 bs5 o8 hbs5=>?_
     have hl:=cK (aO l z.i)
     have hg:=dh l z.i
     refine aa (by rw[aB (ay (aO l z.i)),be];omega) ?_
     rw[show i64.wrap ((z.i:Int)+1)=((z.i+1:Nat):Int) by rw[ax (by omega) (by omega)];omega]
     have hnf':z.i≠z.f:=fun he=>by rw[he]at hnf;simp at hnf
     refine next _ _ _ _ o8 hbs5 (by omega) ⟨rfl,rfl,by show z.i+1<=8;omega,?_,.inl ⟨by show z.f=255∨z.i+1<=z.f;omega,?_⟩⟩
     ·show(z.s++_).size<=70000*(z.i+1)
      rw[ByteArray.size_append,aB (ay (aO l z.i))]
      omega
     ·show z.s++_=_
      rcases hs with⟨h1,h2⟩ |⟨h1,h2,h3⟩
      ·rw[h2,dg,dj l (Nat.zero_le _),l6,hz,kb]
       simp[jn]
      ·omega
   ·have hi8:z.i=8:=by omega
    refine aM ⟨rfl,hkp,fun b hb=>.inl hb⟩ fun β' w' hst hk'=>⟨.inl ⟨z.s,rfl,rfl,hst.objsAt rfl hobjs,?_⟩,hk'⟩
    rcases hs with⟨h1,h2⟩ |⟨h1,h2,h3⟩
    ·rw[h2,gB,if_pos (by omega),hi8]
    ·rw[h3,gB,if_neg h1,hi8]
  ·intro β w3 hst hb3
   exact⟨⟨f,t,0,⟨#[]⟩⟩,rfl,fun i o hi=>hst.at_ i o hi,rfl,rfl,Nat.zero_le _,Nat.zero_le _,.inl ⟨.inr (Nat.zero_le _),rfl⟩⟩
  ·rintro w3 s w4 rfl hb3 hb4 g2 bs3 hbs3
   exact aN (Fine.mk' hb4 hbs3) fun β w' _ _=>rfl
  ·rintro w3 s w4 hf
   exact hf.elim
 ·rintro w1 p w2 hf
  exact hf.elim
end
section
open Go Go.Rx Go.RowKit
def BQ(l:List UInt8)(v:Value)(_:World):Prop:=v=.tuple #[.string ⟨l.toArray⟩,.nilIface]
def SQ(l:List UInt8)(w:World)(v:Value)(w':World):Prop:=∃b o c,v=.tuple #[.slice (some ⟨b,o,none⟩) l.length c,.nilIface]/\l.length<=c/\Bts w' w'.heap.size (some ⟨b,o,none⟩) l.length l/\w.heap.size<=b
def NQ(v:Value)(_:World):Prop:=v=.nilIface
theorem Mn{W s x y:Nat}(hx:x<2^s)(h:y*2^s+x<2^W):(BitVec.ofInt W (x:Int) |||BitVec.ofInt W ((y*2^s:Nat):Int)).toNat=y*2^s+x:=by
 have f1:∀m:Nat,m<2^W->(BitVec.ofInt W (m:Int)).toNat=m:=fun m hm=>by
  rw[BitVec.toNat_ofInt]
  have:((m:Int)%((2^W:Nat):Int))=((m%2^W:Nat):Int):=rfl
  rw[this,Int.toNat_natCast,Nat.mod_eq_of_lt hm]
 rw[BitVec.toNat_or,f1 _ (by omega),f1 _ (by omega),Nat.or_comm]
 have:=Nat.shiftLeft_add_eq_or_of_lt hx y
 rw[Nat.shiftLeft_eq]at this
 exact this.symm
theorem qI{m:Nat}(h:m<2^64):u64.wrap (m:Int)=m:=by
 simp[IntKind.wrap,IntKind.bits,IntKind.signed]
 omega
theorem Eg{m:Nat}(h:m<2^16):u16.wrap (m:Int)=m:=by
 simp[IntKind.wrap,IntKind.bits,IntKind.signed]
 omega
theorem fZ{s x y:Nat}{X Y:Int}(hX:X=(x:Int))(hY:Y=(y:Int))(hs:s<=56)(hx:x<2^s)(hy:y<256) :
  u64.wrap (((BitVec.ofInt 64 X |||BitVec.ofInt 64 (u64.wrap (u64.wrap Y*(2:Int)^s))).toNat:Nat):Int)=((y*2^s+x:Nat):Int):=by
 subst hX hY
 have h1:(2:Nat)^s<=2^56:=Nat.pow_le_pow_right (by omega) hs
 have h2:y*2^s<=255*2^s:=Nat.mul_le_mul_right _ (by omega)
 have e1:(y:Int)*(2:Int)^s=((y*2^s:Nat):Int):=by
  rw[Int.natCast_mul,Int.natCast_pow];rfl
 rw[qI (m:=y) (by omega),e1,qI (m:=y*2^s) (by omega),Mn hx (by omega),qI (by omega)]
theorem Mm{x y:Nat}{X Y:Int}(hX:X=(x:Int))(hY:Y=(y:Int))(hx:x<256)(hy:y<256) :
  u64.wrap (u16.wrap (((BitVec.ofInt 16 (u16.wrap X) |||BitVec.ofInt 16 (u16.wrap (u16.wrap Y*(2:Int)^8))).toNat:Nat):Int))=((y*256+x:Nat):Int):=by
 subst hX hY
 have e1:(y:Int)*(2:Int)^8=((y*2^8:Nat):Int):=by
  rw[Int.natCast_mul];rfl
 rw[Eg (m:=x) (by omega),Eg (m:=y) (by omega),e1,Eg (m:=y*2^8) (by omega),Mn (by omega) (by omega),Eg (by omega),qI (by omega)]
theorem o6{w:World}(ht:Tens w)(w1:World)(hb:Below w.heap.size w w1){bs:List Nat}(hbs:∀b∈bs,w.heap.size<=b):canRead w1 bs ⟨6,0,none⟩ []:=by
 have h1:14<w.heap.size:=ht.lt
 refine⟨?_,fun h=>?_,fun j v h=>by simp at h⟩
 ·show 6<_
  have:=hb.size
  omega
 ·have:=hbs 6 h
  omega
theorem bm{w w1:World}{bs:List Nat}{A:Option Addr}{n B:Nat}{l:List UInt8}(h:Bts w B A n l)(hB:B<=w.heap.size)(hw:Below w.heap.size w w1)(hbs:∀b∈bs,w.heap.size<=b)(j:Nat)(hj:j<n) :
  A.isSome=true/\canRead w1 bs ((A.getD default).add j) [SV.int u8 (ai w1 (((A.getD default).add j).add 0)) false]/\ai w1 (((A.getD default).add j).add 0)=((l.getD j 0).toNat:Int):=by
 have:=mQ h hB hw hbs (z:=(j:Int)) rfl hj
 simpa using this
theorem AC(A:Option Addr)(c:Nat)(x y:UInt8)(B:Nat)(w:World)(h:Bts w B A 2 [x,y])(hB:B<=w.heap.size)(ht:Tens w):Calls Tryz.prog 166 #[.slice A 2 c] w (bF (BQ (Lib.decDigits (x.toNat*256+y.toNat))) w):=by
 refine aH (hk:=jT) (n:=500) (args:=[.xs A 2 c]) ⟨trivial,trivial⟩ ?_
 refine ah (IL A 2 c w) ?_
 obtain⟨a1,a2,a3⟩:=bm (bs:=[]) h hB (Below.refl _ _) (by simp) 1 (by omega)
 obtain⟨b1,b2,b3⟩:=bm (bs:=[]) h hB (Below.refl _ _) (by simp) 0 (by omega)
 have hx:=x.toNat_lt
 have hy:=y.toNat_lt
 have e:=Mm (x:=y.toNat) (y:=x.toNat) a3 b3 hy hx
 refine aa (o6 ht w (Below.refl _ _) (by simp)) (aa (by omega) (aa a1 (aa a2 (aa (by omega) (aa a1 (aa a2 (aa (by omega) (aa b1 (aa b2 ?_)))))))))
 refine eK (R:=fun(s:ByteArray) _ _=>s=⟨(Lib.decDigits (x.toNat*256+y.toNat)).toArray⟩) (Fine.start _ _) (fun x=>⟨rfl,trivial⟩) (fun β w0 hst ho hb=>?_) ?_
 ·refine(show Calls Tryz.prog _ #[.int .u64 (u64.wrap (u16.wrap (((BitVec.ofInt 16 (u16.wrap _) |||BitVec.ofInt 16 (u16.wrap (u16.wrap _*(2:Int)^8))).toNat:Nat):Int))),.int .i64 10] w0 _ from ?_)
  rw[e]
  refine(JT _ (by omega) w0 (ht.below hb ht.lt)).mono ?_
  rintro e w' ⟨v,rfl,rfl,hb'⟩
  exact⟨_,rfl,hb',rfl⟩
 ·rintro s w1 w2 bs _ rfl _ hb hbs
  exact aN (Fine.mk' hb hbs) fun β w' _ _=>rfl
theorem mP{β:Nat->Nat}{w:World}{b B:Nat}{l:List UInt8}{cs:List SV}{tot:Nat}{e:TypeId}{lo hi:Nat}(h:(SObj.cells cs tot e lo hi).At β w.heap[b]?)(hcs:ae β cs=(l.map fun x=>(x.toNat:Int)).map (Value.int .u8))(htot:tot=l.length)(hB:b<B) :
  Bts w B (some ⟨b,0,none⟩) l.length l:=by
 obtain⟨rest,h1,h2⟩:=h
 have hl:cs.length=l.length:=by
  have:=congrArg List.length hcs
  simpa [cD] using this
 have hr:rest=[]:=List.eq_nil_of_length_eq_zero (by omega)
 subst hr
 rw[List.append_nil,hcs]at h1
 have:=cp (k:=l.length) h1 (fun v hv=>by
  simp only[List.mem_map]at hv
  obtain⟨x,_,rfl⟩:=hv
  have:=x.toNat_lt
  omega) (by simp) hB
 simpa [Function.comp_def,List.take_of_length_le] using this
theorem Eh{m x:Nat}(h:m%256=x):u8.wrap (m:Int)=(x:Int):=by
 rw[qJ,h]
theorem shr{n s:Nat}:(n:Int).fdiv ((2:Int)^s)=((n/2^s:Nat):Int):=by
 have:(2:Int)^s=((2^s:Nat):Int):=by rw[Int.natCast_pow];rfl
 rw[this]
 exact(Int.ofNat_fdiv n _).symm
theorem FC(x y:UInt8)(w:World)(ht:Tens w):Calls Tryz.prog 165 #[.string ⟨(Lib.decDigits (x.toNat*256+y.toNat)).toArray⟩] w (bF (SQ [x,y] w) w):=by
 have hx:=x.toNat_lt
 have hy:=y.toNat_lt
 refine aH (hk:=jT) (n:=500) (args:=[.str ⟨(Lib.decDigits (x.toNat*256+y.toNat)).toArray⟩ false]) ⟨trivial,trivial⟩ ?_
 refine ah (IM _ w) ?_
 refine eK (R:=fun(m:Nat) _ _=>m=x.toNat*256+y.toNat) (Fine.start _ _) (fun x=>⟨rfl,trivial,trivial,trivial⟩) (fun β w0 hst ho hb=>?_) ?_
 ·refine(I3 (x.toNat*256+y.toNat) (by omega) w0).mono ?_
  rintro e w' ⟨v,rfl,rfl,hb'⟩
  exact⟨_,rfl,hb',rfl⟩
 ·rintro m w1 w2 bs _ rfl _ hb hbs
  refine aa (o6 ht _ hb hbs) (aN (Fine.mk' hb hbs) fun β w' hst hb'=>?_)
  have hlt:=hst.lt 0 (by simp[SS.n])
  refine⟨β 0,0,2,rfl,Nat.le_refl _,mP (l:=[x,y]) (hst.at_ 0 _ rfl) ?_ rfl hlt,(Fine.mk' hb hbs).new (hst.old rfl) 0 (by simp[SS.n])⟩
  simp only[ae,SV.den,List.map_cons,List.map_nil]
  rw[Eg (by omega),shr,Eh (x:=x.toNat) (by omega),Eh (x:=y.toNat) (by omega)]
theorem z6(A:Option Addr)(c:Nat)(x:UInt8)(B:Nat)(w:World)(h:Bts w B A 1 [x])(hB:B<=w.heap.size)(ht:Tens w):Calls Tryz.prog 176 #[.slice A 1 c] w (bF (BQ (cP x.toNat)) w):=by
 refine aH (hk:=jT) (n:=500) (args:=[.xs A 1 c]) ⟨trivial,trivial⟩ ?_
 refine ah (IH A 1 c w) ?_
 obtain⟨b1,b2,b3⟩:=bm (bs:=[]) h hB (Below.refl _ _) (by simp) 0 (by omega)
 have hx:=x.toNat_lt
 refine af (fun h=>by simp at h) (fun _=>aa (by omega) (aa b1 (aa b2 ?_)))
 refine gL (R:=fun(s:ByteArray) _ _=>s=⟨(cP x.toNat).toArray⟩) (fun x=>⟨rfl,trivial⟩) (fun β wc hb=>?_) ?_
 ·have b3':ai w (((A.getD default).add 0).add 0)=((x.toNat:Nat):Int):=b3
  refine(show Calls Tryz.prog _ #[.int .i64 (i64.wrap _)] wc _ from ?_)
  rw[b3',ax (by omega) (by omega)]
  refine(CP x.toNat hx wc (ht.below hb ht.lt)).mono ?_
  rintro e w' ⟨v,rfl,rfl,hb'⟩
  exact⟨_,rfl,hb',rfl⟩
 ·rintro s wc w1 hwc rfl hb
  exact aN (Fine.nil (hwc.trans (hb.mono hwc.size))) fun β w' _ _=>rfl
theorem E7(x:UInt8)(w:World):Calls Tryz.prog 175 #[.string ⟨(Lib.decDigits x.toNat).toArray⟩] w (bF (SQ [x] w) w):=by
 have hx:=x.toNat_lt
 refine aH (hk:=jT) (n:=500) (args:=[.str ⟨(Lib.decDigits x.toNat).toArray⟩ false]) ⟨trivial,trivial⟩ ?_
 refine ah (II _ w) ?_
 refine eK (R:=fun(m:Nat) _ _=>m=x.toNat) (Fine.start _ _) (fun x=>⟨rfl,trivial,trivial,trivial⟩) (fun β w0 hst ho hb=>?_) ?_
 ·refine(KW x.toNat (by omega) w0).mono ?_
  rintro e w' ⟨v,rfl,rfl,hb'⟩
  exact⟨_,rfl,hb',rfl⟩
 ·rintro m w1 w2 bs _ rfl _ hb hbs
  refine aN (Fine.mk' hb hbs) fun β w' hst hb'=>?_
  have hlt:=hst.lt 0 (by simp[SS.n])
  refine⟨β 0,0,1,rfl,Nat.le_refl _,mP (l:=[x]) (hst.at_ 0 _ rfl) ?_ rfl hlt,(Fine.mk' hb hbs).new (hst.old rfl) 0 (by simp[SS.n])⟩
  simp only[ae,SV.den,List.map_cons,List.map_nil]
  rw[Eh (x:=x.toNat) (by omega)]
theorem z7(A:Option Addr)(c:Nat)(w:World):Calls Tryz.prog 177 #[.slice A 1 c] w (bF NQ w):=by
 refine aH (hk:=jT) (n:=500) (args:=[.xs A 1 c]) ⟨trivial,trivial⟩ ?_
 refine ah (IJ A 1 c w) ?_
 exact af (fun h=>by simp at h) (fun _=>aN (Fine.start _ _) fun β w' _ _=>rfl)
theorem Ds(A:Option Addr)(c:Nat)(w:World):Calls Tryz.prog 204 #[.slice A 8 c] w (bF NQ w):=by
 refine aH (hk:=jT) (n:=500) (args:=[.xs A 8 c]) ⟨trivial,trivial⟩ ?_
 refine ah (Kw A 8 c w) ?_
 exact af (fun h=>by simp at h) (fun _=>aN (Fine.start _ _) fun β w' _ _=>rfl)
def fc(a b c d e f g h:UInt8):Nat:=a.toNat*2^56+(b.toNat*2^48+(c.toNat*2^40+(d.toNat*2^32+(e.toNat*2^24+(f.toNat*2^16+(g.toNat*2^8+h.toNat))))))
theorem Dr(A:Option Addr)(cc:Nat)(a b c d e f g h:UInt8)(B:Nat)(w:World)(hh:Bts w B A 8 [a,b,c,d,e,f,g,h])(hB:B<=w.heap.size)(ht:Tens w):Calls Tryz.prog 203 #[.slice A 8 cc] w (bF (BQ (Lib.decDigits (fc a b c d e f g h))) w):=by
 refine aH (hk:=jT) (n:=500) (args:=[.xs A 8 cc]) ⟨trivial,trivial⟩ ?_
 refine ah (Ku A 8 cc w) ?_
 obtain⟨s7,r7,v7⟩:=bm (bs:=[]) hh hB (Below.refl _ _) (by simp) 7 (by omega)
 obtain⟨s6,r6,v6⟩:=bm (bs:=[]) hh hB (Below.refl _ _) (by simp) 6 (by omega)
 obtain⟨s5,r5,v5⟩:=bm (bs:=[]) hh hB (Below.refl _ _) (by simp) 5 (by omega)
 obtain⟨s4,r4,v4⟩:=bm (bs:=[]) hh hB (Below.refl _ _) (by simp) 4 (by omega)
 obtain⟨s3,r3,v3⟩:=bm (bs:=[]) hh hB (Below.refl _ _) (by simp) 3 (by omega)
 obtain⟨s2,r2,v2⟩:=bm (bs:=[]) hh hB (Below.refl _ _) (by simp) 2 (by omega)
 obtain⟨s1,r1,v1⟩:=bm (bs:=[]) hh hB (Below.refl _ _) (by simp) 1 (by omega)
 obtain⟨s0,r0,v0⟩:=bm (bs:=[]) hh hB (Below.refl _ _) (by simp) 0 (by omega)
 have ha:=a.toNat_lt
 have hb:=b.toNat_lt
 have hc:=c.toNat_lt
 have hd:=d.toNat_lt
 have he:=e.toNat_lt
 have hf:=f.toNat_lt
 have hg:=g.toNat_lt
 have hhh:=h.toNat_lt
 have e1:=fZ (s:=8) (x:=h.toNat) (y:=g.toNat) (X:=u64.wrap (ai w (((A.getD default).add 7).add 0))) (by rw[show ai w (((A.getD default).add 7).add 0)=((h.toNat:Nat):Int) from v7,qI (by omega)]) v6 (by omega) (by omega) (by omega)
 have e2:=fZ (s:=16) (y:=f.toNat) e1 v5 (by omega) (by omega) (by omega)
 have e3:=fZ (s:=24) (y:=e.toNat) e2 v4 (by omega) (by omega) (by omega)
 have e4:=fZ (s:=32) (y:=d.toNat) e3 v3 (by omega) (by omega) (by omega)
 have e5:=fZ (s:=40) (y:=c.toNat) e4 v2 (by omega) (by omega) (by omega)
 have e6:=fZ (s:=48) (y:=b.toNat) e5 v1 (by omega) (by omega) (by omega)
 have e7:=fZ (s:=56) (y:=a.toNat) e6 v0 (by omega) (by omega) (by omega)
 refine af (fun h=>by simp at h) (fun _=>aa (o6 ht w (Below.refl _ _) (by simp)) (aa (by omega) (aa s7 (aa r7 (aa (by omega) (aa s7 (aa r7 ?_)))))))
 refine aa (by omega) (aa s6 (aa r6 (aa (by omega) (aa s5 (aa r5 (aa (by omega) (aa s4 (aa r4 (aa (by omega) (aa s3 (aa r3 (aa (by omega) (aa s2 (aa r2 (aa (by omega) (aa s1 (aa r1 (aa (by omega) (aa s0 (aa r0 ?_))))))))))))))))))))
 refine eK (R:=fun(s:ByteArray) _ _=>s=⟨(Lib.decDigits (fc a b c d e f g h)).toArray⟩) (Fine.start _ _) (fun x=>⟨rfl,trivial⟩) (fun β w0 hst ho hb=>?_) ?_
 ·refine(show Calls Tryz.prog _ #[.int .u64 (u64.wrap _),.int .i64 10] w0 _ from ?_)
  rw[e7]
  refine(JT _ (by omega) w0 (ht.below hb ht.lt)).mono ?_
  rintro e w' ⟨v,rfl,rfl,hb'⟩
  exact⟨_,rfl,hb',rfl⟩
 ·rintro s w1 w2 bs _ rfl _ hb hbs
  exact aN (Fine.mk' hb hbs) fun β w' _ _=>rfl
theorem I2(a b c d e f g h:UInt8)(w:World)(ht:Tens w):Calls Tryz.prog 202 #[.string ⟨(Lib.decDigits (fc a b c d e f g h)).toArray⟩] w (bF (SQ [a,b,c,d,e,f,g,h] w) w):=by
 have ha:=a.toNat_lt
 have hb:=b.toNat_lt
 have hc:=c.toNat_lt
 have hd:=d.toNat_lt
 have he:=e.toNat_lt
 have hf:=f.toNat_lt
 have hg:=g.toNat_lt
 have hhh:=h.toNat_lt
 have hn:fc a b c d e f g h<2^64:=by unfold fc;omega
 refine aH (hk:=jT) (n:=500) (args:=[.str ⟨(Lib.decDigits (fc a b c d e f g h)).toArray⟩ false]) ⟨trivial,trivial⟩ ?_
 refine ah (Kv _ w) ?_
 refine eK (R:=fun(m:Nat) _ _=>m=fc a b c d e f g h) (Fine.start _ _) (fun x=>⟨rfl,trivial,trivial,trivial⟩) (fun β w0 hst ho hb=>?_) ?_
 ·refine(I4 (fc a b c d e f g h) hn w0).mono ?_
  rintro e w' ⟨v,rfl,rfl,hb'⟩
  exact⟨_,rfl,hb',rfl⟩
 ·rintro m w1 w2 bs _ rfl _ hb hbs
  refine aa (o6 ht _ hb hbs) (aN (Fine.mk' hb hbs) fun β w' hst hb'=>?_)
  have hlt:=hst.lt 0 (by simp[SS.n])
  refine⟨β 0,0,8,rfl,Nat.le_refl _,mP (l:=[a,b,c,d,e,f,g,h]) (hst.at_ 0 _ rfl) ?_ rfl hlt,(Fine.mk' hb hbs).new (hst.old rfl) 0 (by simp[SS.n])⟩
  simp only[ae,SV.den,List.map_cons,List.map_nil,shr]
  rw[Eh (x:=a.toNat) (by unfold fc;omega),Eh (x:=b.toNat) (by unfold fc;omega),Eh (x:=c.toNat) (by unfold fc;omega),Eh (x:=d.toNat) (by unfold fc;omega),Eh (x:=e.toNat) (by unfold fc;omega),Eh (x:=f.toNat) (by unfold fc;omega),Eh (x:=g.toNat) (by unfold fc;omega),Eh (x:=h.toNat) (by unfold fc;omega)]
end
section
open Go Go.Rx Go.RowKit
def JH:SE->List Nat
 | .normal=>[0,1,5]
 | .ret=>[4]
 |_=>[]
def De:LoopHook:=bK 25 Unit (.exit 0) [] (fun _=>[]) Nat .ret [4] (fun j=>[.int .i64 j false])
def J7:Hooks:={ calls:=fun _=>none,loops:=fun _ _=>some De }
def Ga:Hooks:={ calls:=fun f=>if f=92 then some rU else none,loops:=fun _ _=>none }
noncomputable abbrev AN(s:ByteArray):List SV:=([(.str s false),(.str (ByteArray.mk #[47]) false),(.tup []),(.tup []),(.int .i64 0 true),(.int .i64 0 true)]++List.replicate 19 aA)
theorem LL(s:ByteArray)(w:World):am Tryz.prog J7 500 92 [.str s false,.str ⟨#[47]⟩ false] (SS.mk [] [] true w []) =
(.loop 92 (ar Tryz.prog 92 3) (AN s) (SS.mk [] [] true w []) (LoopHook.X (De)) (LoopHook.out (De) (AN s) (SS.mk [] [] true w [])) (fun x0 w0 b0=>(.leaf .ret [(.int .i64 (-1) true)] (SS.mk [] [] true w0 b0))) (LoopHook.Y (De)) (LoopHook.out' (De) (AN s) (SS.mk [] [] true w [])) (fun x0 w0 b0=>(.leaf .ret [(.int .i64 ((↑x0.fst:Int)) false)] (SS.mk [] [] true w0 b0)))):=by kernel_rfl
theorem Qm(s:ByteArray)(w:World):(by have h:=LL s w;unfold AN at h;exact type_of% h):=LL s w
theorem P3(s:ByteArray)(i:Nat)(w:World)(g:Nat->Value):aK Tryz.prog au 1000 92 (ar Tryz.prog 92 3) (az ((JH .normal).zip [.str s false,.str ⟨#[47]⟩ false,.int .i64 i false]) g 25 0) (fun e a s=>.leaf e (ep JH e a) s) (SS.mk [] [] true w []) =
 (.split (decide (i64.wrap ((↑i:Int)+(↑(1:Nat):Int))<=(↑s.size:Int)))
  (.need ((0:Int)<=i64.wrap ((↑i:Int)+(↑(1:Nat):Int))/\i64.wrap ((↑i:Int)+(↑(1:Nat):Int))<=(↑s.size:Int))
  (.need ((0:Int)<=(↑i:Int)/\(↑i:Int)<=(↑(i64.wrap ((↑i:Int)+(↑(1:Nat):Int))).toNat:Int))
  (.split ((s.extract (↑i:Int).toNat (i64.wrap ((↑i:Int)+(↑(1:Nat):Int))).toNat).toList == (ByteArray.mk #[(47:UInt8)]).toList)
  (.leaf .ret [(.int .i64 ((↑i:Int)) false)] (SS.mk [] [] true w []))
  (.leaf .normal [(.str s false),(.str (ByteArray.mk #[47]) false),(.int .i64 (i64.wrap ((↑i:Int)+(1:Int))) false)] (SS.mk [] [] true w [])))))
  (.leaf (.exit 0) [] (SS.mk [] [] true w []))):=by kernel_rfl
theorem NI(s:ByteArray)(w:World):am Tryz.prog Ga 500 214 [.str s false,.str ⟨#[47]⟩ false] (SS.mk [] [] true w []) =
 (.hc 92 [(.str s false),(.str (ByteArray.mk #[47]) false)] (SS.mk [] [] true w []) (rU) fun x0 w0 b0=>
 (.leaf .ret [(.bool (decide (x0 ≥ (0:Int))) false)] (SS.mk [] [] true w0 b0))):=by kernel_rfl
def tw(l:List UInt8):Nat:=(l.takeWhile (·≠47)).length
theorem Ef:∀ {l:List UInt8}{i:Nat},(∀x∈l.take i,x≠47)->l[i]?=some 47->tw l=i
 |[],i,_,h=>by simp at h
 |a :: l,0,_,h=>by
  simp at h
  subst h
  simp[tw]
 |a :: l,i+1,h1,h2=>by
  have ha:a≠47:=h1 a (by simp)
  have:=Ef (l:=l) (i:=i) (fun x hx=>h1 x (by simp[hx])) (by simpa using h2)
  simp[tw,List.takeWhile_cons,ha]at this ⊢
  exact this
theorem tS:∀ {l:List UInt8},(∀x∈l,x≠47)->tw l=l.length
 |[],_=>rfl
 |a :: l,h=>by
  have ha:a≠47:=h a (by simp)
  have:=tS (l:=l) fun x hx=>h x (by simp[hx])
  simp[tw,List.takeWhile_cons,ha]at this ⊢
  exact this
theorem Ml{l:List UInt8}{i:Nat}{x:UInt8}(h:l[i]?=some x):((⟨l.toArray⟩:ByteArray).extract i (i+1)).toList=[x]:=by
 have hi:i<l.length:=(List.getElem?_eq_some_iff.1 h).1
 rw[ByteArray.toList_eq,ByteArray.data_extract]
 simp only[List.extract_toArray]
 rw[List.extract_eq_take_drop]
 have:(l.drop i)=x :: l.drop (i+1):=by
  rw[List.drop_eq_getElem_cons hi]
  have:=(List.getElem?_eq_some_iff.1 h).2
  rw[this]
 simp[this]
theorem Pt:(⟨#[(47:UInt8)]⟩:ByteArray).toList=[47]:=by rw[ByteArray.toList_eq]
theorem B6(l:List UInt8)(hl:l.length<2^62)(w:World):Calls Tryz.prog 92 #[.string ⟨l.toArray⟩,.string ⟨#[47]⟩] w (bF (fun v _=>v=.int .i64 (if tw l<l.length then(tw l:Int) else -1)) w):=by
 refine aH (hk:=J7) (n:=500) (args:=[.str ⟨l.toArray⟩ false,.str ⟨#[47]⟩ false]) ⟨trivial,trivial,trivial⟩ ?_
 refine ah (Qm _ w) ?_
 refine fm (Fine.start _ _) JH (α:=Nat) (fun i=>[.str ⟨l.toArray⟩ false,.str ⟨#[47]⟩ false,.int .i64 i false]) (fun i=>l.length-i) (fun _ i _=>i<=l.length/\∀x∈l.take i,x≠47)
  (fun w0 e lv w'=>(e=.ret/\lv=[.int .i64 (tw l:Int)]/\tw l<l.length)∨(e=.exit 0/\lv=[]/\tw l=l.length)) (fun _=>au) 1000 (by simp) (by simp[JH]) (by simp[JH]) (fun _=>⟨trivial,trivial,trivial,trivial⟩) rfl rfl rfl
  (by simp) (by simp) (fun _=>trivial) (fun _=>⟨trivial,trivial⟩) ?_ ?_ ?_
 ·rintro w0 i w1 g hbw0 ⟨hi,hall⟩ hb0 hbw
  have e1:i64.wrap ((i:Int)+((1:Nat):Int))=((i+1:Nat):Int):=by rw[ax (by omega) (by omega)];rfl
  have e1':i64.wrap ((i:Int)+1)=((i+1:Nat):Int):=e1
  refine ah (P3 _ i w1 g) ?_
  rw[e1,e1',aB]
  refine ak (fun hlt=>?_) (fun hge=>cy (Fine.nil hb0) (by simp) fun β w' _ _=>.inr ⟨rfl,rfl,?_⟩)
  ·have hi':i<l.length:=by omega
   have hx:l[i]?=some l[i]:=List.getElem?_eq_getElem hi'
   refine aa (by omega) (aa (by omega) ?_)
   rw[show(i:Int).toNat=i from rfl,show((i+1:Nat):Int).toNat=i+1 from rfl,Ml hx,Pt]
   refine af (fun h=>cy (Fine.nil hb0) (by simp) fun β w' _ _=>.inl ?_) (fun h=>dM (Fine.nil hb0) fun β w' _ _=>⟨i+1,by omega,rfl,by omega,fun x hx'=>?_⟩)
   ·have h47:l[i]=47:=by simpa using h
    have:=Ef hall (by rw[hx,h47])
    exact⟨rfl,by rw[this];rfl,by omega⟩
   ·rw[List.take_add_one,hx]at hx'
    rcases List.mem_append.1 hx' with h1 |h1
    ·exact hall x h1
    ·have:x=l[i]:=by simpa using h1
     rw[this]
     simpa using h
  ·have:i=l.length:=by omega
   rw[this,List.take_length]at hall
   exact tS hall
 ·intro β w0 hst hb
  exact⟨0,rfl,Nat.zero_le _,by simp⟩
 ·rintro β w0 hst hb e lv w' (⟨rfl,rfl,h⟩ |⟨rfl,rfl,h⟩) hb0 hb1
  ·exact .inr ⟨tw l,rfl,rfl,fun g bs hbs=>aN (Fine.mk' hb1 hbs) fun β w' _ _=>by rw[if_pos h];rfl⟩
  ·exact .inl ⟨(),rfl,rfl,fun g bs hbs=>aN (Fine.mk' hb1 hbs) fun β w' _ _=>by rw[if_neg (by omega)];rfl⟩
theorem wB(l:List UInt8)(hl:l.length<2^62)(w:World):Calls Tryz.prog 214 #[.string ⟨l.toArray⟩,.string ⟨#[47]⟩] w (bF (fun v _=>v=.bool (decide (tw l<l.length))) w):=by
 refine aH (hk:=Ga) (n:=500) (args:=[.str ⟨l.toArray⟩ false,.str ⟨#[47]⟩ false]) ⟨trivial,trivial,trivial⟩ ?_
 refine ah (NI _ w) ?_
 refine gL (R:=fun(z:Int) _ _=>z=(if tw l<l.length then(tw l:Int) else -1)) (fun x=>⟨rfl,trivial⟩) (fun β wc hb=>?_) ?_
 ·refine(B6 l hl wc).mono ?_
  rintro e w' ⟨v,rfl,rfl,hb'⟩
  exact⟨_,rfl,hb',rfl⟩
 ·rintro z wc w1 hwc rfl hb
  refine aN (Fine.nil (hwc.trans (hb.mono hwc.size))) fun β w' _ _=>?_
  show Value.bool (decide _)=_
  congr 2
  split <;> simp <;> omega
end
section
open Go Go.Rx Go.RowKit
theorem Ag:∀ {l:List UInt8},(∀x∈l,x≠47)->Lib.indexByte l 47 = -1
 |[],_=>rfl
 |a :: l,h=>by
  have ha:(a == 47)=false:=by simpa using h a (by simp)
  simp[Lib.indexByte,ha,Ag (l:=l) fun x hx=>h x (by simp[hx])]
theorem CQ(b o n c:Nat)(l:List UInt8)(B:Nat)(w:World)(h:Bts w B (some ⟨b,o,none⟩) n l)(hn:∀x∈l,x≠47):Calls Tryz.prog 212 #[.slice (some ⟨b,o,none⟩) n c,.int .u8 47] w fun e w'=>e=.returned (.int .i64 (-1))/\w'=w:=by
 have hl:=h.1
 have key:=Tryz.bytes_IndexByte b o n c (l.map fun x=>(x.toNat:Int)) 47 w (by simp[hl]) (fun i hi=>?_)
 ·have e1:Lib.bytesOf (l.map fun x=>(x.toNat:Int))=l:=by
   unfold Lib.bytesOf
   rw[List.map_map]
   refine(List.map_congr_left (g:=id) fun x _=>?_).trans (List.map_id l)
   simp
  rw[e1,show((47:Int).toNat.toUInt8)=47 from rfl,Ag hn]at key
  exact key
 ·obtain⟨a,ha,hb,hx⟩:=h.2 (by omega)
  cases ha
  have hi':i<l.length:=by omega
  have:=hx i l[i] (List.getElem?_eq_getElem hi')
  rw[Nat.mul_one,Rx.add_plain]at this
  rw[this]
  simp[List.getD_eq_getElem?_getD,hi']
theorem bp{w:World}{b B c n:Nat}{L:List UInt8}{fr:Nat×Nat}(h:w.heap[b]?=some (.cells ((L.map (fun x:UInt8=>(x.toNat:Int))++List.replicate c (0:Int)).map (Value.int .u8)).toArray 5 fr))(hn:n=L.length)(hB:b<B):Bts w B (some ⟨b,0,none⟩) n L:=by
 have hb:=cp (k:=n) h (by
  intro v hv
  rcases List.mem_append.1 hv with h |h
  ·obtain⟨x,_,rfl⟩:=List.mem_map.1 h
   have:=x.toNat_lt
   omega
  ·have:=List.eq_of_mem_replicate h
   omega) (by simp;omega) hB
 have e:(((L.map (fun x:UInt8=>(x.toNat:Int))++List.replicate c (0:Int)).take n).map fun v=>UInt8.ofNat v.toNat)=L:=by
  subst hn
  rw[List.take_append_of_le_length (by simp),List.take_of_length_le (by simp),List.map_map]
  refine(List.map_congr_left (g:=id) fun x _=>?_).trans (List.map_id L)
  simp
 rw[e]at hb
 exact hb
def Nm(l:List UInt8):Prop:=l≠[]/\∀x∈l,x≠47
theorem CA(b o n c:Nat)(l:List UInt8)(B:Nat)(w:World)(h:Bts w B (some ⟨b,o,none⟩) n l)(hB:B<=w.heap.size)(hn:Nm l):Calls Tryz.prog 169 #[.slice (some ⟨b,o,none⟩) n c] w (bF NQ w):=by
 have hl:=h.1
 have h0:=List.length_pos_iff.2 hn.1
 refine aH (hk:=jT) (n:=500) (args:=[.xs (some ⟨b,o,none⟩) n c]) ⟨trivial,trivial⟩ ?_
 refine ah (Kq _ n c w) (af (fun h=>by have:=eq_of_beq h;omega) (fun _=>?_))
 refine gL (R:=fun(z:Int) _ _=>z = -1) (fun x=>⟨rfl,trivial⟩) (fun β wc hb=>?_) ?_
 ·refine(CQ b o n c l B wc (h.below (hb.mono hB) (Nat.le_refl _)) hn.2).mono ?_
  rintro e w' ⟨rfl,rfl⟩
  exact⟨_,rfl,Below.refl _ _,rfl⟩
 ·rintro z wc w1 hwc rfl hb
  exact ak (fun h=>absurd (show(-1:Int) ≥ 0 from h) (by decide)) (fun _=>aN (Fine.nil (hwc.trans (hb.mono hwc.size))) fun β w' _ _=>rfl)
theorem A9(b o n c:Nat)(l:List UInt8)(B:Nat)(w:World)(h:Bts w B (some ⟨b,o,none⟩) n l)(hB:B<=w.heap.size)(hn:Nm l):Calls Tryz.prog 174 #[.slice (some ⟨b,o,none⟩) n c] w (bF NQ w):=by
 have hl:=h.1
 have h0:=List.length_pos_iff.2 hn.1
 refine aH (hk:=jT) (n:=500) (args:=[.xs (some ⟨b,o,none⟩) n c]) ⟨trivial,trivial⟩ ?_
 refine ah (IX _ n c w) (af (fun h=>by have:=eq_of_beq h;omega) (fun _=>?_))
 refine gL (R:=fun(z:Int) _ _=>z = -1) (fun x=>⟨rfl,trivial⟩) (fun β wc hb=>?_) ?_
 ·refine(CQ b o n c l B wc (h.below (hb.mono hB) (Nat.le_refl _)) hn.2).mono ?_
  rintro e w' ⟨rfl,rfl⟩
  exact⟨_,rfl,Below.refl _ _,rfl⟩
 ·rintro z wc w1 hwc rfl hb
  exact ak (fun h=>absurd (show(-1:Int) ≥ 0 from h) (by decide)) (fun _=>aN (Fine.nil (hwc.trans (hb.mono hwc.size))) fun β w' _ _=>rfl)
theorem Cz(A:Option Addr)(n c:Nat)(l:List UInt8)(B:Nat)(w:World)(h:Bts w B A n l)(hB:B<=w.heap.size):Calls Tryz.prog 168 #[.slice A n c] w (bF (BQ l) w):=by
 refine aH (hk:=jT) (n:=500) (args:=[.xs A n c]) ⟨trivial,trivial⟩ ?_
 refine ah (Ko A n c w) (aa (h.canBytes hB (by simp)) (aN (Fine.start _ _) fun β w' _ _=>?_))
 rw[h.bytesAt]
 rfl
theorem AL(A:Option Addr)(n c:Nat)(l:List UInt8)(B:Nat)(w:World)(h:Bts w B A n l)(hB:B<=w.heap.size):Calls Tryz.prog 200 #[.slice A n c] w (bF (BQ l) w):=by
 refine aH (hk:=jT) (n:=500) (args:=[.xs A n c]) ⟨trivial,trivial⟩ ?_
 refine ah (jIO A n c w) (aa (h.canBytes hB (by simp)) (aN (Fine.start _ _) fun β w' _ _=>?_))
 rw[h.bytesAt]
 rfl
theorem A8(A:Option Addr)(n c:Nat)(l:List UInt8)(B:Nat)(w:World)(h:Bts w B A n l)(hB:B<=w.heap.size)(hn:Nm l):Calls Tryz.prog 173 #[.slice A n c] w (bF (BQ l) w):=by
 have hl:=h.1
 have h0:=List.length_pos_iff.2 hn.1
 refine aH (hk:=jT) (n:=500) (args:=[.xs A n c]) ⟨trivial,trivial⟩ ?_
 refine ah (IU A n c w) (af (fun h=>by have:=eq_of_beq h;omega) (fun _=>aa (h.canBytes hB (by simp)) (aN (Fine.start _ _) fun β w' _ _=>?_)))
 rw[h.bytesAt]
 rfl
theorem FL(l:List UInt8)(w:World):Calls Tryz.prog 199 #[.string ⟨l.toArray⟩] w (bF (SQ l w) w):=by
 refine aH (hk:=jT) (n:=500) (args:=[.str ⟨l.toArray⟩ false]) ⟨trivial,trivial⟩ ?_
 refine ah (IP _ w) (aE ?_)
 rintro c0 ⟨_,hc0⟩
 rw[aB]at hc0 ⊢
 have hcut:l.length<=c0:=hc0 ▸ bd
 refine aN (Fine.start _ _) fun β w' hst hb=>?_
 have hlt:=hst.lt 0 (by simp[SS.n])
 exact⟨β 0,0,c0,rfl,hcut,bp (hst.at_ 0 _ rfl) rfl hlt,(Fine.start _ _).new (hst.old rfl) 0 (by simp[SS.n])⟩
theorem FU(l:List UInt8)(hl:l.length<2^62)(hn:Nm l)(w:World):Calls Tryz.prog 172 #[.string ⟨l.toArray⟩] w (bF (SQ l w) w):=by
 have h0:=List.length_pos_iff.2 hn.1
 refine aH (hk:=jT) (n:=500) (args:=[.str ⟨l.toArray⟩ false]) ⟨trivial,trivial⟩ ?_
 refine ah (IW _ w) ?_
 simp only[aB]
 refine af (fun h=>by have:=eq_of_beq h;omega) (fun _=>?_)
 refine gL (R:=fun(b:Bool) _ _=>b=false) (fun x=>⟨rfl,trivial⟩) (fun β wc hb=>?_) ?_
 ·refine(wB l hl wc).mono ?_
  rintro e w' ⟨v,rfl,rfl,hb'⟩
  exact⟨_,rfl,hb',by have:=tS hn.2;simp;omega⟩
 rintro z wc w1 hwc rfl hb
 refine af (fun h=>by cases h) (fun _=>aE ?_)
 rintro c0 ⟨_,hc0⟩
 have hcut:l.length<=c0:=hc0 ▸ bd
 have hw1:=hwc.trans (hb.mono hwc.size)
 refine aN (Fine.nil hw1) fun β w' hst hb=>?_
 have hlt:=hst.lt 0 (by simp[SS.n])
 exact⟨β 0,0,c0,rfl,hcut,bp (hst.at_ 0 _ rfl) rfl hlt,(Fine.nil hw1).new (hst.old rfl) 0 (by simp[SS.n])⟩
theorem Ik(l:List UInt8)(hn:Nm l)(w:World):Calls Tryz.prog 167 #[.string ⟨l.toArray⟩] w (bF (SQ l w) w):=by
 have h0:=List.length_pos_iff.2 hn.1
 refine aH (hk:=jT) (n:=500) (args:=[.str ⟨l.toArray⟩ false]) ⟨trivial,trivial⟩ ?_
 refine ah (Kp _ w) ?_
 simp only[aB]
 refine aE ?_
 rintro c0 ⟨_,hc0⟩
 have hcut:l.length<=c0:=hc0 ▸ bd
 refine af (fun h=>by have:=eq_of_beq h;omega) (fun _=>?_)
 refine eK (R:=fun(z:Int) _ _=>z = -1) (Fine.start _ _) (fun x=>⟨rfl,trivial⟩) (fun β w0 hst ho hb=>?_) ?_
 ·have hlt:=hst.lt 0 (by simp[SS.n])
  have hb0:=bp (n:=l.length) (hst.at_ 0 _ rfl) rfl hlt
  refine(CQ (β 0) 0 l.length c0 l _ w0 hb0 hn.2).mono ?_
  rintro e w' ⟨rfl,rfl⟩
  exact⟨_,rfl,Below.refl _ _,rfl⟩
 ·rintro z w1 w2 bs _ rfl _ hb hbs
  refine ak (fun h=>by omega) (fun _=>aN (Fine.mk' hb hbs) fun β w' hst hb'=>?_)
  have hlt:=hst.lt 0 (by simp[SS.n])
  exact⟨β 0,0,c0,rfl,hcut,bp (hst.at_ 0 _ rfl) rfl hlt,(Fine.mk' hb hbs).new (hst.old rfl) 0 (by simp[SS.n])⟩
def Pth(l:List UInt8):Prop:=2<=l.length/\l.getD 0 0=47/\l.getD (l.length-1) 0≠47
theorem AM(A:Option Addr)(n c:Nat)(l:List UInt8)(B:Nat)(w:World)(h:Bts w B A n l)(hB:B<=w.heap.size)(hp:Pth l)(hn:l.length<2^62):Calls Tryz.prog 201 #[.slice A n c] w (bF NQ w):=by
 have hl:=h.1
 subst hl
 obtain⟨h2,hf,hlast⟩:=hp
 refine aH (hk:=jT) (n:=500) (args:=[.xs A l.length c]) ⟨trivial,trivial⟩ ?_
 obtain⟨b1,b2,b3⟩:=bm (bs:=[]) h hB (Below.refl _ _) (by simp) 0 (by omega)
 have e1:i64.wrap ((l.length:Int)-1)=((l.length-1:Nat):Int):=by rw[ax (by omega) (by omega)];omega
 obtain⟨c1,c2,c3⟩:=mQ (bs:=[]) h hB (Below.refl _ _) (by simp) e1 (by omega)
 refine ah (IQ A l.length c w) (ak (fun h=>by omega) (fun _=>aa (by omega) (aa b1 (aa b2 ?_))))
 rw[b3,hf]
 refine af (fun h=>by simp at h) (fun _=>aa (by omega) (aa c1 (aa c2 ?_)))
 rw[c3]
 refine af (fun h=>?_) (fun _=>aN (Fine.start _ _) fun β w' _ _=>rfl)
 have:=eq_of_beq h
 exact absurd (UInt8.toNat_inj.1 (show(l.getD (l.length-1) 0).toNat=(47:UInt8).toNat by have e:(47:UInt8).toNat=47:=rfl;omega)) hlast
end
section
open Go Go.Rx Go.RowKit
def Af:Hooks:={ calls:=fun f=>if f=206 then some aW else if f=207 then some aL else none,loops:=fun _ _=>none }
theorem t164(A:Option Addr)(n c:Nat)(w:World):am Tryz.prog Af 500 164 [.xs A n c] (SS.mk [] [] true w []) =
 (.hc 207 [(.xs A n c)] (SS.mk [] [] true w []) (aL) fun x0 w0 b0=>
 (.leaf .ret [(.tup [(.str x0 false),(.one .nilIface rfl)])] (SS.mk [] [] true w0 b0))):=by kernel_rfl
theorem NG(A:Option Addr)(n c:Nat)(w:World):am Tryz.prog Af 500 171 [.xs A n c] (SS.mk [] [] true w []) =
 (.hc 206 [(.xs A n c)] (SS.mk [] [] true w []) (aW) fun x0 w0 b0=>
 (.split (!x0.A.isNone)
  (.hc 207 [(.xs x0.A x0.k x0.c)] (SS.mk [] [] true w0 b0) (aL) fun x1 w1 b1=>
  (.need ((↑((7:Nat)+ByteArray.size x1):Int)<=i64.max)
  (.leaf .ret [(.tup [(.str (ByteArray.mk #[(58:UInt8),(58:UInt8),(102:UInt8),(102:UInt8),(102:UInt8),(102:UInt8),(58:UInt8)]++x1) false),(.one .nilIface rfl)])] (SS.mk [] [] true w1 b1))))
  (.hc 207 [(.xs A n c)] (SS.mk [] [] true w0 b0) (aL) fun x1 w1 b1=>
  (.leaf .ret [(.tup [(.str x1 false),(.one .nilIface rfl)])] (SS.mk [] [] true w1 b1))))):=by kernel_rfl
end
section
open Go Go.Rx Go.RowKit
@[reducible] def rX:Hook:={ X:=Int,out:=fun _ s x=>(.int .i64 x false,s.objs) }
structure P6 where
 s:ByteArray
 e:Int
 i:Nat
 l:List Int
structure O6 where
 s:ByteArray
 e:Int
 i:Nat
 q:Nat->Int
structure F6 where
 e:Int
 n:Int
 j:Int
 l:List Int
structure G6 where
 e:Int
 n:Int
 q:Nat->Int
@[reducible] def gn:List SV:=[.int .u8 0 true,.int .u8 0 true,.int .u8 0 true,.int .u8 0 true,.int .u8 0 true,.int .u8 0 true,.int .u8 0 true,.int .u8 0 true,.int .u8 0 true,.int .u8 0 true,.int .u8 0 true,.int .u8 0 true,.int .u8 0 true,.int .u8 0 true,.int .u8 0 true,.int .u8 0 true]
@[reducible] def cq(q:Nat->Int):List SV:=[.int .u8 (q 0) false,.int .u8 (q 1) false,.int .u8 (q 2) false,.int .u8 (q 3) false,.int .u8 (q 4) false,.int .u8 (q 5) false,.int .u8 (q 6) false,.int .u8 (q 7) false,.int .u8 (q 8) false,.int .u8 (q 9) false,.int .u8 (q 10) false,.int .u8 (q 11) false,.int .u8 (q 12) false,.int .u8 (q 13) false,.int .u8 (q 14) false,.int .u8 (q 15) false]
@[reducible] def aV(l:List Int):List SObj:=[.cells gn 16 188 0 0,.ints .u8 l 188 0 0]
@[reducible] def bM(q:Nat->Int):List SObj:=[.cells gn 16 188 0 0,.cells (cq q) 16 188 0 0]
def xX:SE->List Nat
 | .normal=>[0,2,3,4,5,6]
 | .exit _=>[0,2,3,4,5,6]
 |_=>[]
def sM:SE->List Nat
 | .normal=>[0,2,3,4,5,6,7,8]
 | .exit _=>[0,2,3,4,5,6,7,8]
 |_=>[]
def Bc:SE->List Nat
 | .normal=>[2,3,4,5,9,10]
 | .exit _=>[2,3,4,5,9]
 |_=>[]
def Bd:SE->List Nat
 | .normal=>[2,3,4,5,9,11]
 | .exit _=>[2,3,4]
 |_=>[]
@[reducible] def gb(z:P6):List SV:=[.str z.s false,.ptr 0 0,.bool false true,.ptr 1 0,.int .i64 z.e false,.int .i64 z.i false]
@[reducible] def qq(z:O6):List SV:=[.str z.s false,.ptr 0 0,.bool false true,.ptr 1 0,.int .i64 z.e false,.int .i64 z.i false]
@[reducible] def iE(z:P6)(p:Nat×Nat):List SV:=[.str z.s false,.ptr 0 0,.bool false true,.ptr 1 0,.int .i64 z.e false,.int .i64 z.i false,.int .i64 p.1 false,.int .i64 p.2 false]
@[reducible] def og(z:F6):List SV:=[.ptr 0 0,.bool false true,.ptr 1 0,.int .i64 z.e false,.int .i64 z.n false,.int .i64 z.j false]
@[reducible] def F5(z:G6):List SV:=[.ptr 0 0,.bool false true,.ptr 1 0,.int .i64 z.e false,.int .i64 z.n false]
@[reducible] def F7:List SV:=[.ptr 0 0,.bool false true,.ptr 1 0]
def cH(z:P6):LoopHook:=bv 172 (Nat×Nat) (.exit 2) [0,2,3,4,5,6,7,8] (iE z) (fun _=>aV z.l) Unit .ret [] (fun _=>[]) (fun _=>aV z.l)
def dL:LoopHook:=bv 172 O6 (.exit 0) [0,2,3,4,5,6] qq (fun z=>bM z.q) Unit .ret [] (fun _=>[]) (fun _=>bM fun _=>0)
def jq:LoopHook:=bv 172 G6 (.exit 4) [2,3,4,5,9] F5 (fun z=>bM z.q) Unit .ret [] (fun _=>[]) (fun _=>bM fun _=>0)
def kA:LoopHook:=bv 172 (Nat->Int) (.exit 6) [2,3,4] (fun _=>F7) bM Unit .ret [] (fun _=>[]) (fun _=>bM fun _=>0)
def Bs(z:P6):Hooks:={ calls:=fun f=>if f=300 then some bl else if f=351 then some rX else none,loops:=fun _ _=>some (cH z) }
def p9:Hooks:={ calls:=fun _=>none,loops:=fun _ k=>if k=10 then some dL else if k=44 then some jq else some kA }
noncomputable abbrev zH(x:UInt8)(w:World):T:=(.split (decide ((↑x.toNat:Int) ≥ (65:Int))) (.split (decide ((↑x.toNat:Int)<=(70:Int))) (.leaf .ret [(.int .i64 (i64.wrap (i64.wrap (u8.wrap ((↑x.toNat:Int)-(65:Int)))+(10:Int))) false)] (SS.mk [] [] true w [])) (.leaf .ret [(.int .i64 (-1) true)] (SS.mk [] [] true w []))) (.leaf .ret [(.int .i64 (-1) true)] (SS.mk [] [] true w [])))
noncomputable abbrev vg(x:UInt8)(w:World):T:=(.split (decide ((↑x.toNat:Int) ≥ (97:Int))) (.split (decide ((↑x.toNat:Int)<=(102:Int))) (.leaf .ret [(.int .i64 (i64.wrap (i64.wrap (u8.wrap ((↑x.toNat:Int)-(97:Int)))+(10:Int))) false)] (SS.mk [] [] true w [])) (zH x w)) (zH x w))
theorem HJ(x:UInt8)(w:World):am Tryz.prog au 500 351 [.int .u8 x.toNat false] (SS.mk [] [] true w []) =
(.split (decide ((↑x.toNat:Int) ≥ (48:Int))) (.split (decide ((↑x.toNat:Int)<=(57:Int))) (.leaf .ret [(.int .i64 (i64.wrap (u8.wrap ((↑x.toNat:Int)-(48:Int)))) false)] (SS.mk [] [] true w [])) (vg x w)) (vg x w)):=by kernel_rfl
theorem NM(x:UInt8)(w:World):(by have h:=HJ x w;unfold vg zH at h;exact type_of% h):=HJ x w
noncomputable abbrev gI:SObj:=(.cells [(.int .u8 0 true),(.int .u8 0 true),(.int .u8 0 true),(.int .u8 0 true),(.int .u8 0 true),(.int .u8 0 true),(.int .u8 0 true),(.int .u8 0 true),(.int .u8 0 true),(.int .u8 0 true),(.int .u8 0 true),(.int .u8 0 true),(.int .u8 0 true),(.int .u8 0 true),(.int .u8 0 true),(.int .u8 0 true)] 16 188 0 0)
noncomputable abbrev vi(z:P6)(g:Nat->Value):List SV:=[(.str z.s false),(.raw (g 1)),(.ptr 0 0),(.bool false true),(.ptr 1 0),(.int .i64 z.e false),(.int .i64 ((↑z.i:Int)) false),(.int .i64 0 true),(.int .i64 0 true),(.raw (g 9)),(.raw (g 10)),(.raw (g 11)),(.raw (g 12)),(.raw (g 13)),(.raw (g 14)),(.raw (g 15)),(.raw (g 16)),(.raw (g 17)),(.raw (g 18)),(.raw (g 19)),(.raw (g 20)),(.raw (g 21)),(.raw (g 22)),(.raw (g 23)),(.raw (g 24)),(.raw (g 25)),(.raw (g 26)),(.raw (g 27)),(.raw (g 28)),(.raw (g 29)),(.raw (g 30)),(.int .i64 ((↑z.i:Int)) false),(.bool true true),(.raw (g 33)),(.raw (g 34)),(.raw (g 35)),(.raw (g 36)),(.raw (g 37)),(.raw (g 38)),(.raw (g 39)),(.raw (g 40)),(.raw (g 41)),(.raw (g 42)),(.raw (g 43)),(.raw (g 44)),(.raw (g 45)),(.raw (g 46)),(.raw (g 47)),(.raw (g 48)),(.raw (g 49)),(.raw (g 50)),(.raw (g 51)),(.raw (g 52)),(.raw (g 53)),(.raw (g 54)),(.raw (g 55)),(.raw (g 56)),(.raw (g 57)),(.raw (g 58)),(.raw (g 59)),(.raw (g 60)),(.raw (g 61)),(.raw (g 62)),(.raw (g 63)),(.raw (g 64)),(.raw (g 65)),(.raw (g 66)),(.raw (g 67)),(.raw (g 68)),(.raw (g 69)),(.raw (g 70)),(.raw (g 71)),(.raw (g 72)),(.raw (g 73)),(.raw (g 74)),(.raw (g 75)),(.raw (g 76)),(.raw (g 77)),(.raw (g 78)),(.raw (g 79)),(.raw (g 80)),(.raw (g 81)),(.raw (g 82)),(.raw (g 83)),(.raw (g 84)),(.raw (g 85)),(.raw (g 86)),(.raw (g 87)),(.raw (g 88)),(.raw (g 89)),(.raw (g 90)),(.raw (g 91)),(.raw (g 92)),(.raw (g 93)),(.raw (g 94)),(.raw (g 95)),(.raw (g 96)),(.raw (g 97)),(.raw (g 98)),(.raw (g 99)),(.raw (g 100)),(.raw (g 101)),(.raw (g 102)),(.raw (g 103)),(.raw (g 104)),(.raw (g 105)),(.raw (g 106)),(.raw (g 107)),(.raw (g 108)),(.raw (g 109)),(.raw (g 110)),(.raw (g 111)),(.raw (g 112)),(.raw (g 113)),(.raw (g 114)),(.raw (g 115)),(.raw (g 116)),(.raw (g 117)),(.raw (g 118)),(.raw (g 119)),(.raw (g 120)),(.raw (g 121)),(.raw (g 122)),(.raw (g 123)),(.raw (g 124)),(.raw (g 125)),(.raw (g 126)),(.raw (g 127)),(.raw (g 128)),(.raw (g 129)),(.raw (g 130)),(.raw (g 131)),(.raw (g 132)),(.raw (g 133)),(.raw (g 134)),(.raw (g 135)),(.raw (g 136)),(.raw (g 137)),(.raw (g 138)),(.raw (g 139)),(.raw (g 140)),(.raw (g 141)),(.raw (g 142)),(.raw (g 143)),(.raw (g 144)),(.raw (g 145)),(.raw (g 146)),(.raw (g 147)),(.raw (g 148)),(.raw (g 149)),(.raw (g 150)),(.raw (g 151)),(.raw (g 152)),(.raw (g 153)),(.raw (g 154)),(.raw (g 155)),(.raw (g 156)),(.raw (g 157)),(.raw (g 158)),(.raw (g 159)),(.raw (g 160)),(.raw (g 161)),(.raw (g 162)),(.raw (g 163)),(.raw (g 164)),(.raw (g 165)),(.raw (g 166)),(.raw (g 167)),(.raw (g 168)),(.raw (g 169)),(.raw (g 170)),(.raw (g 171))]
noncomputable abbrev kr(z:P6)(k0_:Int):SV:=(.int .i64 (i64.wrap ((↑z.i:Int)+k0_)) false)
noncomputable abbrev zG(z:P6)(x0:(LoopHook.X (cH z))):List SV:=[(.str (((z.s.extract (↑x0.fst.fst:Int).toNat z.s.size).extract 1 (z.s.extract (↑x0.fst.fst:Int).toNat z.s.size).size).extract 1 ((z.s.extract (↑x0.fst.fst:Int).toNat z.s.size).extract 1 (z.s.extract (↑x0.fst.fst:Int).toNat z.s.size).size).size) false),(.ptr 0 0),(.bool false true),(.ptr 1 0),(kr z (2:Int)),(kr z (2:Int))]
noncomputable abbrev EK(z:P6)(x0:(LoopHook.X (cH z))):Bool:=((↑((#[].extract 0 0++(#[].extract 0 0++z.s.data.extract (↑x0.fst.fst:Int).toNat ((↑x0.fst.fst:Int).toNat+(z.s.size-(↑x0.fst.fst:Int).toNat))++#[].extract (0+min (z.s.size-(↑x0.fst.fst:Int).toNat) (z.s.data.size-(↑x0.fst.fst:Int).toNat)) 0).extract 1 (1+((z.s.extract (↑x0.fst.fst:Int).toNat z.s.size).size-1))++#[].extract (0+min ((z.s.extract (↑x0.fst.fst:Int).toNat z.s.size).size-1) ((#[].extract 0 0++z.s.data.extract (↑x0.fst.fst:Int).toNat ((↑x0.fst.fst:Int).toNat+(z.s.size-(↑x0.fst.fst:Int).toNat))++#[].extract (0+min (z.s.size-(↑x0.fst.fst:Int).toNat) (z.s.data.size-(↑x0.fst.fst:Int).toNat)) 0).size-1)) 0).toList.getD 0 (0:UInt8)).toNat:Int) == (58:Int))
noncomputable abbrev zI(z:P6):List SV:=[(.str z.s false),(.slc 1 (if 16=(↑z.i:Int).toNat then 0 else 0+(↑z.i:Int).toNat*1) ((i64.wrap ((↑z.i:Int)+(4:Int))).toNat-(↑z.i:Int).toNat) (16-(↑z.i:Int).toNat) false false)]
noncomputable abbrev zJ(z:P6)(x0:(LoopHook.X (cH z))):Int:=(u8.wrap ((↑x0.fst.snd:Int).fdiv ((2:Int)^8)))
noncomputable abbrev rv(z:P6)(x0:(LoopHook.X (cH z))):Int:=(↑(z.s.extract (↑x0.fst.fst:Int).toNat z.s.size).size:Int)
noncomputable abbrev zK(z:P6)(x0:(LoopHook.X (cH z))):Int:=(↑((z.s.extract (↑x0.fst.fst:Int).toNat z.s.size).extract 1 (z.s.extract (↑x0.fst.fst:Int).toNat z.s.size).size).size:Int)
noncomputable abbrev AP(z:P6)(x0:(LoopHook.X (cH z))):Bool:=((↑((#[].extract 0 0++z.s.data.extract (↑x0.fst.fst:Int).toNat ((↑x0.fst.fst:Int).toNat+(z.s.size-(↑x0.fst.fst:Int).toNat))++#[].extract (0+min (z.s.size-(↑x0.fst.fst:Int).toNat) (z.s.data.size-(↑x0.fst.fst:Int).toNat)) 0).toList.getD 0 (0:UInt8)).toNat:Int) != (58:Int))
noncomputable abbrev AQ(z:P6)(x0:(LoopHook.X (cH z))):Bool:=((↑(((z.s.extract (↑x0.fst.fst:Int).toNat z.s.size).extract 1 (z.s.extract (↑x0.fst.fst:Int).toNat z.s.size).size).extract 1 ((z.s.extract (↑x0.fst.fst:Int).toNat z.s.size).extract 1 (z.s.extract (↑x0.fst.fst:Int).toNat z.s.size).size).size).size:Int) == (0:Int))
noncomputable abbrev mH(z:P6)(x0:(LoopHook.X (cH z)))(w0:World)(b0:List Nat):SS:=(SS.mk [gI,(.ints .u8 ((z.l.set (0+(↑z.i:Int).toNat*1) (zJ z x0)).set (0+(i64.wrap ((↑z.i:Int)+(1:Int))).toNat*1) (u8.wrap (↑x0.fst.snd:Int))) 188 0 0)] [] true w0 b0)
noncomputable abbrev ve(z:P6)(x0:(LoopHook.X (cH z)))(w0:World)(b0:List Nat):T:=(.need ((0:Int)<=(↑z.i:Int)/\(↑z.i:Int)<(↑(16:Nat):Int)) (.need (0+(↑z.i:Int).toNat*1<z.l.length) (.need (ap 0 0 (0+(↑z.i:Int).toNat*1) 1=true) (.need ((0:Int)<=i64.wrap ((↑z.i:Int)+(1:Int))/\i64.wrap ((↑z.i:Int)+(1:Int))<(↑(16:Nat):Int)) (.need (0+(i64.wrap ((↑z.i:Int)+(1:Int))).toNat*1<(z.l.set (0+(↑z.i:Int).toNat*1) (zJ z x0)).length) (.need (ap 0 0 (0+(i64.wrap ((↑z.i:Int)+(1:Int))).toNat*1) 1=true) (.need ((0:Int)<=(↑x0.fst.fst:Int)/\(↑x0.fst.fst:Int)<=(↑z.s.size:Int)) (.split ((rv z x0) == (0:Int)) (.leaf (.exit 0) [(.str (z.s.extract (↑x0.fst.fst:Int).toNat z.s.size) false),(.ptr 0 0),(.bool false true),(.ptr 1 0),(.int .i64 z.e false),(kr z (2:Int))] (mH z x0 w0 b0)) (.need ((0:Int)<=(0:Int)/\(0:Int)<(rv z x0)) (.split (AP z x0) (.bad "load: cells not tracked") (.split ((rv z x0) == (1:Int)) (.bad "load: cells not tracked") (.need ((0:Int)<=(1:Int)/\(1:Int)<=(rv z x0)) (.need ((0:Int)<=(0:Int)/\(0:Int)<(zK z x0)) (.split (EK z x0) (.split (decide (z.e ≥ (0:Int))) (.bad "load: cells not tracked") (.need ((0:Int)<=(1:Int)/\(1:Int)<=(zK z x0)) (.split (AQ z x0) (.leaf (.exit 0) (zG z x0) (mH z x0 w0 b0)) (.leaf .normal (zG z x0) (mH z x0 w0 b0))))) (.leaf .normal [(.str ((z.s.extract (↑x0.fst.fst:Int).toNat z.s.size).extract 1 (z.s.extract (↑x0.fst.fst:Int).toNat z.s.size).size) false),(.ptr 0 0),(.bool false true),(.ptr 1 0),(.int .i64 z.e false),(kr z (2:Int))] (mH z x0 w0 b0))))))))))))))))
noncomputable abbrev cz(z:P6)(w:World)(bs:List Nat):SS:=(SS.mk [gI,(.ints .u8 z.l 188 0 0)] [] true w bs)
noncomputable abbrev vf(z:P6)(w0:World)(b0:List Nat):T:=(.split (decide (i64.wrap ((↑z.i:Int)+(4:Int)) > (16:Int))) (.bad "load: cells not tracked") (.need ((0:Int)<=i64.wrap ((↑z.i:Int)+(4:Int))/\i64.wrap ((↑z.i:Int)+(4:Int))<=(↑(16:Nat):Int)) (.need ((0:Int)<=(↑z.i:Int)/\(↑z.i:Int)<=(↑(i64.wrap ((↑z.i:Int)+(4:Int))).toNat:Int)) (.call 300 (zI z) (cz z w0 b0) (Hook.X (bl)) (Hook.out (bl) (zI z) (cz z w0 b0)) fun x1 w1 b1=>(.split (!x1) (.bad "load: cells not tracked") (.leaf (.exit 0) [(.str (ByteArray.mk #[]) true),(.ptr 0 0),(.bool false true),(.ptr 1 0),(.int .i64 z.e false),(kr z (4:Int))] (cz z w1 b1)))))))
theorem Hs(z:P6)(w:World)(bs:List Nat)(g:Nat->Value):aK Tryz.prog (Bs z) 1000 301 (ar Tryz.prog 301 10) (az ((xX .normal).zip (gb z)) g 172 0) (fun e a s=>.leaf e (ep xX e a) s) (SS.mk (aV z.l) [] true w bs) =
(.split (decide ((↑z.i:Int)<(16:Int))) (.loop 301 (ar Tryz.prog 301 12) (vi z g) (cz z w bs) (LoopHook.X (cH z)) (LoopHook.out (cH z) (vi z g) (cz z w bs)) (fun x0 w0 b0=>(.split ((↑x0.fst.fst:Int) == (0:Int)) (.bad "load: cells not tracked") (.split (decide ((↑x0.fst.fst:Int)<(↑z.s.size:Int))) (.need ((0:Int)<=(↑x0.fst.fst:Int)/\(↑x0.fst.fst:Int)<(↑z.s.size:Int)) (.split ((↑(z.s.data.toList.getD (↑x0.fst.fst:Int).toNat (0:UInt8)).toNat:Int) == (46:Int)) (.split (decide (z.e<(0:Int))) (.split ((↑z.i:Int) != (12:Int)) (.bad "load: cells not tracked") (vf z w0 b0)) (vf z w0 b0)) (ve z x0 w0 b0))) (ve z x0 w0 b0)))) (LoopHook.Y (cH z)) (LoopHook.out' (cH z) (vi z g) (cz z w bs)) (fun x0 w0 b0=>(.leaf .ret [] (cz z w0 b0)))) (.leaf (.exit 0) [(.str z.s false),(.ptr 0 0),(.bool false true),(.ptr 1 0),(.int .i64 z.e false),(.int .i64 ((↑z.i:Int)) false)] (cz z w bs))):=by kernel_rfl
theorem Ns(z:P6)(w:World)(bs:List Nat)(g:Nat->Value):(by have h:=Hs z w bs g;unfold vf cz ve mH AQ AP zK rv zJ zI EK zG kr vi gI at h;exact type_of% h):=Hs z w bs g
noncomputable abbrev mG(z:P6)(p:Nat×Nat):SV:=(.int .u8 ((↑(z.s.data.toList.getD (↑p.fst:Int).toNat (0:UInt8)).toNat:Int)) false)
noncomputable abbrev vh(z:P6)(p:Nat×Nat)(w0:World)(b0:List Nat):T:=(.leaf (.exit 2) [(.str z.s false),(.ptr 0 0),(.bool false true),(.ptr 1 0),(.int .i64 z.e false),(.int .i64 ((↑z.i:Int)) false),(.int .i64 ((↑p.fst:Int)) false),(.int .i64 ((↑p.snd:Int)) false)] (cz z w0 b0))
theorem DP(z:P6)(p:Nat×Nat)(w:World)(bs:List Nat)(g:Nat->Value):aK Tryz.prog (Bs z) 1000 301 (ar Tryz.prog 301 12) (az ((sM .normal).zip (iE z p)) g 172 0) (fun e a s=>.leaf e (ep sM e a) s) (SS.mk (aV z.l) [] true w bs) =
(.split (decide ((↑p.fst:Int)<(↑z.s.size:Int))) (.need ((0:Int)<=(↑p.fst:Int)/\(↑p.fst:Int)<(↑z.s.size:Int)) (.call 351 [(mG z p)] (cz z w bs) (Hook.X (rX)) (Hook.out (rX) [(mG z p)] (cz z w bs)) fun x0 w0 b0=>(.split (decide (x0 ≥ (0:Int))) (.need ((0:Int)<=(↑p.fst:Int)/\(↑p.fst:Int)<(↑z.s.size:Int)) (.call 351 [(mG z p)] (cz z w0 b0) (Hook.X (rX)) (Hook.out (rX) [(mG z p)] (cz z w0 b0)) fun x1 w1 b1=>(.split (decide ((↑p.fst:Int) > (3:Int))) (.bad "load: cells not tracked") (.leaf .normal [(.str z.s false),(.ptr 0 0),(.bool false true),(.ptr 1 0),(.int .i64 z.e false),(.int .i64 ((↑z.i:Int)) false),(.int .i64 (i64.wrap ((↑p.fst:Int)+(1:Int))) false),(.int .i64 (i64.wrap (i64.wrap ((↑p.snd:Int)*(2:Int)^4)+x1)) false)] (cz z w1 b1))))) (vh z p w0 b0)))) (vh z p w bs)):=by kernel_rfl
theorem Ht(z:P6)(p:Nat×Nat)(w:World)(bs:List Nat)(g:Nat->Value):(by have h:=DP z p w bs g;unfold vh cz mG gI at h;exact type_of% h):=DP z p w bs g
theorem DQ(z:F6)(w:World)(bs:List Nat)(g:Nat->Value):aK Tryz.prog p9 1000 301 (ar Tryz.prog 301 44) (az ((Bc .normal).zip (og z)) g 172 0) (fun e a s=>.leaf e (ep Bc e a) s) (SS.mk (aV z.l) [] true w bs) =
(.split (decide (z.j ≥ z.e)) (.need ((0:Int)<=z.j/\z.j<(↑(16:Nat):Int)) (.need (0+z.j.toNat*1<z.l.length) (.need ((0:Int)<=i64.wrap (z.j+z.n)/\i64.wrap (z.j+z.n)<(↑(16:Nat):Int)) (.need (0+(i64.wrap (z.j+z.n)).toNat*1<z.l.length) (.need (ap 0 0 (0+(i64.wrap (z.j+z.n)).toNat*1) 1=true) (.leaf .normal [(.ptr 0 0),(.bool false true),(.ptr 1 0),(.int .i64 z.e false),(.int .i64 z.n false),(.int .i64 (i64.wrap (z.j-(1:Int))) false)] (SS.mk [gI,(.ints .u8 (z.l.set (0+(i64.wrap (z.j+z.n)).toNat*1) (z.l.getD (0+z.j.toNat*1) (0:Int))) 188 0 0)] [] true w bs))))))) (.leaf (.exit 4) [(.ptr 0 0),(.bool false true),(.ptr 1 0),(.int .i64 z.e false),(.int .i64 z.n false)] (SS.mk [gI,(.ints .u8 z.l 188 0 0)] [] true w bs))):=by kernel_rfl
theorem Lc(z:F6)(w:World)(bs:List Nat)(g:Nat->Value):(by have h:=DQ z w bs g;unfold gI at h;exact type_of% h):=DQ z w bs g
theorem DR(z:F6)(w:World)(bs:List Nat)(g:Nat->Value):aK Tryz.prog p9 1000 301 (ar Tryz.prog 301 48) (az ((Bd .normal).zip (og z)) g 172 0) (fun e a s=>.leaf e (ep Bd e a) s) (SS.mk (aV z.l) [] true w bs) =
(.split (decide (z.j<i64.wrap (z.e+z.n))) (.need ((0:Int)<=z.j/\z.j<(↑(16:Nat):Int)) (.need (0+z.j.toNat*1<z.l.length) (.need (ap 0 0 (0+z.j.toNat*1) 1=true) (.leaf .normal [(.ptr 0 0),(.bool false true),(.ptr 1 0),(.int .i64 z.e false),(.int .i64 z.n false),(.int .i64 (i64.wrap (z.j+(1:Int))) false)] (SS.mk [gI,(.ints .u8 (z.l.set (0+z.j.toNat*1) (0:Int)) 188 0 0)] [] true w bs))))) (.leaf (.exit 6) [(.ptr 0 0),(.bool false true),(.ptr 1 0)] (SS.mk [gI,(.ints .u8 z.l 188 0 0)] [] true w bs))):=by kernel_rfl
theorem Ld(z:F6)(w:World)(bs:List Nat)(g:Nat->Value):(by have h:=DR z w bs g;unfold gI at h;exact type_of% h):=DR z w bs g
def gN(x:UInt8):Int:=if 48<=x.toNat/\x.toNat<=57 then(x.toNat:Int)-48 else if 97<=x.toNat/\x.toNat<=102 then(x.toNat:Int)-87 else if 65<=x.toNat/\x.toNat<=70 then(x.toNat:Int)-55 else -1
theorem tT{n:Int}(h0:0<=n)(h1:n<256):u8.wrap n=n:=by
 obtain⟨m,rfl⟩:=Int.eq_ofNat_of_zero_le h0
 exact gg (by omega)
theorem B2(x:UInt8)(w:World):Calls Tryz.prog 351 #[.int .u8 (x.toNat:Int)] w (bF (fun v _=>v=.int .i64 (gN x)) w):=by
 refine aH (hk:=au) (n:=500) (args:=[.int .u8 x.toNat false]) ⟨trivial,trivial⟩ ?_
 have hx:=x.toNat_lt
 refine ah (NM x w) ?_
 have leafD:∀(z:Int) (b:Bool),z=gN x->(T.leaf .ret [.int .i64 z b] (SS.mk [] [] true w [])).holds (cS Tryz.prog (bC fun v w'=>v=.int .i64 (gN x)/\Below w.heap.size w w')):=fun z b hz=>by
  subst hz
  exact aN (Fine.start w _) fun β w' _ _=>rfl
 repeat' (refine ak (fun _=>?_) (fun _=>?_))
 all_goals
  refine leafD _ _ ?_
  first
   |(rw[tT (by omega) (by omega),show i64.wrap ((x.toNat:Int)-97)=(x.toNat:Int)-97 from ax (by omega) (by omega),ax (by omega) (by omega)];unfold gN;(repeat' split) <;> omega)
   |(rw[tT (by omega) (by omega),show i64.wrap ((x.toNat:Int)-65)=(x.toNat:Int)-65 from ax (by omega) (by omega),ax (by omega) (by omega)];unfold gN;(repeat' split) <;> omega)
   |(rw[tT (by omega) (by omega),ax (by omega) (by omega)];unfold gN;(repeat' split) <;> omega)
   |(unfold gN;(repeat' split) <;> omega)
end
section
open Go Go.Rx Go.RowKit
def bg(n:Nat):List Nat:=if h:n<16 then[n] else bg (n/16)++[n%16]
termination_by n
decreasing_by omega
theorem dA{n:Nat}(h:n<16):bg n=[n]:=by
 rw[bg];simp[h]
theorem fD{n:Nat}(h:¬n<16):bg n=bg (n/16)++[n%16]:=by
 rw[bg];simp[h]
theorem cw(n:Nat):ay n=(bg n).map bR:=by
 induction n using Nat.strongRecOn with
 |_ n ih=>
  by_cases h:n<16
  ·rw[ez h,dA h];rfl
  ·rw[fv h,fD h,ih _ (by omega)];simp
theorem lW(n:Nat):∀d∈bg n,d<16:=by
 induction n using Nat.strongRecOn with
 |_ n ih=>
  by_cases h:n<16
  ·rw[dA h];simpa using h
  ·rw[fD h]
   intro d hd
   rcases List.mem_append.1 hd with hd |hd
   ·exact ih _ (by omega) d hd
   ·simp at hd;omega
def bP(l:List Nat):Nat:=l.foldl (fun a d=>a*16+d) 0
theorem ib(l:List Nat)(d:Nat):bP (l++[d])=bP l*16+d:=by simp[bP]
theorem yq(n:Nat):bP (bg n)=n:=by
 induction n using Nat.strongRecOn with
 |_ n ih=>
  by_cases h:n<16
  ·rw[dA h];simp[bP]
  ·rw[fD h,ib,ih _ (by omega)];omega
theorem jS:∀(k n:Nat),n<16^(k+1)->(bg n).length<=k+1
 |0,n,h=>by rw[dA (by simpa using h)];simp
 |k+1,n,h=>by
  by_cases h16:n<16
  ·rw[dA h16];simp
  ·rw[fD h16]
   have:=jS k (n/16) (Nat.div_lt_of_lt_mul (by rw[Nat.pow_succ]at h;omega))
   simp
   omega
theorem mW(n:Nat):0<(bg n).length:=by
 by_cases h:n<16
 ·rw[dA h];simp
 ·rw[fD h];simp
theorem oh:∀(l:List Nat) (a:Nat),(∀d∈l,d<16)->l.foldl (fun a d=>a*16+d) a<(a+1)*16^l.length
 |[],a,_=>by simp
 |d :: l,a,h=>by
  have h1:=oh l (a*16+d) fun x hx=>h x (List.mem_cons_of_mem _ hx)
  have h2:=h d List.mem_cons_self
  have h3:(a*16+d+1)*16^l.length<=((a+1)*16)*16^l.length:=Nat.mul_le_mul_right _ (by omega)
  rw[List.length_cons,Nat.pow_succ,Nat.mul_comm (16^l.length) 16,<- Nat.mul_assoc]
  exact Nat.lt_of_lt_of_le h1 h3
theorem p7(l:List Nat)(h:∀d∈l,d<16):bP l<16^l.length:=by
 have:=oh l 0 h
 unfold bP
 simpa using this
theorem hG:∀d:Nat,d<16->gN (bR d)=(d:Int):=by decide
theorem o7:∀d:Nat,d<16->bR d≠58/\bR d≠46/\bR d≠37:=by decide
theorem n9:gN 58 = -1:=by decide
def pL(G:List Nat):List Int:=G.flatMap fun g=>[((g/256:Nat):Int),((g%256:Nat):Int)]
theorem wL(G:List Nat)(g:Nat):pL (G++[g])=pL G++[((g/256:Nat):Int),((g%256:Nat):Int)]:=by simp[pL]
theorem yd(G H:List Nat):pL (G++H)=pL G++pL H:=by simp[pL]
theorem oX(G:List Nat):(pL G).length=2*G.length:=by
 induction G with
 |nil=>rfl
 |cons g r ih=>
  have:pL (g :: r)=[((g/256:Nat):Int),((g%256:Nat):Int)]++pL r:=by simp[pL]
  rw[this,List.length_append,ih]
  simp
  omega
def bh:Option (List Nat)->List UInt8
 |none=>[]
 |some B=>58 :: 58 :: jn B
theorem lY(y:Nat)(r:List Nat):∃d t,d<16/\jn (y :: r)=bR d :: t:=by
 have h1:∃d t,d<16/\ay y=bR d :: t:=by
  rw[cw]
  have h2:=lW y
  have h3:=mW y
  cases hd:bg y with
  |nil=>rw[hd]at h3;simp at h3
  |cons d t=>exact⟨d,t.map bR,h2 d (by rw[hd];simp),rfl⟩
 obtain⟨d,t,h2,h3⟩:=h1
 cases r with
 |nil=>exact⟨d,t,h2,by simp[jn,h3]⟩
 |cons z r'=>exact⟨d,t++[58]++jn (z :: r'),h2,by simp[jn,h3]⟩
theorem BT{l A:List Int}{i:Nat}{a b:Int}(hl:l.length=16)(hi:i+2<=16)(h:l.take i=A):((l.set i a).set (i+1) b).take (i+2)=A++[a,b]:=by
 subst h
 rw[show i+2=(i+1)+1 by omega,List.take_add_one,List.take_add_one]
 have e1:((l.set i a).set (i+1) b).take i=l.take i:=by
  rw[List.take_set_of_le (by omega),List.take_set_of_le (by omega)]
 have e2:((l.set i a).set (i+1) b)[i]?=some a:=by
  rw[List.getElem?_set_ne (by omega),List.getElem?_set_self (by omega)]
 have e3:((l.set i a).set (i+1) b)[i+1]?=some b:=by
  rw[List.getElem?_set_self (by simp;omega)]
 rw[e1,e2,e3]
 simp
theorem jh(L:List UInt8)(k:Nat):(⟨L.toArray⟩:ByteArray).extract k (⟨L.toArray⟩:ByteArray).size=⟨(L.drop k).toArray⟩:=by
 apply ByteArray.ext
 rw[ByteArray.data_extract,aB]
 apply Array.ext'
 simp[List.take_of_length_le]
end
end Go.Proofs.YtnklanajebphpaaGreatDoor
