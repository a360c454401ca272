/- Joined texts: RxA RxB RxC RxD RxE RxF RxG. -/
import Derived.WalkKit
import Derived.Orders
import Derived.Deep.Quiet
set_option maxRecDepth 100000
set_option maxHeartbeats 4000000
set_option linter.unusedVariables false
set_option linter.unusedSimpArgs false
namespace Go.Rx
open IntKind
section
inductive SV where
 |one (v:Value) (h:v.oneCell'=true)
 |int (k:IntKind) (n:Int) (lit:Bool)
 |bool (b:Bool) (lit:Bool)
 |str (s:ByteArray) (lit:Bool)
 |ptr (id off:Nat)
 |slc (id off len cap:Nat) (ll lc:Bool)
 |ifc (t:TypeId) (v:SV)
 |agg (cs:List SV)
 |tup (cs:List SV)
 |fn (f:Fn) (first captured:List SV)
 |raw (v:Value)
 |xp (a:Addr)
 |xs (a:Option Addr) (len cap:Nat)
instance:Inhabited SV:=⟨.tup []⟩
inductive SObj where
 |cells (cs:List SV) (total:Nat) (elem:TypeId) (lo hi:Nat)
 |ints (k:IntKind) (l:List Int) (elem:TypeId) (lo hi:Nat)
 |other (o:Obj)
 |unk
 |vals (l:List Value) (total:Nat) (elem:TypeId) (lo hi:Nat)
structure SS where
 objs:List SObj
 gl:List (Nat×Nat)
 ext:Bool
 w0:World
 pre:List Nat
inductive SE where
 |normal
 |exit (id:Nat)
 |goto (l:Nat)
 |ret
inductive T where
 |leaf (e:SE) (vs:List SV) (s:SS)
 |bad (why:String)
 |need (p:Prop) (t:T)
 |split (b:Bool) (t f:T)
 |choose (q:Question) (k:Nat->T)
 |both (a b:T)
 |call (f:FuncId) (args:List SV) (s:SS) (X:Type) (out:X->SV×List SObj) (k:X->World->List Nat->T)
 |loop (f:FuncId) (body:Code) (tmps:List SV) (s:SS) (X:Type) (out:X->SE×List SV×List SObj) (k:X->World->List Nat->T) (Y:Type) (out':Y->SE×List SV×List SObj) (k':Y->World->List Nat->T)
def iV(s:SS)(objs:List SObj)(w':World)(bs:List Nat):SS:={ s with objs:=objs,w0:=w',pre:=bs }
def SS.at(w:World):SS:=⟨[],[],true,w,[]⟩
mutual
def SV.den(β:Nat->Nat):SV->Value
 | .one v _=>v
 | .int k n _=>.int k n
 | .bool b _=>.bool b
 | .str s _=>.string s
 | .ptr i o=>.pointer (some ⟨β i,o,none⟩)
 | .slc i o n c _ _=>.slice (some ⟨β i,o,none⟩) n c
 | .ifc t v=>.iface t (SV.den β v)
 | .agg cs=>.agg (ae β cs).toArray
 | .tup cs=>.tuple (ae β cs).toArray
 | .fn f a c=>.func f (ae β a).toArray (ae β c).toArray
 | .raw v=>v
 | .xp a=>.pointer (some a)
 | .xs a n c=>.slice a n c
def ae(β:Nat->Nat):List SV->List Value
 |[]=>[]
 |v :: vs=>SV.den β v :: ae β vs
end
def SV.cell(v:Value):SV:=
 match v with
 | .int k n=>.int k n true
 | .bool b=>.bool b true
 | .string s=>.str s true
 | .agg _=>.tup []
 | .tuple _=>.tup []
 | .float k b=>.one (.float k b) rfl
 | .complex k a b=>.one (.complex k a b) rfl
 | .pointer a=>.one (.pointer a) rfl
 | .slice a n c=>.one (.slice a n c) rfl
 | .map r=>.one (.map r) rfl
 | .chan r=>.one (.chan r) rfl
 | .func f a c=>.one (.func f a c) rfl
 | .nilFunc=>.one .nilFunc rfl
 | .iface t v=>.one (.iface t v) rfl
 | .nilIface=>.one .nilIface rfl
def SV.cellOf(v:Value):SV:=
 match v with
 | .iface t x=>(match x with
  | .agg _=>.one (.iface t x) rfl
  | .tuple _=>.one (.iface t x) rfl
  |_=>.ifc t (SV.cell x))
 |_=>SV.cell v
def SV.ofValue(v:Value):Option SV:=
 match v with
 | .agg cs=>if cs.toList.all Value.oneCell' then some (.agg (cs.toList.map SV.cellOf)) else none
 | .tuple cs=>if cs.toList.isEmpty then some (.tup []) else none
 |_=>some (SV.cellOf v)
def SV.cells:SV->List SV
 | .agg cs=>cs
 | .raw v=>v.cells.toList.map .raw
 |v=>[v]
def SV.isOne:SV->Bool
 | .agg _=>false
 | .tup _=>false
 | .raw _=>false
 |_=>true
def aA:SV:=.tup []
def qE:Nat->List SV->Option (List SV)
 |0,_=>some []
 |_+1,[]=>none
 |n+1,x :: xs=>match qE n xs with
  |some l=>some (x :: l)
  |none=>none
def er:Nat->Nat->List SV->Option (List SV)
 |0,n,l=>qE n l
 |_+1,_,[]=>none
 |o+1,n,_ :: l=>er o n l
def fp:Nat->List SV->List SV->Option (List SV)
 |0,[],l=>some l
 |0,_ :: _,[]=>none
 |0,v :: vs,_ :: l=>match fp 0 vs l with
  |some r=>some (v :: r)
  |none=>none
 |_+1,_,[]=>none
 |o+1,vs,x :: l=>match fp o vs l with
  |some r=>some (x :: r)
  |none=>none
def SS.set(s:SS)(i:Nat)(o:SObj):SS:={ s with objs:=s.objs.set i o }
def SS.new(s:SS)(o:SObj):SS:={ s with objs:=s.objs++[o] }
def SS.n(s:SS):Nat:=s.objs.length
def ew(P:Program)(t:TypeId):Option (Option Nat):=
 match P.underlying t with
 |none=>none
 |some (.struct _)=>(P.info? t).map fun i=>some i.size
 |some (.array _ _)=>(P.info? t).map fun i=>some i.size
 |some _=>some none
def oM(P:Program)(t:TypeId):Option SV:=
 match P.info? t with
 |some i=>match i.zero with
  |some z=>SV.ofValue z
  |none=>none
 |none=>none
def ai(w:World)(a:Addr):Int:=
 match w.cell? a with
 |some (.int _ n)=>n
 |_=>0
def mO(w:World)(a:Addr):Bool:=
 match w.cell? a with
 |some (.bool b)=>b
 |_=>false
def bo(w:World)(a:Addr):ByteArray:=
 match w.cell? a with
 |some (.string s)=>s
 |_=>ByteArray.empty
def ca(w:World)(a:Addr):Addr:=
 match w.cell? a with
 |some (.pointer (some b))=>b
 |_=>default
def kD(w:World)(a:Addr):Option Addr:=
 match w.cell? a with
 |some (.slice b _ _)=>b
 |_=>none
def iO(w:World)(a:Addr):Nat:=
 match w.cell? a with
 |some (.slice _ n _)=>n
 |_=>0
def m8(w:World)(a:Addr):Nat:=
 match w.cell? a with
 |some (.slice _ _ c)=>c
 |_=>0
def dX(w:World)(a:Addr):{ v:Value // v.oneCell'=true }:=
 match w.cell? a with
 |some v=>if h:v.oneCell'=true then⟨v,h⟩ else⟨.nilIface,rfl⟩
 |none=>⟨.nilIface,rfl⟩
def yj(P:Program)(t:TypeId)(w:World)(a:Addr):Option SV:=
 match P.underlying t with
 |none=>none
 |some (.int k)=>some (.int k (ai w a) false)
 |some .bool=>some (.bool (mO w a) false)
 |some .string=>some (.str (bo w a) false)
 |some (.slice _)=>some (.xs (kD w a) (iO w a) (m8 w a))
 |some (.pointer _)=>some (.xp (ca w a))
 |some (.struct _)=>none
 |some (.array _ _)=>none
 |some _=>some (.one (dX w a).1 (dX w a).2)
mutual
def C5(P:Program):Nat->TypeId->Option (List TypeId)
 |0,_=>none
 |n+1,t=>match P.underlying t with
  |none=>none
  |some (.struct fields)=>Au P n fields.toList
  |some (.array _ _)=>none
  |some _=>some [t]
def Au(P:Program):Nat->List Field->Option (List TypeId)
 |0,_=>none
 |_+1,[]=>some []
 |n+1,f :: fs=>match C5 P n f.type,Au P n fs with
  |some a,some b=>some (a++b)
  |_,_=>none
end
def je(P:Program)(w:World)(a:Addr):List TypeId->Nat->Option (List SV)
 |[],_=>some []
 |t :: ts,j=>match yj P t w (a.add j),je P w a ts (j+1) with
  |some v,some vs=>some (v :: vs)
  |_,_=>none
def canRead(w:World)(pre:List Nat)(a:Addr)(vs:List SV):Prop:=
 a.block<w.heap.size/\a.block ∉ pre/\∀(j:Nat) (v:SV),vs[j]?=some v->w.cell? (a.add j)=some (v.den id)
def canBytes(w:World)(pre:List Nat)(A:Option Addr)(n:Nat):Prop:=
 n=0 ∨ ∃a,A=some a/\a.block<w.heap.size/\a.block ∉ pre/\∀i,i<n->∃b:UInt8,w.cell? (a.add i)=some (.int .u8 (b.toNat:Int))
def bytesAt(w:World)(A:Option Addr)(n:Nat):ByteArray:=
 ⟨((List.range n).map fun i=>UInt8.ofNat (ai w ((A.getD default).add i)).toNat).toArray⟩
def valsAt(w:World)(A:Option Addr)(n:Nat):List Value:=
 (List.range n).map fun i=>.int .u8 (ai w ((A.getD default).add i))
def bX(l:List Value):Prop:=∀v∈l,∃b:UInt8,v=.int .u8 (b.toNat:Int)
def bT(v:Value):Int:=
 match v with
 | .int _ n=>n
 |_=>0
def Js(P:Program)(t:TypeId)(a:Addr)(s:SS)(K:SV->T):T:=
 if s.ext then
  (match C5 P 12 t with
  |none=>.bad "load: types of cells"
  |some ts=>(match je P s.w0 a ts 0 with
   |none=>.bad "load: cells"
   |some vs=>.need (canRead s.w0 s.pre a vs) (match ew P t with
    |none=>.bad "load: no such type"
    |some none=>(match vs with
     |[v]=>K v
     |_=>.bad "load: one cell")
    |some (some n)=>if vs.length=n then K (.agg vs) else .bad "load: another size")))
 else .bad "load: not tracked"
def Em(s:SS)(id off:Nat)(K:SV->T):T:=
 match s.objs[id]? with
 |some (.cells cs _ _ _ _)=>match cs[off]? with
  |some v=>K v
  |none=>.bad "load: no such cell"
 |some (.ints k l _ _ _)=>.need (off<l.length) (K (.int k (l.getD off 0) false))
 |_=>.bad "load: not tracked"
def oH(P:Program)(t:TypeId)(a:SV)(s:SS)(K:SV->T):T:=
 match a with
 | .ptr id off=>match ew P t with
  |none=>.bad "load: no such type"
  |some none=>Em s id off K
  |some (some n)=>match s.objs[id]? with
   |some (.cells cs _ _ _ _)=>match er off n cs with
    |some l=>K (.agg l)
    |none=>.bad "load: no such cells"
   |_=>.bad "load: cells not tracked"
 | .xp a=>Js P t a s K
 |_=>.bad "load: no address"
def ap(lo hi off n:Nat):Bool:=decide (hi<=off∨off+n<=lo∨hi<=lo)
def yX(P:Program)(t:TypeId)(a v:SV)(s:SS)(K:SS->T):T:=
 match a with
 | .ptr id off=>match P.info? t with
  |none=>.bad "store: no such type"
  |some i=>if v.cells.length=i.size then
    if v.cells.all SV.isOne then
    match s.objs[id]? with
    |some (.cells cs tot e lo hi)=>match fp off v.cells cs with
     |some cs'=>if ap lo hi off v.cells.length then K (s.set id (.cells cs' tot e lo hi)) else .bad "store: frozen"
     |none=>.bad "store: no such cells"
    |some (.ints k l e lo hi)=>(match v with
     | .int k' n _=>if k=k' then .need (off<l.length) (.need (ap lo hi off 1=true) (K (s.set id (.ints k (l.set off n) e lo hi)))) else .bad "store: another kind"
     |_=>.bad "store: no integer")
    |_=>.bad "store: not tracked"
    else .bad "store: a cell is none"
   else .bad "store: another size"
 |_=>.bad "store: no address"
def FT(s:SS)(cs:List SV)(e:TypeId)(K:SV->SS->T):T:=
 if cs.all SV.isOne then K (.ptr s.n 0) (s.new (.cells cs cs.length e 0 0)) else .bad "new: a cell is none"
def yP(P:Program)(e:TypeId)(s:SS)(K:SV->SS->T):T:=
 match oM P e with
 |some z=>FT s z.cells e K
 |none=>.bad "alloc: no zero value"
def pZ(place:Nat->Option (Nat×Nat))(cells:List SV):List (Nat×SV)->Option (List SV)
 |[]=>some cells
 |(i,v) :: rest=>
  match place i with
  |none=>none
  |some (off,size)=>
   if v.cells.length=size then
    match fp off v.cells cells with
    |some cs=>pZ place cs rest
    |none=>none
   else none
def eL(P:Program)(fields:List Field):Option (List (Nat×Nat)):=
 match fields with
 |[]=>some []
 |f :: fs=>match P.info? f.type,eL P fs with
  |some i,some l=>some ((f.offset,i.size) :: l)
  |_,_=>none
def yR(P:Program)(t:TypeId)(parts:List (Nat×SV))(K:SV->T):T:=
 match oM P t with
 |none=>.bad "build: no zero value"
 |some z=>match P.underlying t with
  |some (.struct fields)=>match eL P fields.toList with
   |some places=>match pZ (places[·]?) z.cells parts with
    |some cs=>K (.agg cs)
    |none=>.bad "build: a part does not fit"
   |none=>.bad "build: a field's type"
  |some (.array _ elem)=>match P.info? elem with
   |some i=>match pZ (fun j=>some (j*i.size,i.size)) z.cells parts with
    |some cs=>K (.agg cs)
    |none=>.bad "build: a part does not fit"
   |none=>.bad "build: no element type"
  |_=>.bad "build: neither struct nor array"
def c9:Nat->List SV->List SV
 |0,_=>[]
 |n+1,z=>z++c9 n z
def jC(P:Program)(t:TypeId)(len:Nat)(parts:List (Nat×SV))(s:SS)(K:SV->SS->T):T:=
 match P.underlying t with
 |some (.slice elem)=>(match P.info? elem,oM P elem with
  |some inf,some z=>if z.cells.length=inf.size/\len*inf.size<=2^24 then
    (match pZ (fun j=>some (j*inf.size,inf.size)) (c9 len z.cells) parts with
    |some cs=>K (.slc s.n 0 len len true true) (s.new (.cells cs cs.length elem 0 0))
    |none=>.bad "buildSlice: a part does not fit")
   else .bad "buildSlice: size"
  |_,_=>.bad "buildSlice: type")
 |_=>.bad "buildSlice: no slice"
def kY(P:Program)(t:TypeId)(a:SV)(f:Nat)(K:SV->T):T:=
 match P.underlying t with
 |some (.struct fields)=>match fields[f]? with
  |some fd=>(match P.info? fd.type with
   |some i=>if i.size=0 then .bad "field: of size 0" else(match a with
    | .ptr id off=>K (.ptr id (off+fd.offset))
    | .xp a=>K (.xp (a.add fd.offset))
    |_=>.bad "field: no address")
   |none=>.bad "field: no type")
  |none=>.bad "field: none"
 |_=>.bad "field: no struct"
def xx(P:Program)(t:TypeId)(cs:List SV)(off:Nat):Option SV:=
 match ew P t with
 |none=>none
 |some none=>cs[off]?
 |some (some n)=>(er off n cs).map SV.agg
def yT(P:Program)(t:TypeId)(x:SV)(f:Nat)(K:SV->T):T:=
 match P.underlying t with
 |some (.struct fields)=>match fields[f]? with
  |some fd=>(match x with
   | .agg cs=>(match xx P fd.type cs fd.offset with
    |some v=>K v
    |none=>.bad "field: no such part")
   |_=>.bad "field: no struct value")
  |none=>.bad "field: none"
 |_=>.bad "field: no struct"
def HR(i:Int)(n:Nat)(lit:Bool)(t:T):T:=
 if lit then(if 0<=i/\i<(n:Int) then t else .bad "index: out of range") else .need (0<=i/\i<(n:Int)) t
def kZ(P:Program)(t:TypeId)(x ix:SV)(K:SV->T):T:=
 match ix with
 | .int _ i li=>(match P.underlying t with
  |some (.array len elem)=>(match x with
   | .ptr id off=>(match P.info? elem with
    |some inf=>HR i len li (K (.ptr id (off+i.toNat*inf.size)))
    |none=>.bad "index: no type")
   | .xp a=>(match P.info? elem with
    |some inf=>HR i len li (K (.xp (a.add (i.toNat*inf.size))))
    |none=>.bad "index: no type")
   |_=>.bad "index: no array's address")
  |some (.slice elem)=>(match x with
   | .slc id off len _ ll _=>(match P.info? elem with
    |some inf=>HR i len (li && ll) (K (.ptr id (off+i.toNat*inf.size)))
    |none=>.bad "index: no type")
   | .xs A len _=>(match P.info? elem with
    |some inf=>HR i len false (.need (A.isSome=true) (K (.xp ((A.getD default).add (i.toNat*inf.size)))))
    |none=>.bad "index: no type")
   |_=>.bad "index: no slice")
  |_=>.bad "index: neither array nor slice")
 |_=>.bad "index: no integer"
def yU(P:Program)(t:TypeId)(x ix:SV)(K:SV->T):T:=
 match ix with
 | .int _ i li=>(match P.underlying t with
  |some (.array len elem)=>(match x with
   | .agg cs=>(match P.info? elem with
    |some inf=>HR i len li (match xx P elem cs (i.toNat*inf.size) with
     |some v=>K v
     |none=>.bad "index: no such part")
    |none=>.bad "index: no type")
   |_=>.bad "index: no array")
  |some .string=>(match x with
   | .str s ls=>HR i s.size (li && ls) (K (.int .u8 ((s.data.toList.getD i.toNat 0).toNat:Int) (li && ls)))
   |_=>.bad "index: no string")
  |_=>.bad "index: neither array nor string")
 |_=>.bad "index: no integer"
def qR(x:Option SV)(dflt:Nat)(dl:Bool)(y:Nat)(yl:Bool)(K:Nat->Bool->T):T:=
 match x with
 |none=>K dflt dl
 |some (.int _ i li)=>
  if li && yl then(if 0<=i/\i<=(y:Int) then K i.toNat true else .bad "slice: out of range")
  else .need (0<=i/\i<=(y:Int)) (K i.toNat li)
 |some _=>.bad "slice: no integer"
def gi(len:Nat)(ll:Bool)(cap:Nat)(lc:Bool)(low high max:Option SV)(K:Nat->Bool->Nat->Bool->Nat->Bool->T):T:=
 match max,high with
 |some _,none=>.bad "slice: max without high"
 |_,_=>qR max cap lc cap lc fun m lm=>qR high len ll m lm fun h lh=>qR low 0 true h lh fun l l0=>K l l0 h lh m lm
def yW(P:Program)(t:TypeId)(x:SV)(low high max:Option SV)(K:SV->T):T:=
 match P.underlying t with
 |some .string=>(match x with
  | .str s ls=>(match max with
   |none=>gi s.size ls s.size ls low high none fun l l0 h lh _ _=>K (.str (s.extract l h) (ls && l0 && lh))
   |some _=>.bad "slice: full slice of a string")
  |_=>.bad "slice: no string")
 |some (.slice elem)=>(match P.info? elem with
  |some inf=>(match x with
   | .slc id off len cap ll lc=>gi len ll cap lc low high max fun l l0 h lh m lm=>
     K (.slc id (if m=l then off else off+l*inf.size) (h-l) (m-l) (lh && l0) (lm && l0))
   | .xs A len cap=>gi len false cap false low high max fun l _ h _ m _=>
     K (.xs (if m=l then A else A.map (·.add (l*inf.size))) (h-l) (m-l))
   | .one (.slice none len cap) _=>gi len true cap true low high max fun l _ h _ m _=>K (.one (.slice none (h-l) (m-l)) rfl)
   |_=>.bad "slice: no slice")
  |none=>.bad "slice: no type")
 |some (.array n elem)=>(match P.info? elem with
  |some inf=>(match x with
   | .ptr id off=>gi n true n true low high max fun l l0 h lh m lm=>
     K (.slc id (if m=l then off else off+l*inf.size) (h-l) (m-l) (lh && l0) (lm && l0))
   |_=>.bad "slice: no array's address")
  |none=>.bad "slice: no type")
 |some (.pointer arr)=>(match P.underlying arr with
  |some (.array n elem)=>(match P.info? elem with
   |some inf=>(match x with
    | .ptr id off=>gi n true n true low high max fun l l0 h lh m lm=>
      K (.slc id (if m=l then off else off+l*inf.size) (h-l) (m-l) (lh && l0) (lm && l0))
    |_=>.bad "slice: no array's address")
   |none=>.bad "slice: no type")
  |_=>.bad "slice: no array")
 |_=>.bad "slice: of what"
def n7(P:Program)(e:TypeId)(n:Nat):Bool:=
 match oM P e with
 |some z=>z.cells.length == n
 |none=>false
def k7(P:Program)(t:TypeId)(len cap:SV)(s:SS)(K:SV->SS->T):T:=
 match P.underlying t with
 |some (.slice elem)=>(match P.info? elem with
  |some inf=>(match len,cap with
   | .int _ n ln,.int _ c lc=>
    if ln && lc then
     (if 0<=n/\n<=c/\inf.bytes*c<=2^48/\c<2^63 then
      (match oM P elem with
      |some z=>if z.cells.length=inf.size then(if z.cells.all SV.isOne then K (.slc s.n 0 n.toNat c.toNat true true) (s.new (.cells (c9 c.toNat z.cells) (c9 c.toNat z.cells).length elem 0 0)) else .bad "make: zero") else .bad "make: size"
      |none=>.bad "make: no zero value")
     else .bad "make: out of range")
    else
     (match inf.zero with
     |some (.int k z)=>if z=0/\inf.size=1 then .need (0<=n/\n<=c/\inf.bytes*c<=2^48/\c<2^63) (K (.slc s.n 0 n.toNat c.toNat false false) (s.new (.ints k (List.replicate c.toNat 0) elem 0 0))) else .bad "make: zero"
     |_=>if ln && decide (n=0) && n7 P elem inf.size then .need (0<=c/\inf.bytes*c<=2^48/\c<2^63) (K (.slc s.n 0 0 c.toNat true false) (s.new (.vals [] (c.toNat*inf.size) elem 0 0))) else .bad "make: no integers")
   |_,_=>.bad "make: no integers")
  |none=>.bad "make: no type")
 |_=>.bad "make: no slice"
def Jt(P:Program)(t:TypeId)(x:SV)(K:SV->T):T:=
 match P.underlying t with
 |some .string=>(match x with
  | .str s l=>K (.int .i64 s.size l)
  |_=>.bad "len: no string")
 |some (.array n _)=>K (.int .i64 n true)
 |some (.pointer arr)=>(match P.underlying arr with
  |some (.array n _)=>K (.int .i64 n true)
  |_=>.bad "len: no array")
 |some (.slice _)=>(match x with
  | .slc _ _ n _ l _=>K (.int .i64 n l)
  | .one (.slice none n _) _=>K (.int .i64 n true)
  | .xs _ n _=>K (.int .i64 n false)
  |_=>.bad "len: no slice")
 |_=>.bad "len: of what"
def Jr(P:Program)(t:TypeId)(x:SV)(K:SV->T):T:=
 match P.underlying t with
 |some (.array n _)=>K (.int .i64 n true)
 |some (.slice _)=>(match x with
  | .slc _ _ _ c _ l=>K (.int .i64 c l)
  | .one (.slice none _ c) _=>K (.int .i64 c true)
  | .xs _ _ c=>K (.int .i64 c false)
  |_=>.bad "cap: no slice")
 |_=>.bad "cap: of what"
def gy(k:IntKind)(l:List Int)(off:Nat):Nat->List SV
 |0=>[]
 |n+1=>.int k (l.getD off 0) false :: gy k l (off+1) n
def mR:List UInt8->Bool->List SV
 |[],_=>[]
 |b :: bs,lit=>.int .u8 (b.toNat:Int) lit :: mR bs lit
def it(n:Nat)(x:SV)(s:SS)(K:List SV->T):T:=
 match x with
 | .slc id off _ _ _ _=>(match s.objs[id]? with
  |some (.cells cs _ _ _ _)=>(match er off n cs with
   |some l=>K l
   |none=>.bad "cells: not there")
  |some (.ints k l _ _ _)=>.need (off+n<=l.length) (K (gy k l off n))
  |_=>.bad "cells: not tracked")
 | .one (.slice none _ _) _=>if n=0 then K [] else .bad "cells: of nil"
 |_=>.bad "cells: of what"
def Ft:SV->Option (Nat×Bool)
 | .slc _ _ n _ l _=>some (n,l)
 | .one (.slice none n _) _=>some (n,true)
 |_=>none
def qc(z:Option Value):Option IntKind:=
 match z with
 |some (.int k n)=>if n=0 then some k else none
 |_=>none
def lJ(s:SS)(id off len n cap:Nat)(lc:Bool)(size:Nat)(cs:List SV)(tot:Nat)(e:TypeId)(lo hi:Nat)(new:List SV)(K:SV->SS->T):T:=
 match fp (off+len*size) new cs with
 |some cs'=>if ap lo hi (off+len*size) new.length then K (.slc id off (len+n) cap true lc) (s.set id (.cells cs' tot e lo hi)) else .bad "append: frozen"
 |none=>
  if off+len*size=cs.length then
   (if ap lo hi (off+len*size) new.length then .need (cs.length+new.length<=tot) (K (.slc id off (len+n) cap true lc) (s.set id (.cells (cs++new) tot e lo hi))) else .bad "append: frozen")
  else .bad "append: no such cells"
mutual
def SV.okb(n:Nat):SV->Bool
 | .one _ _=>true
 | .int _ _ _=>true
 | .bool _ _=>true
 | .str _ _=>true
 | .ptr i _=>decide (i<n)
 | .slc i _ _ _ _ _=>decide (i<n)
 | .ifc _ v=>SV.okb n v
 | .agg cs=>xu n cs
 | .tup cs=>xu n cs
 | .fn _ a c=>xu n a && xu n c
 | .raw _=>true
 | .xp _=>true
 | .xs _ _ _=>true
def xu(n:Nat):List SV->Bool
 |[]=>true
 |v :: vs=>SV.okb n v && xu n vs
end
def lO(l:List SV):Option (List Value):=if xu 0 l then some (ae id l) else none
def fB(s:SS)(elem:TypeId)(inf:TypeInfo)(id off len n cap:Nat)(l:List Value)(tot:Nat)(e:TypeId)(lo hi:Nat)(new:List Value)(K:SV->SS->T):T:=
 .split (decide (len+n<=cap))
  (.need (off+len*inf.size=l.length/\l.length+new.length<=tot/\ap lo hi l.length new.length=true) (K (.slc id off (len+n) cap false false) (s.set id (.vals (l++new) tot e lo hi))))
  (.need (off+len*inf.size<=l.length/\Builtin.nextslicecap (len+n) cap*inf.bytes<=2^48/\((len+n:Nat):Int)<=i64.max)
   (.choose (.appendCap (len+n) cap elem) fun c=>K (.slc s.n 0 (len+n) c false false) (s.new (.vals ((l.drop off).take (len*inf.size)++new) (c*inf.size) elem 0 0))))
def mN(s:SS)(elem:TypeId)(inf:TypeInfo)(x:SV)(A:Option Addr)(n:Nat)(K:SV->SS->T):T:=
 if s.ext && inf.size == 1 && inf.bytes == 1 && qc inf.zero == some .u8 then
  .need (canBytes s.w0 s.pre A n)
  (match x with
  | .slc id off len cap ll lc=>(match s.objs[id]? with
   |some (.cells cs tot e lo hi)=>(match lO cs with
    |some l=>if off+len=l.length then fB (s.set id (.vals l tot e lo hi)) elem inf id off len n cap l tot e lo hi (valsAt s.w0 A n) K else .bad "append: behind the end"
    |none=>.bad "append: cells with addresses")
   |some (.vals l tot e lo hi)=>fB s elem inf id off len n cap l tot e lo hi (valsAt s.w0 A n) K
   |_=>.bad "append: not tracked")
  |_=>.bad "append: bytes to what")
 else .bad "append: no bytes"
def gW(P:Program)(s:SS)(elem:TypeId)(inf:TypeInfo)(off len n cap:Nat)(cs new:List SV)(K:SV->SS->T):T:=
 match er off (len*inf.size) cs with
 |some old=>if n7 P elem inf.size=false then .bad "append: zero" else .need (Builtin.nextslicecap (len+n) cap*inf.bytes<=2^48) (.need (((len+n:Nat):Int)<=i64.max)
   (.choose (.appendCap (len+n) cap elem) fun c=>K (.slc s.n 0 (len+n) c true false) (s.new (.cells (old++new) (c*inf.size) elem 0 0))))
 |none=>.bad "append: the old cells are not there"
def tV(P:Program)(argTypes:List TypeId)(x y:SV)(s:SS)(K:SV->SS->T):T:=
 match argTypes with
 |[t,t2]=>(match P.underlying t,P.underlying t2 with
  |some (.slice elem),some (.slice _)=>(match P.info? elem,Ft y with
   |some inf,some (n,true)=>it (n*inf.size) y s fun new=>
    if new.all SV.isOne then(match x with
    | .slc id off len cap ll lc=>(match s.objs[id]? with
     |some (.cells cs tot e lo hi)=>
      if ll then
       (if lc then(if len+n<=cap then lJ s id off len n cap lc inf.size cs tot e lo hi new K else gW P s elem inf off len n cap cs new K)
       else .split (decide (len+n<=cap)) (lJ s id off len n cap lc inf.size cs tot e lo hi new K) (gW P s elem inf off len n cap cs new K))
      else .bad "append: cells of unknown length"
     |some (.ints k l e lo hi)=>(match new with
      |[.int k' v _]=>if k=k'/\inf.size=1/\n=1 then
        .split (decide (len+1<=cap))
         (.need (off+len<l.length) (.need (ap lo hi (off+len) 1=true) (K (.slc id off (len+1) cap false lc) (s.set id (.ints k (l.set (off+len) v) e lo hi)))))
         (.need (Builtin.nextslicecap (len+1) cap*inf.bytes<=2^48) (.need (((len+1:Nat):Int)<=i64.max) (.need (off+len<=l.length)
          (if qc inf.zero=some k then .choose (.appendCap (len+1) cap elem) fun c=>K (.slc s.n 0 (len+1) c false false) (s.new (.ints k ((l.drop off).take len++v :: List.replicate (c-(len+1)) 0) elem 0 0)) else .bad "append: zero"))))
       else .bad "append: kinds"
      |_=>.bad "append: several integers")
     |some (.vals l tot e lo hi)=>(match lO new with
      |some nv=>if n7 P elem inf.size=false then .bad "append: zero" else fB s elem inf id off len n cap l tot e lo hi nv K
      |none=>.bad "append: an address")
     |_=>.bad "append: not tracked")
    | .one (.slice none len cap) _=>
     if len=0/\cap=0 then
      (if n=0 then K x s else if n7 P elem inf.size=false then .bad "append: zero" else
      .need (Builtin.nextslicecap n 0*inf.bytes<=2^48) (.need ((n:Int)<=i64.max)
       (.choose (.appendCap n 0 elem) fun c=>K (.slc s.n 0 n c true false) (s.new (.cells new (c*inf.size) elem 0 0)))))
     else .bad "append: to a strange nil"
    |_=>.bad "append: to what") else .bad "append: a cell is none"
   |some inf,_=>(match y with
    | .xs A n _=>mN s elem inf x A n K
    |_=>.bad "append: a length that is not known")
   |_,_=>.bad "append: a length that is not known")
  |_,_=>.bad "append: types")
 |_=>.bad "append: arguments"
def s8(s:SS)(id off size n:Nat)(y:SV)(K:SV->SS->T):T:=
 it (n*size) y s fun new=>
  if new.all SV.isOne then(match s.objs[id]? with
  |some (.cells cs tot e lo hi)=>(match fp off new cs with
   |some cs'=>if ap lo hi off new.length then K (.int .i64 n true) (s.set id (.cells cs' tot e lo hi)) else .bad "copy: frozen"
   |none=>.bad "copy: no such cells")
  |_=>.bad "copy: not tracked") else .bad "copy: a cell is none"
def sZ(s:SS)(inf:TypeInfo)(id off len:Nat)(A:Option Addr)(n:Nat)(K:SV->SS->T):T:=
 if s.ext && inf.size == 1 && inf.bytes == 1 && qc inf.zero == some .u8 then
  .need (canBytes s.w0 s.pre A n) (.need (n<=len) (match s.objs[id]? with
  |some (.ints .u8 l e lo hi)=>.need (off+n<=l.length/\ap lo hi off n=true) (K (.int .i64 n false) (s.set id (.ints .u8 (l.take off++(valsAt s.w0 A n).map bT++l.drop (off+n)) e lo hi)))
  |_=>.bad "copy: not tracked"))
 else .bad "copy: no bytes"
def En(P:Program)(argTypes:List TypeId)(x y:SV)(s:SS)(K:SV->SS->T):T:=
 match argTypes with
 |t :: _=>(match P.underlying t with
  |some (.slice elem)=>(match P.info? elem with
   |some inf=>(match y with
    | .xs A n _=>(match x with
     | .slc id off len _ _ _=>sZ s inf id off len A n K
     |_=>.bad "copy: of what")
    |_=>(match x,Ft y with
     | .slc id off len _ true _,some (m,lm)=>
      if lm then s8 s id off inf.size (Nat.min m len) y K else .need (len<=m) (s8 s id off inf.size len y K)
     |_,_=>.bad "copy: of what"))
   |none=>.bad "copy: of what")
  |_=>.bad "copy: types")
 |_=>.bad "copy: arguments"
def mf(s:SS)(i:Nat):Bool:=
 match s.objs[i]? with
 |some (.cells _ _ _ lo hi)=>lo == 0 && hi == 0
 |some (.ints _ _ _ lo hi)=>lo == 0 && hi == 0
 |_=>false
def gO(v:SV):Bool:=
 match v with
 | .one (.pointer none) _=>true
 |_=>false
def bJ(v:SV):Bool:=
 match v with
 | .one .nilIface _=>true
 |_=>false
def el(v:SV):Bool:=
 match v with
 | .one (.slice none _ _) _=>true
 |_=>false
def pi(P:Program)(t:TypeId)(a b:SV)(s:SS)(K:Bool->Bool->T):T:=
 match P.underlying t with
 |some .bool=>(match a,b with
  | .bool x lx,.bool y ly=>K (x == y) (lx && ly)
  |_,_=>.bad "==: no bools")
 |some (.int _)=>(match a,b with
  | .int k x lx,.int k' y ly=>if k=k' then K (x == y) (lx && ly) else .bad "==: kinds"
  |_,_=>.bad "==: no integers")
 |some .string=>(match a,b with
  | .str x lx,.str y ly=>K (x == y) (lx && ly)
  |_,_=>.bad "==: no strings")
 |some (.pointer elem)=>
  if gO a then(if gO b then K true true else(match b with
   | .ptr _ _=>K false true
   | .xp _=>K false true
   |_=>.bad "==: pointer"))
  else(match a with
   | .xp _=>if gO b then K false true else .bad "==: pointers that are not tracked"
   | .ptr i o=>if gO b then K false true else(match b with
    | .ptr j o'=>(match P.info? elem with
     |some inf=>if inf.size=0 then .bad "==: size 0" else
      if i=j then K (o == o') true
      else if mf s i && mf s j then K false true else .bad "==: not tracked"
     |none=>.bad "==: no type")
    |_=>.bad "==: pointer")
   |_=>.bad "==: pointer")
 |some (.slice _)=>
  if el a then(if el b then K true true else(match b with
   | .slc ..=>K false true
   | .xs A _ _=>K A.isNone false
   |_=>.bad "==: slice"))
  else(match a with
   | .slc ..=>if el b then K false true else .bad "==: slices"
   | .xs A _ _=>if el b then K A.isNone false else .bad "==: slices"
   |_=>.bad "==: slice")
 |_=>.bad "==: of what"
def L8(P:Program)(t:TypeId)(a b:SV)(s:SS)(K:Bool->Bool->T):T:=
 match P.underlying t with
 |some (.interface _)=>
  if bJ a then(if bJ b then K true true else(match b with
   | .ifc _ _=>K false true
   |_=>.bad "==: interface"))
  else(match a with
   | .ifc ta va=>if bJ b then K false true else(match b with
    | .ifc tb vb=>if ta=tb then(match P.info? ta with
      |some inf=>if inf.comparable then pi P ta va vb s K else .bad "==: not comparable"
      |none=>.bad "==: no type")
     else K false true
    |_=>.bad "==: interface")
   |_=>.bad "==: interface")
 |_=>pi P t a b s K
def mU(v:SV):Bool:=
 match v with
 | .bool _ _=>true
 | .ptr _ _=>true
 | .slc ..=>true
 | .xp _=>true
 | .xs ..=>true
 | .ifc _ _=>true
 | .one (.pointer none) _=>true
 | .one .nilIface _=>true
 | .one (.slice none _ _) _=>true
 |_=>false
def jV(x:Operand):Bool:=
 match x with
 | .const _=>true
 |_=>false
def Jq(P:Program)(op:BinOp)(t:TypeId)(x y:Operand)(a b:SV)(s:SS)(K:SV->T):T:=
 match a,b with
 | .int k n ln,.int k' m lm=>
  (match op with
  | .shl=>if lm then(if 0<=m then K (.int k (k.wrap (n*2^(min m.toNat k.bits))) ln) else .bad "shift: negative") else .need (0<=m) (K (.int k (k.wrap (n*2^(min m.toNat k.bits))) false))
  | .shr=>if lm then(if 0<=m then K (.int k (n.fdiv (2^(min m.toNat k.bits))) ln) else .bad "shift: negative") else .need (0<=m) (K (.int k (n.fdiv (2^(min m.toNat k.bits))) false))
  |_=>
  if k=k' then
  (match op with
  | .add=>K (.int k (k.wrap (n+m)) (ln && lm))
  | .sub=>K (.int k (k.wrap (n-m)) (ln && lm))
  | .mul=>K (.int k (k.wrap (n*m)) (ln && lm))
  | .quo=>if lm then(if m=0 then .bad "quo: by 0" else K (.int k (k.wrap (n.tdiv m)) (ln && lm))) else .need (m≠0) (K (.int k (k.wrap (n.tdiv m)) false))
  | .rem=>if lm then(if m=0 then .bad "rem: by 0" else K (.int k (n.tmod m) (ln && lm))) else .need (m≠0) (K (.int k (n.tmod m) false))
  | .and=>K (.int k (k.wrap (BitVec.ofInt k.bits n &&& BitVec.ofInt k.bits m).toNat) (ln && lm))
  | .or=>K (.int k (k.wrap (BitVec.ofInt k.bits n |||BitVec.ofInt k.bits m).toNat) (ln && lm))
  | .xor=>K (.int k (k.wrap (BitVec.ofInt k.bits n ^^^ BitVec.ofInt k.bits m).toNat) (ln && lm))
  | .andNot=>K (.int k (k.wrap (BitVec.ofInt k.bits n &&& ~~~ BitVec.ofInt k.bits m).toNat) (ln && lm))
  | .eql=>K (.bool (n == m) (ln && lm))
  | .neq=>K (.bool (n != m) (ln && lm))
  | .lss=>K (.bool (decide (n<m)) (ln && lm))
  | .leq=>K (.bool (decide (n<=m)) (ln && lm))
  | .gtr=>K (.bool (decide (n > m)) (ln && lm))
  | .geq=>K (.bool (decide (n ≥ m)) (ln && lm))
  |_=>.bad "binop: integers")
  else .bad "binop: kinds")
 | .str u lu,.str v lv=>
  (match op with
  | .eql=>K (.bool (u.toList == v.toList) (lu && lv))
  | .neq=>K (.bool (!(u.toList == v.toList)) (lu && lv))
  | .lss=>K (.bool (Op.bytesLess u.toList v.toList) (lu && lv))
  | .add=>if lu && lv then(if((u.size+v.size:Nat):Int) > i64.max then .bad "add: strings" else K (.str (u++v) true))
    else .need (((u.size+v.size:Nat):Int)<=i64.max) (K (.str (u++v) false))
  |_=>.bad "binop: strings")
 |_,_=>
  if bJ a && bJ b && !(jV x ||jV y) then .bad "==: two nil interfaces" else
  if mU a && mU b then
  (match op with
  | .eql=>L8 P t a b s fun r l=>K (.bool r l)
  | .neq=>L8 P t a b s fun r l=>K (.bool (!r) l)
  |_=>.bad "binop: of what") else .bad "binop: of what"
def NY(op:UnOp)(x:SV)(K:SV->T):T:=
 match op,x with
 | .neg,.int k n l=>K (.int k (k.wrap (0-n)) l)
 | .xor,.int k n l=>K (.int k (k.wrap (BitVec.ofInt k.bits (if k.signed then -1 else k.max) ^^^ BitVec.ofInt k.bits n).toNat) l)
 | .not,.bool b l=>K (.bool (!b) l)
 |_,_=>.bad "unop"
def bytesOf(l:List Int):ByteArray:=l.foldl (fun r n=>r.push (UInt8.ofNat n.toNat)) ByteArray.empty
def qa:List SV->Option (List Int×Bool)
 |[]=>some ([],true)
 | .int .u8 n l :: r=>(match qa r with
  |some (ns,lr)=>some (n :: ns,l && lr)
  |none=>none)
 |_ :: _=>none
def jD(P:Program)(src dst:TypeId)(x:SV)(s:SS)(K:SV->SS->T):T:=
 match P.underlying src,P.underlying dst with
 |some ds,some (.int k)=>(match x with
  | .int _ n l=>K (.int k (k.wrap n) l) s
  |_=>.bad "convert: to an integer, of what")
 |some ds,some .string=>(match x with
  | .str u l=>K (.str u l) s
  | .slc id off len _ ll _=>(match ds with
   | .slice e=>(match P.underlying e with
    |some (.int .u8)=>if ll then it len x s fun cs=>(match qa cs with
      |some (ns,lit)=>K (.str (bytesOf ns) lit) s
      |none=>.bad "convert: no bytes")
     else(match s.objs[id]? with
      |some (.ints .u8 l _ _ _)=>.need (off+len<=l.length) (K (.str (bytesOf ((l.drop off).take len)) false) s)
      |some (.vals l _ _ _ _)=>.need (off+len<=l.length/\bX ((l.drop off).take len)) (K (.str (bytesOf (((l.drop off).take len).map bT)) false) s)
      |_=>.bad "convert: not tracked")
    |_=>.bad "convert: no bytes")
   |_=>.bad "convert: no slice")
  | .xs A n _=>if s.ext then(match ds with
   | .slice e=>(match P.underlying e with
    |some (.int .u8)=>.need (canBytes s.w0 s.pre A n) (K (.str (bytesAt s.w0 A n) false) s)
    |_=>.bad "convert: no bytes")
   |_=>.bad "convert: no slice") else .bad "convert: not tracked"
  | .one (.slice none _ _) _=>(match ds with
   | .slice e=>(match P.underlying e with
    |some (.int .u8)=>K (.str ByteArray.empty true) s
    |_=>.bad "convert: no bytes")
   |_=>.bad "convert: no slice")
  |_=>.bad "convert: to a string, of what")
 |some _,some (.slice e)=>(match x with
  | .str u l=>(match P.underlying e with
   |some (.int .u8)=>.choose (.appendCap u.size 0 e) fun c=>
     K (.slc s.n 0 u.size c l false) (s.new (if l then .cells (mR u.data.toList true) c e c (c+1) else .ints .u8 (u.data.toList.map (fun b=>(b.toNat:Int))++List.replicate (c-u.size) 0) e c (c+1)))
   |_=>.bad "convert: no bytes")
  |_=>.bad "convert: to a slice, of what")
 |_,_=>.bad "convert: of what"
def f8(commaOk:Bool)(v:SV)(K:SV->T):T:=if commaOk then K (.tup [v,.bool true true]) else K v
def dv(P:Program)(asserted:TypeId)(commaOk:Bool)(K:SV->T):T:=
 if commaOk then(match oM P asserted with
  |some z=>K (.tup [z,.bool false true])
  |none=>.bad "assert: zero") else .bad "assert: fails"
def tW(P:Program)(x:SV)(asserted:TypeId)(commaOk:Bool)(K:SV->T):T:=
 match P.underlying asserted with
 |some (.interface want)=>if bJ x then dv P asserted commaOk K else(match x with
  | .ifc t v=>(match P.info? t with
   |some inf=>(match Instr.missingMethod want inf.methods with
    |none=>f8 commaOk (.ifc t v) K
    |some _=>dv P asserted commaOk K)
   |none=>.bad "assert: no type")
  |_=>.bad "assert: of what")
 |some _=>if bJ x then dv P asserted commaOk K else(match x with
  | .ifc t v=>if t=asserted then f8 commaOk v K else dv P asserted commaOk K
  |_=>.bad "assert: of what")
 |none=>.bad "assert: no type"
inductive SPlace where
 |val (v:SV)
 |var (id off:Nat)
def Ep(P:Program)(t:TypeId)(x:SPlace)(s:SS)(K:SV->T):T:=
 match x with
 | .val v=>K v
 | .var id off=>oH P t (.ptr id off) s K
def kg(P:Program):List FieldStep->TypeId->SPlace->SS->(TypeId->SPlace->T)->T
 |[],t,x,_,K=>K t x
 |st :: rest,t,x,s,K=>match P.underlying st.struct with
  |some (.struct fields)=>(match fields[st.index]? with
   |some f=>(match P.info? f.type with
    |some fi=>if fi.size=0 then .bad "method: a field of size 0" else
     if st.deref then Ep P t x s fun v=>(match v with
      | .ptr id off=>kg P rest f.type (.var id (off+f.offset)) s K
      |_=>.bad "method: no pointer")
     else(match x with
      | .var id off=>kg P rest f.type (.var id (off+f.offset)) s K
      | .val (.agg cs)=>(match xx P f.type cs f.offset with
       |some v=>kg P rest f.type (.val v) s K
       |none=>.bad "method: no part")
      |_=>.bad "method: no struct")
    |none=>.bad "method: no type")
   |none=>.bad "method: no field")
  |_=>.bad "method: no struct type"
def Et(P:Program)(xt:TypeId)(x:SPlace)(ptrRecv:Bool)(s:SS)(K:SV->T):T:=
 match P.underlying xt with
 |some (.pointer elem)=>if ptrRecv then Ep P xt x s K
  else Ep P xt x s fun p=>(match p with
   | .ptr id off=>oH P elem (.ptr id off) s K
   | .xp a=>oH P elem (.xp a) s K
   |_=>.bad "method: nil")
 |some _=>if ptrRecv then(match x with
   | .var id off=>K (.ptr id off)
   | .val _=>.bad "method: a value without an address")
  else Ep P xt x s K
 |none=>.bad "method: no type"
def tX(P:Program)(t:TypeId)(v:SV)(name:String)(s:SS)(K:FuncId->SV->T):T:=
 match P.info? t with
 |some i=>(match i.methods.find? (·.name == name) with
  |some m=>(match m.func with
   |some (f,ptrRecv)=>kg P m.path.toList t (.val v) s fun xt x=>Et P xt x ptrRecv s fun r=>K f r
   |none=>.bad "method: of an embedded interface")
  |none=>.bad "method: none of this name")
 |none=>.bad "method: no type"
def sP(P:Program)(t:TypeId)(v:SV)(name:String):Bool:=
 match P.info? t with
 |some i=>(match i.methods.find? (·.name == name) with
  |some m=>if m.path.isEmpty then(match m.func with
   |some (_,true)=>true
   |some (_,false)=>(match P.underlying t with
    |some (.pointer _)=>(match v with
     | .ptr _ _=>true
     |_=>false)
    |some _=>true
    |none=>false)
   |none=>false) else false
  |none=>false)
 |none=>false
def ni(P:Program)(x:SV)(K:SV->T):T:=
 match x with
 | .ptr id off=>K (.ptr id off)
 | .xp a=>K (.xp a)
 | .xs ..=>K x
 | .fn (.method name) first cap=>(match first with
  | .ifc t v :: _=>if sP P t v name then K x else .bad "nilCheck: a method's receiver"
  |_=>.bad "nilCheck: of what")
 | .fn (.func _) _ _=>K x
 | .ifc _ _=>K x
 | .slc ..=>K x
 |_=>.bad "nilCheck: of what"
structure Hook where
 X:Type
 out:List SV->SS->X->SV×List SObj
structure LoopHook where
 X:Type
 out:List SV->SS->X->SE×List SV×List SObj
 Y:Type
 out':List SV->SS->Y->SE×List SV×List SObj
structure Hooks where
 calls:FuncId->Option Hook
 loops:FuncId->Nat->Option LoopHook
 eager:Bool:=false
def da:Code->Nat
 | .seq a b=>if da a=0 then da b else da a
 | .cond _ a b=>if da a=0 then da b else da a
 | .block _ c=>da c
 | .loop c=>da c
 | .scope c=>da c
 | .region id _ _=>id+1
 |_=>0
def ev(s:SS)(a:List SV)(x:Operand):Option SV:=
 match x with
 | .tmp t=>some (a.getD t aA)
 | .const v=>SV.ofValue v
 | .global g=>(match s.gl.lookup g with
  |some id=>some (.ptr id 0)
  |none=>some (.xp ⟨g,0,none⟩))
 | .func f=>some (.fn (.func f) [] [])
def F3(s:SS)(a:List SV):List Operand->Option (List SV)
 |[]=>some []
 |x :: xs=>match ev s a x,F3 s a xs with
  |some v,some vs=>some (v :: vs)
  |_,_=>none
def JA(s:SS)(a:List SV):List (Nat×Operand)->Option (List (Nat×SV))
 |[]=>some []
 |(i,x) :: xs=>match ev s a x,JA s a xs with
  |some v,some vs=>some ((i,v) :: vs)
  |_,_=>none
def Jz(s:SS)(a:List SV):Option Operand->Option (Option SV)
 |none=>some none
 |some x=>(ev s a x).map some
def dr(a:List SV)(dst:Option Nat)(v:SV):List SV:=
 match dst with
 |some d=>a.set d v
 |none=>a
abbrev eI:=FuncId->List SV->SS->(SV->SS->T)->T
def dG(s:SS)(a:List SV)(x:Operand)(K:SV->T):T:=
 match ev s a x with
 |some v=>K v
 |none=>.bad "a constant that is not taken"
def qO(s:SS)(a:List SV)(x y:Operand)(K:SV->SV->T):T:=
 dG s a x fun u=>dG s a y fun v=>K u v
def lR(P:Program)(f:FuncId):Bool:=
 match P.funcs[f]? with
 |some fn=>fn.name != "runtime.NumGoroutine" && fn.body.isSome
 |none=>false
def pj(P:Program)(call:eI)(f:Fn)(args:List SV)(cap:List SV)(s:SS)(K:SV->SS->T):T:=
 match f with
 | .func g=>if lR P g then call g (args++cap) s K else .bad "call: a function without a body"
 | .method name=>(match args with
  | .ifc t v :: rest=>tX P t v name s fun g r=>if lR P g then call g (r :: rest) s K else .bad "call: a method without a body"
  |_=>.bad "invoke: no interface value")
 |_=>.bad "call: of what"
def qS(P:Program)(b:Builtin)(argTypes:List TypeId)(args:List SV)(s:SS)(K:SV->SS->T):T:=
 match b with
 | .len=>(match argTypes,args with
  |t :: _,x :: _=>Jt P t x fun v=>K v s
  |_,_=>.bad "len")
 | .cap=>(match argTypes,args with
  |t :: _,x :: _=>Jr P t x fun v=>K v s
  |_,_=>.bad "cap")
 | .append=>(match args with
  |[x,y]=>tV P argTypes x y s K
  |_=>.bad "append")
 | .copy=>(match args with
  |x :: y :: _=>En P argTypes x y s K
  |_=>.bad "copy")
 |_=>.bad "a builtin that is not taken"
def Er(P:Program)(call:eI)(o:Oper)(a:List SV)(s:SS)(K:SV->SS->T):T:=
 match o.op with
 | .move x=>dG s a x fun v=>K v s
 | .assign x=>dG s a x fun v=>K v s
 | .pick c x y=>dG s a c fun b=>qO s a x y fun u v=>(match b with
  | .bool t lit=>if lit then(if t then K u s else K v s) else .split t (K u s) (K v s)
  |_=>.bad "pick")
 | .alloc e=>yP P e s K
 | .box e x=>dG s a x fun v=>FT s v.cells e K
 | .build t parts=>(match JA s a parts.toList with
  |some ps=>yR P t ps fun v=>K v s
  |none=>.bad "build: a constant")
 | .buildSlice t len parts=>(match JA s a parts.toList with
  |some ps=>jC P t len ps s K
  |none=>.bad "buildSlice: a constant")
 | .load t x=>dG s a x fun v=>oH P t v s fun r=>K r s
 | .store t x y=>qO s a x y fun u v=>yX P t u v s fun s'=>K aA s'
 | .nilCheck x=>dG s a x fun v=>ni P v fun r=>K r s
 | .binOp op t x y _=>qO s a x y fun u v=>Jq P op t x y u v s fun r=>K r s
 | .unOp op _ x=>dG s a x fun v=>NY op v fun r=>K r s
 | .convert src dst x=>dG s a x fun v=>jD P src dst v s K
 | .makeInterface t x=>dG s a x fun v=>(match P.underlying t with
  |some (.interface _)=>.bad "makeInterface"
  |some _=>K (.ifc t v) s
  |none=>.bad "makeInterface")
 | .makeFunc f first cap=>(match F3 s a first.toList,F3 s a cap.toList with
  |some u,some v=>K (.fn f u v) s
  |_,_=>.bad "makeFunc: a constant")
 | .makeSlice t l c=>qO s a l c fun u v=>k7 P t u v s K
 | .slice t x lo hi mx=>dG s a x fun v=>(match Jz s a lo,Jz s a hi,Jz s a mx with
  |some l,some h,some m=>yW P t v l h m fun r=>K r s
  |_,_,_=>.bad "slice: a constant")
 | .fieldAddr t x f=>dG s a x fun v=>kY P t v f fun r=>K r s
 | .field t x f=>dG s a x fun v=>yT P t v f fun r=>K r s
 | .indexAddr t x i=>qO s a x i fun u v=>kZ P t u v fun r=>K r s
 | .index t x i=>qO s a x i fun u v=>yU P t u v fun r=>K r s
 | .typeAssert x _ asserted ok=>dG s a x fun v=>tW P v asserted ok fun r=>K r s
 | .extract x i=>dG s a x fun v=>(match v with
  | .tup vs=>(match vs[i]? with
   |some r=>K r s
   |none=>.bad "extract")
  |_=>.bad "extract")
 | .call c=>(match F3 s a c.args.toList with
  |some args=>(match c.callee with
   | .builtin b=>qS P b c.argTypes.toList args s K
   | .invoke r m=>dG s a r fun v=>pj P call (.method m) (v :: args) [] s K
   | .value f=>dG s a f fun v=>(match v with
    | .fn g first cap=>pj P call g (first++args) cap s K
    |_=>.bad "call: no function"))
  |none=>.bad "call: a constant")
 |_=>.bad o.pos
def gh(ops:Array Oper)(a:List SV)(o:Oper):Option (Bool×Bool):=
 match o.guard with
 |none=>some (true,true)
 |some (j,want)=>(match (ops[j]?).bind (·.dst) with
  |none=>some (false,true)
  |some d=>(match a[d]? with
   |some (.bool b lit)=>some (b == want,lit)
   |some (.tup _)=>some (false,true)
   |_=>none))
inductive Want where
 |none
 |sure (w:Bool)
 |ask (d:Nat) (b want:Bool)
def mn(ops:Array Oper)(a:List SV)(o:Oper):Want:=
 match o.guard with
 |none=>.sure true
 |some (j,want)=>(match (ops[j]?).bind (·.dst) with
  |none=>.sure false
  |some d=>(match a[d]? with
   |some (.bool b lit)=>if lit then .sure (b == want) else .ask d b want
   |some (.tup _)=>.sure false
   |_=>.none))
def iU(a:List SV)(d:Nat)(b:Bool):List SV:=a.set d (.bool b true)
def pM(w:Want)(a:List SV)(yes no:List SV->T):T:=
 match w with
 | .none=>.bad "a guard"
 | .sure true=>yes a
 | .sure false=>no a
 | .ask d b want=>if want then .split b (yes (iU a d true)) (no (iU a d false)) else .split b (no (iU a d true)) (yes (iU a d false))
def xO(P:Program)(call:eI)(ops:Array Oper):List Oper->List SV->(List SV->SS->T)->SS->T
 |[],a,K,s=>K a s
 |o :: rest,a,K,s=>pM (mn ops a o) a
   (fun a=>Er P call o a s fun v s'=>xO P call ops rest (dr a o.dst v) K s')
   (fun a=>xO P call ops rest (dr a o.dst aA) K s)
def pf(P:Program)(s:SS)(a:List SV)(o:Oper):Option SV:=
 match o.op with
 | .move x=>ev s a x
 | .assign x=>ev s a x
 | .nilCheck x=>(match ev s a x with
  |some (.ptr id off)=>some (.ptr id off)
  |_=>none)
 | .fieldAddr t x f=>(match ev s a x with
  |some (.ptr id off)=>(match P.underlying t with
   |some (.struct fields)=>(match fields[f]? with
    |some fd=>(match P.info? fd.type with
     |some i=>if i.size=0 then none else some (.ptr id (off+fd.offset))
     |none=>none)
    |none=>none)
   |_=>none)
  |_=>none)
 | .extract x i=>(match ev s a x with
  |some (.tup vs)=>vs[i]?
  |_=>none)
 | .makeInterface t x=>(match ev s a x,P.underlying t with
  |some _,some (.interface _)=>none
  |some v,some _=>some (.ifc t v)
  |_,_=>none)
 |_=>none
def tH(o:Oper):Bool:=
 match o.op with
 | .move _ | .assign _ | .load .. | .nilCheck _ | .binOp .. | .unOp .. | .makeInterface .. | .makeFunc .. | .slice .. | .fieldAddr .. | .field .. | .indexAddr .. | .index ..
 | .typeAssert .. | .extract .. | .build ..=>true
 | .call c=>(match c.callee with
  | .builtin .len=>true
  | .builtin .cap=>true
  |_=>false)
 |_=>false
def yQ(P:Program)(call:eI)(ops:Array Oper):Nat->List Bool->List SV->(List SV->SS->T)->SS->T
 |0,listed,a,K,s=>(match Region.ready .any ops listed.toArray with
  |[]=>K a s
  |_ :: _=>.bad "region")
 |n+1,listed,a,K,s=>
  let one (i:Nat):T:=(match ops[i]? with
   |none=>.bad "region"
   |some o=>pM (mn ops a o) a
     (fun a=>Er P call o a s fun v s'=>yQ P call ops n (listed.set i true) (dr a o.dst v) K s')
     (fun a=>yQ P call ops n (listed.set i true) (dr a o.dst aA) K s))
  match Region.ready .any ops listed.toArray with
  |[]=>K a s
  |r :: more=>
   match (r :: more).findSome? (fun i=>(match ops[i]? with
    |some o=>if o.guard.isNone && Region.free .any ops listed.toArray i then(pf P s a o).map fun v=>(i,o.dst,v) else none
    |none=>none)) with
   |some (i,dst,v)=>yQ P call ops n (listed.set i true) (dr a dst v) K s
   |none=>more.foldr (fun i t=>.both (one i) t) (one r)
def yg(P:Program)(o:Oper):Bool:=
 tH o ||(match o.op with
  | .convert _ dst _=>(match P.underlying dst with
   |some (.int _)=>true
   |some .string=>true
   |_=>false)
  |_=>false)
def cC:T->Option (SV×List Prop)
 | .leaf _ [v] _=>some (v,[])
 | .need p t=>(match cC t with
  |some (v,ps)=>some (v,p :: ps)
  |none=>none)
 |_=>none
def gZ(P:Program)(s:SS)(a:List SV)(o:Oper):Option (SV×List Prop):=
 if yg P o then
  (match cC (Er P (fun _ _ _ _=>.bad "") o a s (fun v s'=>.leaf .normal [v] s')) with
  |some (v,ps)=>if SV.okb s.n v then some (v,ps) else none
  |none=>none)
 else none
def SS.blank(s:SS):SS:={ s with objs:=s.objs.map fun _=>.unk,ext:=false }
def qp:List Prop->T->T
 |[],t=>t
 |p :: ps,t=>.need p (qp ps t)
def dK(o:Oper):List Nat:=(o.after.toList.filter fun e=>Region.binds .any e).map (·.on)
def mb(ops:Array Oper)(i:Nat)(oi:Oper)(j:Nat)(oj:Oper):Bool:=
 match oi.dst with
 |none=>true
 |some d=>(i == j ||oj.dst != some d) && (!(oj.looksAt ops).contains d ||(i != j && (dK oj).contains i))
def ma(ops:Array Oper):Bool:=
 (List.range ops.size).all fun i=>match ops[i]? with
  |none=>true
  |some oi=>(dK oi).all (fun e=>decide (e<i)) && (List.range ops.size).all fun j=>match ops[j]? with
   |none=>true
   |some oj=>mb ops i oi j oj
def lN(ops:Array Oper):Nat->List Nat->List Nat
 |0,m=>m
 |i+1,m=>if m.contains i then lN ops i (m++(match ops[i]? with
   |some o=>dK o
   |none=>[])) else lN ops i m
def iX(ops:Array Oper)(j:Nat)(oj:Oper):List Nat:=lN ops j (dK oj)
mutual
def eX:SV->SV->Option (List Prop)
 | .int k n l,.int k' n' l'=>if k=k' then(if l && l' then(if n=n' then some [] else none) else some [n=n']) else none
 | .bool b l,.bool b' l'=>if l && l' then(if b=b' then some [] else none) else some [b=b']
 | .str u l,.str u' l'=>if l && l' then(if u.data.toList=u'.data.toList then some [] else none) else some [u=u']
 | .ptr i o,.ptr i' o'=>if i=i' then some [o=o'] else none
 | .slc i o n c _ _,.slc i' o' n' c' _ _=>if i=i' then some [o=o'/\n=n'/\c=c'] else none
 | .ifc t v,.ifc t' v'=>if t=t' then eX v v' else none
 | .agg l,.agg l'=>oz l l'
 | .tup l,.tup l'=>oz l l'
 | .one v _,.one v' _=>some [v=v']
 | .raw v,.raw v'=>some [v=v']
 | .xp a,.xp a'=>some [a=a']
 | .xs a n c,.xs a' n' c'=>some [a=a'/\n=n'/\c=c']
 | .fn f a c,.fn f' a' c'=>(match oz a a',oz c c' with
  |some p,some q=>some ((f=f') :: (p++q))
  |_,_=>none)
 |_,_=>none
def oz:List SV->List SV->Option (List Prop)
 |[],[]=>some []
 |v :: l,v' :: l'=>(match eX v v',oz l l' with
  |some p,some q=>some (p++q)
  |_,_=>none)
 |_,_=>none
end
def AJ(P:Program)(s:SS)(a:List SV)(o:Oper):Option (SV×List Prop×Bool):=
 match gZ P s.blank a o with
 |some (v,ps)=>some (v,ps,true)
 |none=>(match gZ P s a o with
  |some (v,ps)=>some (v,ps,false)
  |none=>none)
def yN(P:Program)(ops:Array Oper)(a:List SV)(s:SS)(i:Nat):Option (Option Nat×SV×List Prop×Bool):=
 match ops[i]? with
 |none=>none
 |some o=>(match gh ops a o with
  |some (w,true)=>if w then(match AJ P s a o with
    |some (v,ps,st)=>some (o.dst,v,ps,st)
    |none=>none)
   else some (o.dst,aA,[],true)
  |_=>none)
def gf(P:Program)(ops:Array Oper)(a:List SV)(s:SS):List Nat->T->T
 |[],t=>t
 |k :: ks,t=>match ops[k]? with
  |none=>.bad "region"
  |some o=>(match gh ops a o,gZ P s a o with
   |some (true,true),some (v,ps)=>(match o.dst with
    |none=>qp ps (gf P ops a s ks t)
    |some d=>(match a[d]? with
     |none=>qp ps (gf P ops a s ks t)
     |some u=>(match eX v u with
      |some qs=>qp ps (qp qs (gf P ops a s ks t))
      |none=>.bad "region: what was read has changed")))
   |_,_=>.bad "region: an order")
def db(ops:Array Oper):List Nat->List SV->(List SV->T)->T
 |[],a,K=>K a
 |i :: is,a,K=>(match ops[i]? with
  |none=>db ops is a K
  |some o=>(match mn ops a o with
   | .ask d b _=>.split b (db ops is (iU a d true) K) (db ops is (iU a d false) K)
   |_=>db ops is a K))
def xP(eager:Bool)(P:Program)(call:eI)(ops:Array Oper):Nat->List Bool->List SV->List Nat->(List SV->SS->T)->SS->T
 |0,listed,a,pend,K,s=>(match Region.ready .any ops listed.toArray with
  |[]=>K a s
  |_ :: _=>.bad "region")
 |n+1,listed,a,pend,K,s=>
  match Region.ready .any ops listed.toArray with
  |[]=>K a s
  |r :: more=>
   (if eager then db ops (r :: more) a else fun K=>K a) fun a=>
   match (r :: more).findSome? (fun i=>(match yN P ops a s i with
    |some (dst,v,ps,st)=>some (i,dst,v,ps,st)
    |none=>none)) with
   |some (i,dst,v,ps,st)=>qp ps (xP eager P call ops n (listed.set i true) (dr a dst v) (if st then pend else i :: pend) K s)
   |none=>
    let one (i:Nat):T:=(match ops[i]? with
     |none=>.bad "region"
     |some o=>pM (mn ops a o) a
       (fun a=>Er P call o a s fun v s'=>gf P ops (dr a o.dst v) s' (pend.filter fun k=>!(iX ops i o).contains k)
        (xP eager P call ops n (listed.set i true) (dr a o.dst v) (pend.filter fun k=>!(iX ops i o).contains k) K s'))
       (fun a=>xP eager P call ops n (listed.set i true) (dr a o.dst aA) pend K s))
    more.foldr (fun i t=>.both (one i) t) (one r)
def Eo(eager:Bool)(P:Program)(call:eI)(ops:Array Oper)(a:List SV)(K:List SV->SS->T)(s:SS):T:=
 if ma ops then xP eager P call ops ops.size (List.replicate ops.size false) a [] K s
 else yQ P call ops ops.size (List.replicate ops.size false) a K s
def cJ(P:Program)(a:List SV)(s:SS):List ResultVar->(List SV->T)->T
 |[],K=>K []
 | .tmp t :: rest,K=>cJ P a s rest fun vs=>K (a.getD t aA :: vs)
 | .cell t ty :: rest,K=>(match a.getD t aA with
  | .ptr id off=>oH P ty (.ptr id off) s fun v=>cJ P a s rest fun vs=>K (v :: vs)
  |_=>.bad "a result's cell")
def fo(vs:List SV):SV:=
 match vs with
 |[v]=>v
 |_=>.tup vs
def aK(P:Program)(hk:Hooks):Nat->FuncId->Code->List SV->(SE->List SV->SS->T)->SS->T
 |0,_,_,_,_,_=>.bad "out of fuel"
 |n+1,f₀,c,a,K,s=>
  let call:eI:=fun f args s' k=>match hk.calls f with
   |some h=>.call f args s' h.X (h.out args s') (fun x w' bs=>k (h.out args s' x).1 (iV s' (h.out args s' x).2 w' bs))
   |none=>(match P.funcs[f]? with
   |some fn=>(match fn.body with
    |some body=>aK P hk n f body (args++List.replicate (fn.ntmps-args.length) aA) (fun e a' s''=>(match e with
     | .normal=>cJ P a' s'' fn.results.toList fun vs=>k (fo vs) s''
     | .ret=>cJ P a' s'' fn.results.toList fun vs=>k (fo vs) s''
     |_=>.bad "a body's end")) s'
    |none=>.bad "a function without a body")
   |none=>.bad "no such function")
  match c with
  | .skip=>K .normal a s
  | .label _=>K .normal a s
  | .seq x y=>aK P hk n f₀ x a (fun e a' s'=>(match e with
   | .normal=>aK P hk n f₀ y a' K s'
   |e=>K e a' s')) s
  | .cond x t f=>(match ev s a x with
   |some (.bool b lit)=>if lit then(if b then aK P hk n f₀ t a K s else aK P hk n f₀ f a K s) else(match x with
    | .tmp d=>.split b (aK P hk n f₀ t (iU a d true) K s) (aK P hk n f₀ f (iU a d false) K s)
    |_=>.split b (aK P hk n f₀ t a K s) (aK P hk n f₀ f a K s))
   |_=>.bad "cond")
  | .block id c=>aK P hk n f₀ c a (fun e a' s'=>(match e with
   | .exit i=>if i=id then K .normal a' s' else K (.exit i) a' s'
   |e=>K e a' s')) s
  | .loop body=>(match hk.loops f₀ (da body) with
   |some h=>.loop f₀ body a s h.X (h.out a s) (fun x w' bs=>K (h.out a s x).1 (h.out a s x).2.1 (iV s (h.out a s x).2.2 w' bs))
     h.Y (h.out' a s) (fun x w' bs=>K (h.out' a s x).1 (h.out' a s x).2.1 (iV s (h.out' a s x).2.2 w' bs))
   |none=>aK P hk n f₀ body a (fun e a' s'=>(match e with
    | .normal=>aK P hk n f₀ (.loop body) a' K s'
    |e=>K e a' s')) s)
  | .exit id=>K (.exit id) a s
  | .ret=>K .ret a s
  | .region _ ops draw=>if draw then(if Region.noSelect ops && P.follows .mixedOrders then Eo hk.eager P call ops a (fun a' s'=>K .normal a' s') s else .bad "region: select")
    else xO P call ops ops.toList a (fun a' s'=>K .normal a' s') s
  |_=>.bad "a form of code that is not taken"
def am(P:Program)(hk:Hooks)(n:Nat)(f:FuncId)(args:List SV)(s:SS):T:=
 match P.funcs[f]? with
 |some fn=>(match fn.body with
  |some body=>aK P hk n f body (args++List.replicate (fn.ntmps-args.length) aA) (fun e a' s'=>(match e with
   | .normal=>cJ P a' s' fn.results.toList fun vs=>.leaf .ret [fo vs] s'
   | .ret=>cJ P a' s' fn.results.toList fun vs=>.leaf .ret [fo vs] s'
   |_=>.bad "a body's end")) s
  |none=>.bad "a function without a body")
 |none=>.bad "no such function"
end
section
mutual
def SV.ok(n:Nat):SV->Prop
 | .one _ _=>True
 | .int _ _ _=>True
 | .bool _ _=>True
 | .str _ _=>True
 | .ptr i _=>i<n
 | .slc i _ _ _ _ _=>i<n
 | .ifc _ v=>SV.ok n v
 | .agg cs=>bf n cs
 | .tup cs=>bf n cs
 | .fn _ a c=>bf n a/\bf n c
 | .raw _=>True
 | .xp _=>True
 | .xs _ _ _=>True
def bf(n:Nat):List SV->Prop
 |[]=>True
 |v :: vs=>SV.ok n v/\bf n vs
end
mutual
theorem SV.den_agree{β β':Nat->Nat}{n:Nat}(h:∀i,i<n->β' i=β i):∀v:SV,v.ok n->v.den β'=v.den β
 | .one _ _,_=>rfl
 | .int _ _ _,_=>rfl
 | .bool _ _,_=>rfl
 | .str _ _,_=>rfl
 | .ptr i o,hv=>by simp only[SV.den,h i hv]
 | .slc i o n c _ _,hv=>by simp only[SV.den,h i hv]
 | .ifc t v,hv=>by simp only[SV.den,SV.den_agree h v hv]
 | .agg cs,hv=>by simp only[SV.den,bI h cs hv]
 | .tup cs,hv=>by simp only[SV.den,bI h cs hv]
 | .fn f a c,hv=>by simp only[SV.den,bI h a hv.1,bI h c hv.2]
 | .raw _,_=>rfl
 | .xp _,_=>rfl
 | .xs _ _ _,_=>rfl
theorem bI{β β':Nat->Nat}{n:Nat}(h:∀i,i<n->β' i=β i):∀l:List SV,bf n l->ae β' l=ae β l
 |[],_=>rfl
 |v :: vs,hv=>by simp only[ae,SV.den_agree h v hv.1,bI h vs hv.2]
end
mutual
theorem SV.ok_mono{n m:Nat}(h:n<=m):∀v:SV,v.ok n->v.ok m
 | .one _ _,_=>trivial
 | .int _ _ _,_=>trivial
 | .bool _ _,_=>trivial
 | .str _ _,_=>trivial
 | .ptr i o,hv=>Nat.lt_of_lt_of_le hv h
 | .slc i o n c _ _,hv=>Nat.lt_of_lt_of_le hv h
 | .ifc t v,hv=>SV.ok_mono h v hv
 | .agg cs,hv=>bu h cs hv
 | .tup cs,hv=>bu h cs hv
 | .fn f a c,hv=>⟨bu h a hv.1,bu h c hv.2⟩
 | .raw _,_=>trivial
 | .xp _,_=>trivial
 | .xs _ _ _,_=>trivial
theorem bu{n m:Nat}(h:n<=m):∀l:List SV,bf n l->bf m l
 |[],_=>trivial
 |v :: vs,hv=>⟨SV.ok_mono h v hv.1,bu h vs hv.2⟩
end
theorem cD(β:Nat->Nat)(l:List SV):ae β l=l.map (SV.den β):=by
 induction l with
 |nil=>rfl
 |cons v vs ih=>simp only[ae,List.map_cons,ih]
theorem av(β:Nat->Nat)(l:List SV):(ae β l).length=l.length:=by simp[cD]
theorem dz(β:Nat->Nat)(a b:List SV):ae β (a++b)=ae β a++ae β b:=by simp[cD]
theorem bQ(β:Nat->Nat)(l:List SV)(i:Nat):(ae β l)[i]?=(l[i]?).map (SV.den β):=by simp[cD]
theorem wP(β:Nat->Nat)(l:List SV)(i:Nat)(v:SV):ae β (l.set i v)=(ae β l).set i (v.den β):=by simp[cD]
theorem eA(n:Nat)(l:List SV):bf n l ↔ ∀v∈l,v.ok n:=by
 induction l with
 |nil=>simp[bf]
 |cons v vs ih=>simp[bf,ih]
theorem em{n:Nat}{a b:List SV}(ha:bf n a)(hb:bf n b):bf n (a++b):=by
 rw[eA]at *
 intro v hv
 rcases List.mem_append.1 hv with h |h
 ·exact ha v h
 ·exact hb v h
theorem ik{n:Nat}{l:List SV}(h:bf n l){i:Nat}{v:SV}(hv:l[i]?=some v):v.ok n:=
 (eA n l).1 h v (List.mem_of_getElem? hv)
theorem Az{n:Nat}{l:List SV}(h:bf n l){v:SV}(hv:v.ok n)(i:Nat):bf n (l.set i v):=by
 rw[eA]at *
 intro x hx
 rcases List.mem_or_eq_of_mem_set hx with h' |h'
 ·exact h x h'
 ·exact h' ▸ hv
theorem SV.isOne_den{v:SV}(h:v.isOne=true)(β:Nat->Nat):(v.den β).oneCell'=true:=by
 cases v with
 |one v hv=>exact hv
 |agg cs=>cases h
 |tup cs=>cases h
 |raw v=>cases h
 |_=>rfl
theorem Cy(β:Nat->Nat)(l:List Value):ae β (l.map .raw)=l:=by
 induction l with
 |nil=>rfl
 |cons v vs ih=>simp only[List.map_cons,ae,SV.den,ih]
theorem SV.cells_den(v:SV)(β:Nat->Nat):(v.den β).cells=(ae β v.cells).toArray:=by
 cases v with
 |one v h=>cases v <;> first |(cases h;done) |rfl
 |raw v=>simp only[SV.den,SV.cells,Cy]
 |_=>simp[SV.den,SV.cells,Value.cells,ae]
theorem FB(n:Nat)(l:List Value):bf n (l.map .raw):=by
 induction l with
 |nil=>trivial
 |cons v vs ih=>exact⟨trivial,ih⟩
theorem SV.cells_ok{v:SV}{n:Nat}(h:v.ok n):bf n v.cells:=by
 cases v with
 |raw v=>exact FB n _
 |_=>simp_all [SV.cells,SV.ok,bf]
theorem SV.cellOf_den{v:Value}(h:v.oneCell'=true)(β:Nat->Nat):(SV.cellOf v).den β=v:=by
 cases v with
 |iface t x=>cases x <;> simp[SV.cellOf,SV.cell,SV.den]
 |_=>simp_all [SV.cellOf,SV.cell,SV.den,Value.oneCell']
theorem SV.cellOf_ok(v:Value)(n:Nat):(SV.cellOf v).ok n:=by
 cases v with
 |iface t x=>cases x <;> simp[SV.cellOf,SV.cell,SV.ok]
 |_=>simp[SV.cellOf,SV.cell,SV.ok,bf]
theorem SV.ofValue_den{v:Value}{s:SV}(h:SV.ofValue v=some s)(β:Nat->Nat):s.den β=v:=by
 cases v with
 |agg cs=>
  simp only[SV.ofValue]at h
  split at h
  ·rename_i hall
   simp only[Option.some.injEq]at h
   subst h
   simp only[SV.den,cD,List.map_map]
   have:(cs.toList.map (SV.den β ∘ SV.cellOf))=cs.toList:=by
    conv=>rhs;rw[<- List.map_id cs.toList]
    apply List.map_congr_left
    intro x hx
    exact SV.cellOf_den (List.all_eq_true.1 hall x hx) β
   rw[this]
  ·cases h
 |tuple cs=>
  simp only[SV.ofValue]at h
  split at h
  ·rename_i hemp
   simp only[Option.some.injEq]at h
   subst h
   have:cs=#[]:=by
    have:=List.isEmpty_iff.1 hemp
    exact Array.ext' (by simpa using this)
   subst this
   simp[SV.den,ae]
  ·cases h
 |_=>simp only[SV.ofValue,Option.some.injEq]at h;subst h;exact SV.cellOf_den rfl β
theorem SV.ofValue_ok{v:Value}{s:SV}(h:SV.ofValue v=some s)(n:Nat):s.ok n:=by
 cases v with
 |agg cs=>
  simp only[SV.ofValue]at h
  split at h
  ·simp only[Option.some.injEq]at h
   subst h
   show bf n _
   rw[eA]
   intro x hx
   obtain⟨y,_,rfl⟩:=List.mem_map.1 hx
   exact SV.cellOf_ok y n
  ·cases h
 |tuple cs=>
  simp only[SV.ofValue]at h
  split at h
  ·simp only[Option.some.injEq]at h;subst h;trivial
  ·cases h
 |_=>simp only[SV.ofValue,Option.some.injEq]at h;subst h;exact SV.cellOf_ok _ n
theorem qF:∀(n:Nat) (l r:List SV),qE n l=some r->n<=l.length/\r=l.take n
 |0,l,r,h=>by simp[qE]at h;simp[h]
 |n+1,[],r,h=>by simp[qE]at h
 |n+1,x :: xs,r,h=>by
  simp only[qE]at h
  cases hx:qE n xs with
  |none=>rw[hx]at h;cases h
  |some l=>
   rw[hx]at h
   simp only[Option.some.injEq]at h
   obtain⟨h1,h2⟩:=qF n xs l hx
   subst h
   simp[h1,h2]
theorem eY:∀(o n:Nat) (l r:List SV),er o n l=some r->o+n<=l.length/\r=(l.drop o).take n
 |0,n,l,r,h=>by
  simp only[er]at h
  obtain⟨h1,h2⟩:=qF n l r h
  simp[h1,h2]
 |o+1,n,[],r,h=>by simp[er]at h
 |o+1,n,x :: xs,r,h=>by
  simp only[er]at h
  obtain⟨h1,h2⟩:=eY o n xs r h
  simp only[List.length_cons,List.drop_succ_cons]
  exact⟨by omega,h2⟩
theorem kX{o n:Nat}{l r:List SV}(h:er o n l=some r)(j:Nat)(hj:j<n):r[j]?=l[o+j]?:=by
 obtain⟨h1,rfl⟩:=eY o n l r h
 rw[List.getElem?_take_of_lt hj,List.getElem?_drop]
theorem eB{o n:Nat}{l r:List SV}(h:er o n l=some r):r.length=n:=by
 obtain⟨h1,rfl⟩:=eY o n l r h
 simp;omega
theorem kd{o n m:Nat}{l r:List SV}(h:er o n l=some r)(hl:bf m l):bf m r:=by
 obtain⟨h1,rfl⟩:=eY o n l r h
 rw[eA]at *
 intro v hv
 exact hl v (List.mem_of_mem_drop (List.mem_of_mem_take hv))
def bz(l:List Value)(o:Nat):List Value->List Value
 |[]=>l
 |v :: vs=>bz (l.set o v) (o+1) vs
theorem mj(x:Value)(l:List Value)(o:Nat)(vs:List Value):bz (x :: l) (o+1) vs=x :: bz l o vs:=by
 induction vs generalizing l o with
 |nil=>rfl
 |cons v vs ih=>simp only[bz,List.set_cons_succ,ih]
theorem im(β:Nat->Nat):∀(o:Nat) (vs l r:List SV),fp o vs l=some r ->
  o+vs.length<=l.length/\r.length=l.length/\(∀rest,ae β r++rest=bz (ae β l++rest) o (ae β vs))/\(∀n,bf n vs->bf n l->bf n r)
 |0,[],l,r,h=>by
  cases l <;> simp[fp]at h <;> subst h <;> simp[ae,bz]
 |0,v :: vs,[],r,h=>by simp[fp]at h
 |0,v :: vs,x :: l,r,h=>by
  simp only[fp]at h
  cases hr:fp 0 vs l with
  |none=>rw[hr]at h;cases h
  |some q=>
   rw[hr]at h
   simp only[Option.some.injEq]at h
   obtain⟨h1,h2,h3,h4⟩:=im β 0 vs l q hr
   subst h
   refine⟨by simp;omega,by simp[h2],fun rest=>?_,fun n hn hl=>⟨hn.1,h4 n hn.2 hl.2⟩⟩
   simp only[ae,List.cons_append,bz,List.set_cons_zero,mj,h3]
 |o+1,vs,[],r,h=>by cases vs <;> simp[fp]at h
 |o+1,vs,x :: l,r,h=>by
  have h':(match fp o vs l with |some r=>some (x :: r) |none=>none)=some r:=by
   cases vs <;> (simp only[fp]at h;exact h)
  cases hr:fp o vs l with
  |none=>rw[hr]at h';cases h'
  |some q=>
   rw[hr]at h'
   simp only[Option.some.injEq]at h'
   obtain⟨h1,h2,h3,h4⟩:=im β o vs l q hr
   subst h'
   refine⟨by simp;omega,by simp[h2],fun rest=>?_,fun n hn hl=>⟨hl.1,h4 n hn hl.2⟩⟩
   simp only[ae,List.cons_append,mj,h3]
mutual
theorem SV.okb_ok{n:Nat}:∀v:SV,v.okb n=true->v.ok n
 | .one _ _,_=>trivial
 | .int _ _ _,_=>trivial
 | .bool _ _,_=>trivial
 | .str _ _,_=>trivial
 | .ptr i _,h=>of_decide_eq_true (p:=i<n) h
 | .slc i _ _ _ _ _,h=>of_decide_eq_true (p:=i<n) h
 | .ifc _ v,h=>SV.okb_ok v (by simpa [SV.okb] using h)
 | .agg cs,h=>jZ cs (by simpa [SV.okb] using h)
 | .tup cs,h=>jZ cs (by simpa [SV.okb] using h)
 | .fn _ a c,h=>by
  simp only[SV.okb,Bool.and_eq_true]at h
  exact⟨jZ a h.1,jZ c h.2⟩
 | .raw _,_=>trivial
 | .xp _,_=>trivial
 | .xs _ _ _,_=>trivial
theorem jZ{n:Nat}:∀l:List SV,xu n l=true->bf n l
 |[],_=>trivial
 |v :: vs,h=>by
  simp only[xu,Bool.and_eq_true]at h
  exact⟨SV.okb_ok v h.1,jZ vs h.2⟩
end
theorem SV.den_closed{v:SV}(h:v.ok 0)(β:Nat->Nat):v.den β=v.den id:=SV.den_agree (n:=0) (fun i hi=>absurd hi (Nat.not_lt_zero i)) v h
theorem cY{l:List SV}(h:bf 0 l)(β:Nat->Nat):ae β l=ae id l:=bI (n:=0) (fun i hi=>absurd hi (Nat.not_lt_zero i)) l h
theorem lQ{l:List SV}{vs:List Value}(h:lO l=some vs)(β:Nat->Nat):ae β l=vs/\bf 0 l:=by
 unfold lO at h
 split at h
 ·rename_i hok
  simp only[Option.some.injEq]at h
  have:=jZ l hok
  exact⟨by rw[cY this,h],this⟩
 ·cases h
end
section
def SObj.At(β:Nat->Nat)(o:SObj)(x:Option Obj):Prop:=
 match o with
 | .cells cs tot e lo hi=>∃rest:List Value,x=some (.cells (ae β cs++rest).toArray e (lo,hi))/\cs.length+rest.length=tot
 | .ints k l e lo hi=>x=some (.cells (l.map (Value.int k)).toArray e (lo,hi))
 | .other ob=>x=some ob
 | .unk=>True
 | .vals l tot e lo hi=>∃rest:List Value,x=some (.cells (l++rest).toArray e (lo,hi))/\l.length+rest.length=tot
def SObj.ok(n:Nat)(o:SObj):Prop:=
 match o with
 | .cells cs _ _ _ _=>bf n cs
 |_=>True
theorem SObj.At_agree{β β':Nat->Nat}{n:Nat}(h:∀i,i<n->β' i=β i){o:SObj}(ho:o.ok n){x:Option Obj}(hx:o.At β x):o.At β' x:=by
 cases o with
 |cells cs tot e lo hi=>
  simp only[SObj.At]at *
  rw[bI h cs ho]
  exact hx
 |_=>exact hx
theorem SObj.ok_mono{n m:Nat}(h:n<=m){o:SObj}(ho:o.ok n):o.ok m:=by
 cases o with
 |cells cs tot e lo hi=>exact bu h cs ho
 |_=>trivial
structure Ctx where
 P:Program
 β0:Nat->Nat
 n0:Nat
 Q:SE->List Value->World->Prop
structure Old (β:Nat->Nat) (s:SS) (w:World):Prop where
 fr:∀b,b<s.w0.heap.size->(∀i,i<s.n->β i≠b)->w.heap[b]?=s.w0.heap[b]?
 sz:s.w0.heap.size<=w.heap.size
 tape:w.tape=s.w0.tape
 os:w.os=s.w0.os
 out:w.output=s.w0.output
 pre:∀i b,s.pre[i]?=some b->β i=b
 pren:s.pre.length<=s.n
 new:∀i,s.pre.length<=i->i<s.n->s.w0.heap.size<=β i
structure St (Γ:Ctx) (β:Nat->Nat) (s:SS) (w:World):Prop where
 lt:∀i,i<s.n->β i<w.heap.size
 inj:∀i j,i<s.n->j<s.n->β i=β j->i=j
 at_:∀(i:Nat) (o:SObj),s.objs[i]?=some o->o.At β w.heap[β i]?
 ok:∀(i:Nat) (o:SObj),s.objs[i]?=some o->o.ok s.n
 gl:∀p,p∈s.gl->p.2<s.n/\β p.2=p.1
 old:s.ext=true->Old β s w
 base:∀i,i<Γ.n0->β i=Γ.β0 i
 n0:Γ.n0<=s.n
theorem dB{s:SS}{i:Nat}{o:SObj}(h:s.objs[i]?=some o):i<s.n:=(List.getElem?_eq_some_iff.1 h).1
section
variable {Γ:Ctx}{β:Nat->Nat}{s:SS}{w:World}
structure Like (w w':World):Prop where
 heap:w'.heap=w.heap
 tape:w'.tape=w.tape
 os:w'.os=w.os
 out:w'.output=w.output
theorem St.like(h:St Γ β s w){w':World}(hl:Like w w'):St Γ β s w' where
 lt:=by rw[hl.heap];exact h.lt
 inj:=h.inj
 at_:=by rw[hl.heap];exact h.at_
 ok:=h.ok
 gl:=h.gl
 old:=fun he=>let o:=h.old he
  {fr:=by rw[hl.heap];exact o.fr
   sz:=by rw[hl.heap];exact o.sz
   tape:=hl.tape.trans o.tape
   os:=hl.os.trans o.os
   out:=hl.out.trans o.out
   pre:=o.pre
   pren:=o.pren
   new:=o.new }
 base:=h.base
 n0:=h.n0
theorem St.drew(h:St Γ β s w)(d:Nat):St Γ β s { w with drawn:=d }:=h.like ⟨rfl,rfl,rfl,rfl⟩
def xZ(β:Nat->Nat)(n b:Nat):Nat->Nat:=fun i=>if i=n then b else β i
theorem bN{β:Nat->Nat}{n b i:Nat}(h:i<n):xZ β n b i=β i:=by
 unfold xZ;rw[if_neg (by omega)]
theorem dt{β:Nat->Nat}{n b:Nat}:xZ β n b n=b:=by
 unfold xZ;rw[if_pos rfl]
theorem SS.n_new(s:SS)(o:SObj):(s.new o).n=s.n+1:=by simp[SS.n,SS.new]
theorem SS.n_set(s:SS)(i:Nat)(o:SObj):(s.set i o).n=s.n:=by simp[SS.n,SS.set]
theorem heap_alloc(w:World)(ob:Obj):(w.alloc ob).heap=w.heap.push ob:=rfl
theorem Ac(s:SS)(o:SObj):(s.objs++[o])[s.n]?=some o:=by simp[SS.n]
theorem St.alloc(h:St Γ β s w){o:SObj}{ob:Obj}(hat:o.At (xZ β s.n w.heap.size) (some ob))(hok:o.ok (s.n+1)) :
  St Γ (xZ β s.n w.heap.size) (s.new o) (w.alloc ob) where
 lt:=by
  intro i hi
  rw[SS.n_new]at hi
  simp only[World.size_alloc]
  by_cases hin:i=s.n
  ·subst hin;rw[dt];omega
  ·rw[bN (by omega)];have:=h.lt i (by omega);omega
 inj:=by
  intro i j hi hj he
  rw[SS.n_new]at hi hj
  by_cases hin:i=s.n <;> by_cases hjn:j=s.n
  ·omega
  ·subst hin;rw[dt,bN (by omega)]at he;have:=h.lt j (by omega);omega
  ·subst hjn;rw[dt,bN (by omega)]at he;have:=h.lt i (by omega);omega
  ·rw[bN (by omega),bN (by omega)]at he;exact h.inj i j (by omega) (by omega) he
 at_:=by
  intro i o' hi
  simp only[SS.new]at hi
  by_cases hin:i<s.n
  ·rw[List.getElem?_append_left hin]at hi
   have h1:=h.at_ i o' hi
   rw[bN hin]
   have h2:(w.alloc ob).heap[β i]?=w.heap[β i]?:=by
    have:=h.lt i hin
    rw[heap_alloc,Array.getElem?_push,if_neg (Nat.ne_of_lt this)]
   rw[h2]
   exact SObj.At_agree (fun j hj=>bN hj) (h.ok i o' hi) h1
  ·have hlt:=(List.getElem?_eq_some_iff.1 hi).1
   simp at hlt
   have hin':i=s.n:=by unfold SS.n at *;omega
   subst hin'
   rw[Ac]at hi
   simp only[Option.some.injEq]at hi
   subst hi
   rw[dt,heap_alloc,Array.getElem?_push,if_pos rfl]
   exact hat
 ok:=by
  intro i o' hi
  rw[SS.n_new]
  simp only[SS.new]at hi
  by_cases hin:i<s.n
  ·rw[List.getElem?_append_left hin]at hi
   exact SObj.ok_mono (Nat.le_succ _) (h.ok i o' hi)
  ·have hlt:=(List.getElem?_eq_some_iff.1 hi).1
   simp at hlt
   have hin':i=s.n:=by unfold SS.n at *;omega
   subst hin'
   rw[Ac]at hi
   simp only[Option.some.injEq]at hi
   subst hi
   exact hok
 gl:=by
  intro p hp
  obtain⟨h1,h2⟩:=h.gl p hp
  rw[SS.n_new,bN h1]
  exact⟨by omega,h2⟩
 old:=fun he=>by
  have o':=h.old he
  refine{ fr:=?_,sz:=?_,tape:=o'.tape,os:=o'.os,out:=o'.out,pre:=?_,pren:=?_,new:=?_ }
  ·intro b hb hne
   have h1:(w.alloc ob).heap[b]?=w.heap[b]?:=by
    have:=o'.sz
    rw[heap_alloc,Array.getElem?_push,if_neg (Nat.ne_of_lt (Nat.lt_of_lt_of_le hb this))]
   rw[h1]
   refine o'.fr b hb fun i hi=>?_
   have:=hne i (by rw[SS.n_new];omega)
   rwa [bN hi]at this
  ·simp only[World.size_alloc];exact Nat.le_succ_of_le o'.sz
  ·intro i b hb
   have hlt:i<s.pre.length:=(List.getElem?_eq_some_iff.1 hb).1
   have hle:=o'.pren
   rw[bN (by omega)]
   exact o'.pre i b hb
  ·rw[SS.n_new];exact Nat.le_succ_of_le o'.pren
  ·intro i hi hin
   rw[SS.n_new]at hin
   by_cases hc:i=s.n
   ·subst hc;rw[dt];exact o'.sz
   ·rw[bN (by omega)];exact o'.new i hi (by omega)
 base:=fun i hi=>by rw[bN (Nat.lt_of_lt_of_le hi h.n0)];exact h.base i hi
 n0:=by rw[SS.n_new];exact Nat.le_succ_of_le h.n0
structure Only (w w':World) (b:Nat):Prop where
 size:w'.heap.size=w.heap.size
 other:∀b',b'≠b->w'.heap[b']?=w.heap[b']?
 tape:w'.tape=w.tape
 os:w'.os=w.os
 out:w'.output=w.output
theorem St.put(h:St Γ β s w){i:Nat}{o o':SObj}(hi:s.objs[i]?=some o){w':World}(hw:Only w w' (β i))(hat:o'.At β w'.heap[β i]?)(hok:o'.ok s.n) :
  St Γ β (s.set i o') w' where
 lt:=by
  intro j hj
  rw[SS.n_set]at hj
  rw[hw.size];exact h.lt j hj
 inj:=by
  intro j k hj hk
  rw[SS.n_set]at hj hk
  exact h.inj j k hj hk
 at_:=by
  intro j o'' hj
  simp only[SS.set]at hj
  by_cases hji:j=i
  ·subst hji
   have hlt:=dB hi
   rw[List.getElem?_set_self hlt]at hj
   simp only[Option.some.injEq]at hj
   subst hj
   exact hat
  ·rw[List.getElem?_set_ne (Ne.symm hji)]at hj
   rw[hw.other (β j) fun he=>hji (h.inj j i (dB hj) (dB hi) he)]
   exact h.at_ j o'' hj
 ok:=by
  intro j o'' hj
  rw[SS.n_set]
  simp only[SS.set]at hj
  by_cases hji:j=i
  ·subst hji
   have hlt:=dB hi
   rw[List.getElem?_set_self hlt]at hj
   simp only[Option.some.injEq]at hj
   subst hj
   exact hok
  ·rw[List.getElem?_set_ne (Ne.symm hji)]at hj
   exact h.ok j o'' hj
 gl:=by
  intro p hp
  rw[SS.n_set]
  exact h.gl p hp
 old:=fun he=>by
  have o':=h.old he
  refine{ fr:=?_,sz:=?_,tape:=hw.tape.trans o'.tape,os:=hw.os.trans o'.os,out:=hw.out.trans o'.out,pre:=o'.pre,pren:=?_,new:=?_ }
  ·intro b hb hne
   rw[hw.other b (fun he=>hne i (by rw[SS.n_set];exact dB hi) he.symm)]
   exact o'.fr b hb fun j hj=>hne j (by rw[SS.n_set];exact hj)
  ·rw[hw.size];exact o'.sz
  ·rw[SS.n_set];exact o'.pren
  ·intro j hj hjn
   rw[SS.n_set]at hjn
   exact o'.new j hj hjn
 base:=h.base
 n0:=by rw[SS.n_set];exact h.n0
theorem Old.heap{β:Nat->Nat}{s:SS}{w:World}(h:Old β s w){b:Nat}(hb:b<s.w0.heap.size)(hp:b ∉ s.pre):w.heap[b]?=s.w0.heap[b]?:=by
 refine h.fr b hb fun i hi he=>?_
 by_cases hl:i<s.pre.length
 ·have h1:=h.pre i _ (List.getElem?_eq_getElem hl)
  exact hp (by rw[<- he,h1];exact List.getElem_mem hl)
 ·have:=h.new i (by omega) hi
  omega
theorem Old.cell{β:Nat->Nat}{s:SS}{w:World}(h:Old β s w){a:Addr}(hb:a.block<s.w0.heap.size)(hp:a.block ∉ s.pre):w.cell? a=s.w0.cell? a:=by
 simp only[World.cell?,h.heap hb hp]
theorem aD(a:Addr)(n:Nat):(a.add n).block=a.block:=by unfold Addr.add;split <;> rfl
theorem add_plain(b off j:Nat):(Addr.mk b off none).add j=⟨b,off+j,none⟩:=by
 unfold Addr.add
 split
 ·rename_i h;subst h;rfl
 ·rfl
theorem St.cell(h:St Γ β s w){id tot lo hi:Nat}{cs:List SV}{e:TypeId}(ho:s.objs[id]?=some (.cells cs tot e lo hi)){off:Nat}{v:SV}(hv:cs[off]?=some v) :
  w.cell? ⟨β id,off,none⟩=some (v.den β):=by
 obtain⟨rest,h1,_⟩:=h.at_ id _ ho
 have hlt:=(List.getElem?_eq_some_iff.1 hv).1
 simp only[World.cell?,h1]
 simp[List.getElem?_append_left (show off<(ae β cs).length by rw[av];exact hlt),bQ,hv]
theorem St.icell(h:St Γ β s w){id lo hi:Nat}{k:IntKind}{l:List Int}{e:TypeId}(ho:s.objs[id]?=some (.ints k l e lo hi)){off:Nat}(hv:off<l.length) :
  w.cell? ⟨β id,off,none⟩=some (.int k (l.getD off 0)):=by
 have h1:=h.at_ id _ ho
 simp only[SObj.At]at h1
 simp only[World.cell?,h1]
 simp[hv,List.getD]
variable {P:Program}
theorem gP{t:TypeId}{r:Option Nat}(h:ew P t=some r):(isAgg t).run P w=.ok r.isSome w:=by
 unfold ew at h
 unfold isAgg underlying
 cases hu:P.underlying t with
 |none=>rw[hu]at h;cases h
 |some d=>
  rw[hu]at h
  cases d <;> simp_all <;> (obtain⟨i,_,rfl⟩:=h;rfl)
theorem run_sizeOf{t:TypeId}{i:TypeInfo}(h:P.info? t=some i):(sizeOf t).run P w=.ok i.size w:=by
 simp[sizeOf,typeInfo,h]
theorem fI{t:TypeId}{n:Nat}(h:ew P t=some (some n)):(sizeOf t).run P w=.ok n w:=by
 unfold ew at h
 cases hu:P.underlying t with
 |none=>rw[hu]at h;cases h
 |some d=>
  rw[hu]at h
  cases d <;> simp at h <;> (obtain⟨i,hi,rfl⟩:=h;exact run_sizeOf hi)
theorem iM{t:TypeId}(h:ew P t=some none){a:Addr}{v:Value}(hc:w.cell? a=some v):(loadVar t a).run P w=.ok v w:=by
 unfold loadVar
 simp only[Sem.run_bind,gP h,Result.andThen_ok]
 simp[run_load,hc]
theorem oT{t:TypeId}{n:Nat}(h:ew P t=some (some n)){b off:Nat}{cs:List Value}(hl:cs.length=n)(hc:∀j v,cs[j]?=some v->w.cell? ⟨b,off+j,none⟩=some v) :
  (loadVar t ⟨b,off,none⟩).run P w=.ok (.agg cs.toArray) w:=by
 unfold loadVar
 simp only[Sem.run_bind,gP h,Result.andThen_ok]
 have:=run_loadCells_list (P:=P) w ⟨b,off,none⟩ cs (fun j v hv=>by rw[add_plain];exact hc j v hv)
 simp[fI h,<- hl,this]
theorem m6{t:TypeId}{n:Nat}(h:ew P t=some (some n)){a:Addr}{cs:List Value}(hl:cs.length=n)(hc:∀j v,cs[j]?=some v->w.cell? (a.add j)=some v) :
  (loadVar t a).run P w=.ok (.agg cs.toArray) w:=by
 unfold loadVar
 simp only[Sem.run_bind,gP h,Result.andThen_ok]
 have:=run_loadCells_list (P:=P) w a cs hc
 simp[fI h,<- hl,this]
theorem Bk{P:Program}{t:TypeId}{w:World}{a:Addr}{v:SV}(h:yj P t w a=some v):v.ok 0:=by
 unfold yj at h
 split at h <;> first |(simp only[Option.some.injEq]at h;subst h;trivial) |cases h
theorem oe{P:Program}{w:World}{a:Addr}:∀(ts:List TypeId) (j:Nat) (vs:List SV),je P w a ts j=some vs->bf 0 vs
 |[],j,vs,h=>by simp only[je,Option.some.injEq]at h;subst h;trivial
 |t :: ts,j,vs,h=>by
  unfold je at h
  split at h
  ·rename_i v vs' hv hvs
   simp only[Option.some.injEq]at h
   subst h
   exact⟨Bk hv,oe ts (j+1) vs' hvs⟩
  ·cases h
theorem cj(b off:Nat)(e:TypeId)(lo hi:Nat):∀(vs:List Value) (i:Nat) (w:World) (c:List Value),
  w.heap[b]?=some (.cells c.toArray e (lo,hi))->(∀v∈vs,v.oneCell'=true)->off+i+vs.length<=c.length->(hi<=off+i∨off+i+vs.length<=lo∨hi<=lo) ->
  ∃w',(storeCells ⟨b,off,none⟩ vs i).run P w=.ok () w'/\w'.heap[b]?=some (.cells (bz c (off+i) vs).toArray e (lo,hi))/\Only w w' b
 |[],i,w,c,hb,_,_,_=>⟨w,rfl,hb,rfl,fun _ _=>rfl,rfl,rfl,rfl⟩
 |v :: vs,i,w,c,hb,hv,hlen,hfz=>by
  simp only[List.length_cons]at hlen hfz
  have hc:w.cell? ⟨b,off+i,none⟩=some c[off+i]:=by
   simp only[World.cell?,hb]
   simp[show off+i<c.length by omega]
  have hf:w.frozen? ⟨b,off+i,none⟩=false:=by
   simp only[World.frozen?,hb,Bool.and_eq_false_iff,decide_eq_false_iff_not]
   omega
  have hlt:b<w.heap.size:=by
   rcases Nat.lt_or_ge b w.heap.size with h |h
   ·exact h
   ·rw[Array.getElem?_eq_none h]at hb;cases hb
  have hb':(w.setCell ⟨b,off+i,none⟩ v).heap[b]?=some (.cells (c.set (off+i) v).toArray e (lo,hi)):=by
   simp only[World.setCell,Array.getElem?_modify,if_true,hb,Option.map_some]
   simp
  obtain⟨w',h1,h2,h3⟩:=cj b off e lo hi vs (i+1) (w.setCell ⟨b,off+i,none⟩ v) (c.set (off+i) v) hb' (fun x hx=>hv x (List.mem_cons_of_mem _ hx)) (by simp;omega) (by omega)
  refine⟨w',?_,?_,?_⟩
  ·simp only[storeCells,Sem.run_bind,add_plain]
   rw[run_store P w _ v _ (hv v (List.mem_cons_self ..)),hc]
   simp only[hf,Bool.false_eq_true,if_false,Result.andThen_ok]
   exact h1
  ·rw[h2];simp only[bz];rfl
  ·refine⟨h3.size.trans (World.size_setCell _ _ _),fun b' hb''=>?_,h3.tape,h3.os,h3.out⟩
   rw[h3.other b' hb'']
   simp[World.setCell,Array.getElem?_modify,Ne.symm hb'']
end
end
section
def SE.exit':SE->Exit
 | .normal=>.normal
 | .exit i=>.exit i
 | .goto l=>.goto l
 | .ret=>.ret
def aG(β:Nat->Nat)(a:List SV):Act:={ tmps:=(ae β a).toArray,defers:=[] }
structure Ext (Γ:Ctx) (β:Nat->Nat) (s:SS) (β':Nat->Nat) (s':SS) (w':World):Prop where
 st:St Γ β' s' w'
 le:s.n<=s'.n
 agree:∀i,i<s.n->β' i=β i
def T.holds(Γ:Ctx):T->Prop
 | .leaf e vs s=>∀β w,St Γ β s w->bf s.n vs->Γ.Q e (ae β vs) w
 | .bad _=>False
 | .need p t=>p/\T.holds Γ t
 | .split b t f=>(b=true->T.holds Γ t)/\(b=false->T.holds Γ f)
 | .choose q k=>∀t,T.holds Γ (k (q.cut t))
 | .both a b=>T.holds Γ a/\T.holds Γ b
 | .call f args s X out k=>∀β w,St Γ β s w->bf s.n args->Calls Γ.P f (ae β args).toArray w fun e w'=>
   ∃(x:X) (β':Nat->Nat) (bs:List Nat),e=.returned ((out x).1.den β')/\Ext Γ β s β' (iV s (out x).2 w' bs) w'/\(out x).1.ok (out x).2.length/\T.holds Γ (k x w' bs)
 | .loop _ body a s X out k Y out' k'=>∀β w,St Γ β s w->bf s.n a->(Code.loop body).wp Γ.P (fun e a' w'=>
   (∃(x:X) (β':Nat->Nat) (bs:List Nat),e=(out x).1.exit'/\a'=aG β' (out x).2.1/\Ext Γ β s β' (iV s (out x).2.2 w' bs) w'/\bf (out x).2.2.length (out x).2.1 /\
    (out x).2.1.length=a.length/\T.holds Γ (k x w' bs)) ∨
   (∃(x:Y) (β':Nat->Nat) (bs:List Nat),e=(out' x).1.exit'/\a'=aG β' (out' x).2.1/\Ext Γ β s β' (iV s (out' x).2.2 w' bs) w'/\bf (out' x).2.2.length (out' x).2.1 /\
    (out' x).2.1.length=a.length/\T.holds Γ (k' x w' bs))) (aG β a) w
variable {Γ:Ctx}{β:Nat->Nat}{s:SS}{w:World}
theorem Ext.refl(h:St Γ β s w):Ext Γ β s β s w:=⟨h,Nat.le_refl _,fun _ _=>rfl⟩
theorem Ext.trans{β' β'':Nat->Nat}{s' s'':SS}{w' w'':World}(h:Ext Γ β s β' s' w')(h':Ext Γ β' s' β'' s'' w''):Ext Γ β s β'' s'' w'':=
 ⟨h'.st,Nat.le_trans h.le h'.le,fun i hi=>(h'.agree i (Nat.lt_of_lt_of_le hi h.le)).trans (h.agree i hi)⟩
def Good(Γ:Ctx)(β:Nat->Nat)(s:SS)(r:Result Value)(K:SV->SS->T):Prop:=
 ∃v s' β' w',r=.ok (v.den β') w'/\Ext Γ β s β' s' w'/\v.ok s'.n/\(K v s').holds Γ
def Same(Γ:Ctx)(β:Nat->Nat)(s:SS)(w:World)(r:Result Value)(K:SV->T):Prop:=
 ∃v,r=.ok (v.den β) w/\v.ok s.n/\(K v).holds Γ
theorem Same.good{r:Result Value}{K:SV->SS->T}(hs:St Γ β s w)(h:Same Γ β s w r fun v=>K v s):Good Γ β s r K:=
 let ⟨v,h1,h2,h3⟩:=h
 ⟨v,s,β,w,h1,Ext.refl hs,h2,h3⟩
theorem xL{id off:Nat}{K:SV->T}(h:(Em s id off K).holds Γ)(hs:St Γ β s w) :
  ∃v,w.cell? ⟨β id,off,none⟩=some (v.den β)/\v.ok s.n/\(K v).holds Γ:=by
 unfold Em at h
 split at h
 ·rename_i cs _ _ _ _ ho
  split at h
  ·rename_i v hv
   exact⟨v,hs.cell ho hv,ik (hs.ok id _ ho) hv,h⟩
  ·exact h.elim
 ·rename_i k l _ _ _ ho
  obtain⟨hlt,h⟩:=h
  exact⟨.int k (l.getD off 0) false,hs.icell ho hlt,trivial,h⟩
 ·exact h.elim
theorem kh{t:TypeId}{id off:Nat}{K:SV->T}(h:(oH Γ.P t (.ptr id off) s K).holds Γ)(hs:St Γ β s w) :
  Same Γ β s w ((loadVar t ⟨β id,off,none⟩).run Γ.P w) K:=by
 simp only[oH]at h
 split at h
 ·exact h.elim
 ·rename_i ha
  obtain⟨v,h1,h2,h3⟩:=xL h hs
  exact⟨v,iM ha h1,h2,h3⟩
 ·rename_i n ha
  split at h
  ·rename_i cs _ _ _ _ ho
   split at h
   ·rename_i l hl
    refine⟨.agg l,?_,kd hl (hs.ok id _ ho),h⟩
    have hlen:=eB hl
    have:=oT (P:=Γ.P) (w:=w) ha (b:=β id) (off:=off) (cs:=ae β l) (by rw[av];exact hlen) (fun j v hv=>by
     rw[bQ]at hv
     cases hj:l[j]? with
     |none=>rw[hj]at hv;cases hv
     |some x=>
      rw[hj]at hv
      simp only[Option.map_some,Option.some.injEq]at hv
      have hjlt:=(List.getElem?_eq_some_iff.1 hj).1
      rw[kX hl j (by omega)]at hj
      rw[hs.cell ho hj,hv])
    rw[this]
    simp only[SV.den]
   ·exact h.elim
  ·exact h.elim
theorem qV{t:TypeId}{a:Addr}{K:SV->T}(h:(Js Γ.P t a s K).holds Γ)(hs:St Γ β s w) :
  Same Γ β s w ((loadVar t a).run Γ.P w) K:=by
 unfold Js at h
 split at h
 ·rename_i he
  have o:=hs.old he
  split at h
  ·exact h.elim
  ·rename_i ts hts
   split at h
   ·exact h.elim
   ·rename_i vs hvs
    obtain⟨⟨hb,hp,hc⟩,h⟩:=h
    have hok:=oe ts 0 vs hvs
    have hc':∀(j:Nat) (v:SV),vs[j]?=some v->w.cell? (a.add j)=some (v.den id):=fun j v hj=>by
     rw[o.cell (by rw[aD];exact hb) (by rw[aD];exact hp)];exact hc j v hj
    split at h
    ·exact h.elim
    ·rename_i ha
     split at h
     ·rename_i v
      refine⟨v,iM ha ?_,SV.ok_mono (Nat.zero_le _) v hok.1,h⟩
      rw[SV.den_closed hok.1 β]
      exact hc' 0 v rfl
     ·exact h.elim
    ·rename_i n ha
     split at h
     ·rename_i hn
      refine⟨.agg vs,?_,bu (Nat.zero_le _) vs hok,h⟩
      have:=m6 (P:=Γ.P) (w:=w) ha (a:=a) (cs:=ae id vs) (by rw[av];exact hn) (fun j v hv=>by
       rw[bQ]at hv
       cases hj:vs[j]? with
       |none=>rw[hj]at hv;cases hv
       |some x=>
        rw[hj]at hv
        simp only[Option.map_some,Option.some.injEq]at hv
        rw[hc' j x hj,hv])
      rw[this]
      simp only[SV.den,cY hok β]
     ·exact h.elim
 ·exact h.elim
theorem oI{t:TypeId}{a:SV}{K:SV->T}(h:(oH Γ.P t a s K).holds Γ)(hs:St Γ β s w) :
  Same Γ β s w ((Instr.loadAt t (a.den β)).run Γ.P w) K:=by
 cases a with
 |xp a=>
  have:=qV (t:=t) (a:=a) (K:=K) h hs
  simpa [Instr.loadAt,Instr.sureAddr,SV.den] using this
 |ptr id off=>
  have:=kh h hs
  simpa [Instr.loadAt,Instr.sureAddr,SV.den] using this
 |_=>exact(show False from h).elim
theorem dF{lo hi off n:Nat}(h:ap lo hi off n=true):hi<=off∨off+n<=lo∨hi<=lo:=by
 simpa [ap] using h
theorem m0{id tot lo hi:Nat}{e:TypeId}{cs cs' vs:List SV}{off:Nat}(hs:St Γ β s w)(ho:s.objs[id]?=some (.cells cs tot e lo hi))(hp:fp off vs cs=some cs')
  (hf:ap lo hi off vs.length=true) (h1:vs.all SV.isOne=true) (hok:bf s.n vs) :
  ∃w',(storeCells ⟨β id,off,none⟩ (ae β vs)).run Γ.P w=.ok () w'/\St Γ β (s.set id (.cells cs' tot e lo hi)) w':=by
 obtain⟨rest,hb,htot⟩:=hs.at_ id _ ho
 obtain⟨p1,p2,p3,p4⟩:=im β off vs cs cs' hp
 have:=dF hf
 obtain⟨w',r1,r2,r3⟩:=cj (P:=Γ.P) (β id) off e lo hi (ae β vs) 0 w (ae β cs++rest) hb (fun v hv=>by
   rw[cD]at hv
   obtain⟨x,hx,rfl⟩:=List.mem_map.1 hv
   exact SV.isOne_den (List.all_eq_true.1 h1 x hx) β) (by rw[av,List.length_append,av];omega) (by rw[av];omega)
 refine⟨w',r1,hs.put ho r3 ?_ (p4 _ hok (hs.ok id _ ho))⟩
 exact⟨rest,by rw[r2,Nat.add_zero,p3],by omega⟩
theorem oA:∀(vs a rest:List Value),vs.length<=rest.length->bz (a++rest) a.length vs=a++vs++rest.drop vs.length
 |[],a,rest,_=>by simp[bz]
 |v :: vs,a,rest,hr=>by
  cases rest with
  |nil=>simp at hr
  |cons r rest=>
   have e:(a++r :: rest).set a.length v=(a++[v])++rest:=by simp
   have:=oA vs (a++[v]) rest (by simp at hr;omega)
   simp only[List.length_append,List.length_cons,List.length_nil]at this
   simp only[bz,e,this]
   simp
theorem DJ{id lo hi:Nat}{e:TypeId}{k:IntKind}{l vs:List Int}{off:Nat}(hs:St Γ β s w)(ho:s.objs[id]?=some (.ints k l e lo hi))(hf:ap lo hi off vs.length=true)(hle:off+vs.length<=l.length) :
  ∃w',(storeCells ⟨β id,off,none⟩ (vs.map (Value.int k))).run Γ.P w=.ok () w'/\St Γ β (s.set id (.ints k (l.take off++vs++l.drop (off+vs.length)) e lo hi)) w':=by
 have hb:=hs.at_ id _ ho
 have hth:=dF hf
 obtain⟨w',r1,r2,r3⟩:=cj (P:=Γ.P) (β id) off e lo hi (vs.map (Value.int k)) 0 w (l.map (Value.int k)) hb (fun v hv=>by
   obtain⟨x,_,rfl⟩:=List.mem_map.1 hv
   rfl) (by simp;omega) (by simp;omega)
 refine⟨w',r1,hs.put ho r3 ?_ trivial⟩
 show w'.heap[β id]?=_
 rw[r2,Nat.add_zero]
 have e1:l.map (Value.int k)=(l.take off).map (Value.int k)++(l.drop off).map (Value.int k):=by rw[<- List.map_append,List.take_append_drop]
 have e2:((l.take off).map (Value.int k)).length=off:=by simp;omega
 have key:=oA (vs.map (Value.int k)) ((l.take off).map (Value.int k)) ((l.drop off).map (Value.int k)) (by simp;omega)
 rw[e2]at key
 rw[e1,key]
 simp[List.drop_drop,List.map_append]
theorem yG{id tot lo hi:Nat}{e:TypeId}{cs vs:List SV}(hs:St Γ β s w)(ho:s.objs[id]?=some (.cells cs tot e lo hi))
  (hf:ap lo hi cs.length vs.length=true) (hroom:cs.length+vs.length<=tot) (h1:vs.all SV.isOne=true) (hok:bf s.n vs) :
  ∃w',(storeCells ⟨β id,cs.length,none⟩ (ae β vs)).run Γ.P w=.ok () w'/\St Γ β (s.set id (.cells (cs++vs) tot e lo hi)) w':=by
 obtain⟨rest,hb,htot⟩:=hs.at_ id _ ho
 have:=dF hf
 obtain⟨w',r1,r2,r3⟩:=cj (P:=Γ.P) (β id) cs.length e lo hi (ae β vs) 0 w (ae β cs++rest) hb (fun v hv=>by
   rw[cD]at hv
   obtain⟨x,hx,rfl⟩:=List.mem_map.1 hv
   exact SV.isOne_den (List.all_eq_true.1 h1 x hx) β) (by rw[av,List.length_append,av];omega) (by rw[av];omega)
 refine⟨w',r1,hs.put ho r3 ?_ (em (hs.ok id _ ho) hok)⟩
 refine⟨rest.drop vs.length,?_,by rw[List.length_append,List.length_drop];omega⟩
 rw[r2,Nat.add_zero]
 have key:∀(a vs rest:List Value),vs.length<=rest.length->bz (a++rest) a.length vs=a++vs++rest.drop vs.length:=by
  intro a vs
  induction vs generalizing a with
  |nil=>intro rest _;simp[bz]
  |cons v vs ih=>
   intro rest hr
   cases rest with
   |nil=>simp at hr
   |cons r rest=>
    simp only[List.length_cons]at hr
    simp only[bz]
    have e1:(a++r :: rest).set a.length v=(a++[v])++rest:=by
     rw[List.set_append_right _ _ (Nat.le_refl _)];simp
    have e2:a.length+1=(a++[v]).length:=by simp
    rw[e1,e2,ih (a++[v]) rest (by omega)]
    simp
 have h2:=key (ae β cs) (ae β vs) rest (by rw[av];omega)
 rw[av,av]at h2
 rw[h2,dz]
theorem tY{t:TypeId}{a v:SV}{K:SS->T}(h:(yX Γ.P t a v s K).holds Γ)(hs:St Γ β s w)(hv:v.ok s.n) :
  ∃s' w',(Instr.storeAt t (a.den β) (v.den β)).run Γ.P w=.ok () w'/\Ext Γ β s β s' w'/\(K s').holds Γ:=by
 cases a with
 |ptr id off=>
  simp only[yX]at h
  split at h
  ·exact h.elim
  ·rename_i i hi
   split at h
   ·rename_i hsz
    split at h
    ·rename_i hone
     have hrun:∀w',(storeCells ⟨β id,off,none⟩ (ae β v.cells)).run Γ.P w=.ok () w'->(Instr.storeAt t (.pointer (some ⟨β id,off,none⟩)) (v.den β)).run Γ.P w=.ok () w':=by
      intro w' hw
      simp only[Instr.storeAt,Instr.sureAddr,storeVar,Sem.run_bind,Sem.run_pure,Result.andThen_ok,run_sizeOf hi,SV.cells_den]
      simp[av,hsz,hw]
     split at h
     ·rename_i cs tot e lo hi' ho
      split at h
      ·rename_i cs' hp
       split at h
       ·rename_i hf
        obtain⟨w',r1,r2⟩:=m0 hs ho hp hf hone (SV.cells_ok hv)
        exact⟨_,w',hrun w' r1,⟨r2,by rw[SS.n_set];exact Nat.le_refl _,fun _ _=>rfl⟩,h⟩
       ·exact h.elim
      ·exact h.elim
     ·rename_i k l e lo hi' ho
      split at h
      ·rename_i k' n _
       split at h
       ·rename_i hk
        subst hk
        obtain⟨hlt,hf,h⟩:=h
        have hb:=hs.at_ id _ ho
        simp only[SObj.At]at hb
        have:=dF hf
        obtain⟨w',r1,r2,r3⟩:=cj (P:=Γ.P) (β id) off e lo hi' [.int k n] 0 w (l.map (Value.int k)) hb (by simp[Value.oneCell']) (by simp;omega) (by simp;omega)
        refine⟨_,w',hrun w' ?_,⟨hs.put ho r3 (o':=.ints k (l.set off n) e lo hi') ?_ trivial,by rw[SS.n_set];exact Nat.le_refl _,fun _ _=>rfl⟩,h⟩
        ·simpa [SV.cells,ae,SV.den] using r1
        ·simp only[SObj.At,r2,Nat.add_zero,bz]
         simp[List.map_set]
       ·exact h.elim
      ·exact h.elim
     ·exact h.elim
    ·exact h.elim
   ·exact h.elim
 |_=>exact(show False from h).elim
theorem qX{cs:List SV}{e:TypeId}{K:SV->SS->T}(h:(FT s cs e K).holds Γ)(hs:St Γ β s w)(hok:bf s.n cs) :
  Good Γ β s (.ok (.pointer (some ⟨w.heap.size,0,none⟩)) (w.alloc (.cells (ae β cs).toArray e))) K:=by
 unfold FT at h
 split at h
 ·rename_i hone
  refine⟨.ptr s.n 0,s.new (.cells cs cs.length e 0 0),xZ β s.n w.heap.size,w.alloc (.cells (ae β cs).toArray e),?_,⟨hs.alloc (o:=.cells cs cs.length e 0 0) ?_ (bu (Nat.le_succ _) cs hok),?_,fun i hi=>bN hi⟩,?_,h⟩
  ·simp only[SV.den,dt]
  ·refine⟨[],?_,by simp⟩
   rw[bI (fun i hi=>bN hi) cs hok,List.append_nil]
  ·rw[SS.n_new];exact Nat.le_succ _
  ·rw[SS.n_new];exact Nat.lt_succ_self _
 ·exact h.elim
theorem eu{t:TypeId}{z:SV}(h:oM Γ.P t=some z):∃i v,Γ.P.info? t=some i/\i.zero=some v/\(∀β,z.den β=v)/\(∀n,z.ok n):=by
 unfold oM at h
 split at h
 ·rename_i i hi
  split at h
  ·rename_i v hv
   exact⟨i,v,hi,hv,fun β=>SV.ofValue_den h β,fun n=>SV.ofValue_ok h n⟩
  ·cases h
 ·cases h
theorem cx{P:Program}{t:TypeId}{i:TypeInfo}{v:Value}(hi:P.info? t=some i)(hv:i.zero=some v):(zeroValue t).run P w=.ok v w:=by
 simp[zeroValue,typeInfo,hi,hv]
theorem tU{e:TypeId}{K:SV->SS->T}(h:(yP Γ.P e s K).holds Γ)(hs:St Γ β s w) :
  Good Γ β s ((Instr.alloc e true (.tuple #[])).run Γ.P w) K:=by
 unfold yP at h
 split at h
 ·rename_i z hz
  obtain⟨i,v,hi,hv,hd,hk⟩:=eu hz
  have:=qX h hs (SV.cells_ok (hk s.n))
  have hrun:(Instr.alloc e true (.tuple #[])).run Γ.P w=.ok (.pointer (some ⟨w.heap.size,0,none⟩)) (w.alloc (.cells (ae β z.cells).toArray e)):=by
   simp only[Instr.alloc,Sem.run_bind,cx hi hv,Result.andThen_ok]
   simp[newVar,newRow,<- SV.cells_den,hd β]
  rw[hrun];exact this
 ·exact h.elim
theorem FE{e:TypeId}{v:SV}:(Instr.box e (v.den β)).run Γ.P w=.ok (.pointer (some ⟨w.heap.size,0,none⟩)) (w.alloc (.cells (ae β v.cells).toArray e)):=by
 simp[Instr.box,newVar,newRow,SV.cells_den]
end
section
variable {Γ:Ctx}{β:Nat->Nat}{s:SS}{w:World}
theorem ab{P:Program}{t:TypeId}{d:TypeDesc}(h:P.underlying t=some d)(w:World):(underlying t).run P w=.ok d w:=run_underlying h w
theorem run_typeInfo{P:Program}{t:TypeId}{i:TypeInfo}(h:P.info? t=some i)(w:World):(typeInfo t).run P w=.ok i w:=by
 simp[typeInfo,h]
theorem iH{P:Program}:∀(fs:List Field) (l:List (Nat×Nat)),eL P fs=some l ->
  (fs.mapM (m:=Sem) fun f=>do pure (f.offset,<- sizeOf f.type)).run P w=.ok l w
 |[],l,h=>by simp[eL]at h;subst h;rfl
 |f :: fs,l,h=>by
  simp only[eL]at h
  split at h
  ·rename_i i l' hi hl'
   simp only[Option.some.injEq]at h
   subst h
   have ih:=iH fs l' hl'
   simp only[List.mapM_cons,Sem.run_bind,run_sizeOf hi,Result.andThen_ok,Sem.run_pure,ih]
  ·cases h
theorem rF(vs:List Value):∀(k off:Nat) (a:Array Value),(vs.zipIdx k).foldl (fun cs (c,j)=>cs.setIfInBounds (off+j) c) a=(bz a.toList (off+k) vs).toArray:=by
 induction vs with
 |nil=>intro k off a;simp[bz]
 |cons v vs ih=>
  intro k off a
  simp only[List.zipIdx_cons,List.foldl_cons,bz]
  rw[ih (k+1) off]
  simp[Nat.add_assoc]
theorem hO(place:Nat->Option (Nat×Nat)):∀(parts:List (Nat×SV)) (cells cs:List SV),pZ place cells parts=some cs ->
  Instr.fill place (ae β cells).toArray (parts.map fun p=>(p.1,p.2.den β))=some (ae β cs).toArray/\(∀n,bf n cells->(∀p∈parts,p.2.ok n)->bf n cs)
 |[],cells,cs,h=>by
  simp only[pZ,Option.some.injEq]at h
  subst h
  exact⟨rfl,fun n hn _=>hn⟩
 |(i,v) :: rest,cells,cs,h=>by
  simp only[pZ]at h
  split at h
  ·cases h
  ·rename_i off size hp
   split at h
   ·rename_i hsz
    split at h
    ·rename_i cs' hput
     obtain⟨p1,p2,p3,p4⟩:=im β off v.cells cells cs' hput
     obtain⟨ih1,ih2⟩:=hO place rest cs' cs h
     refine⟨?_,fun n hn hall=>ih2 n (p4 n (SV.cells_ok (hall (i,v) (List.mem_cons_self ..))) hn) fun p hp=>hall p (List.mem_cons_of_mem _ hp)⟩
     simp only[List.map_cons,Instr.fill,hp,SV.cells_den]
     rw[if_neg (by simp[av,hsz];omega)]
     have e:(ae β v.cells).toArray.zipIdx.foldl (fun cs (c,j)=>cs.setIfInBounds (off+j) c) (ae β cells).toArray=(ae β cs').toArray:=by
      have:=rF (ae β v.cells) 0 off (ae β cells).toArray
      have p3':=p3 []
      simp only[List.append_nil]at p3'
      rw[p3']
      simpa using this
     rw[e]
     exact ih1
    ·cases h
   ·cases h
theorem mp{t:TypeId}{parts:List (Nat×SV)}{K:SV->T}(h:(yR Γ.P t parts K).holds Γ)(hok:∀p∈parts,p.2.ok s.n) :
  Same Γ β s w ((Instr.build t (parts.map fun p=>(p.1,p.2.den β)).toArray).run Γ.P w) K:=by
 unfold yR at h
 split at h
 ·exact h.elim
 ·rename_i z hz
  obtain⟨i,v,hi,hv,hd,hk⟩:=eu hz
  have hzc:v.cells=(ae β z.cells).toArray:=by rw[<- hd β,SV.cells_den]
  split at h
  ·rename_i fields hu
   split at h
   ·rename_i places hpl
    split at h
    ·rename_i cs hf
     obtain⟨f1,f2⟩:=hO (β:=β) _ parts z.cells cs hf
     refine⟨.agg cs,?_,f2 s.n (SV.cells_ok (hk _)) hok,h⟩
     have hm:(fields.mapM (m:=Sem) fun f=>do pure (f.offset,<- sizeOf f.type)).run Γ.P w=.ok places.toArray w:=by
      rw[Array.mapM_eq_mapM_toList]
      simp only[Sem.run_map,iH (w:=w) _ _ hpl,Result.andThen_ok]
     simp only[Instr.build,Sem.run_bind,cx hi hv,Result.andThen_ok,ab hu,hm,hzc]
     simp only[List.getElem?_toArray,f1,Sem.run_pure]
     rfl
    ·exact h.elim
   ·exact h.elim
  ·rename_i len elem hu
   split at h
   ·rename_i ie hie
    split at h
    ·rename_i cs hf
     obtain⟨f1,f2⟩:=hO (β:=β) _ parts z.cells cs hf
     refine⟨.agg cs,?_,f2 s.n (SV.cells_ok (hk _)) hok,h⟩
     simp only[Instr.build,Sem.run_bind,cx hi hv,Result.andThen_ok,ab hu,run_sizeOf hie,hzc]
     simp only[f1,Sem.run_pure]
     rfl
    ·exact h.elim
   ·exact h.elim
  ·exact h.elim
theorem tI(n:Nat)(z:List SV):ae β (c9 n z)=(List.replicate n (ae β z)).flatten:=by
 induction n with
 |zero=>rfl
 |succ n ih=>simp[c9,dz,ih,List.replicate_succ]
theorem yI{n m:Nat}{z:List SV}(h:bf m z):bf m (c9 n z):=by
 induction n with
 |zero=>trivial
 |succ n ih=>exact em h ih
theorem rC(z:List Value)(c:Nat):((Array.range (c*z.length)).map fun i=>z.toArray[i%z.length]!)=(List.replicate c z).flatten.toArray:=by
 apply Array.ext'
 rw[Array.toList_map,Array.toList_range]
 induction c with
 |zero=>simp
 |succ c ih=>
  rw[Nat.succ_mul,Nat.add_comm,List.replicate_succ,List.flatten_cons,List.range_add,List.map_append]
  have e1:(List.range z.length).map (fun i=>z.toArray[i%z.length]!)=z:=by
   apply List.ext_getElem?
   intro i
   by_cases hi:i<z.length
   ·simp[hi,Nat.mod_eq_of_lt hi]
   ·simp[hi,List.getElem?_eq_none (Nat.le_of_not_lt hi)]
  have e2:((List.range (c*z.length)).map fun x=>z.length+x).map (fun i=>z.toArray[i%z.length]!)=(List.range (c*z.length)).map fun i=>z.toArray[i%z.length]!:=by
   rw[List.map_map]
   apply List.map_congr_left
   intro i _
   simp[Nat.add_mod_left]
  rw[e1,e2,ih]
theorem mo{t:TypeId}{len:Nat}{parts:List (Nat×SV)}{K:SV->SS->T}(h:(jC Γ.P t len parts s K).holds Γ)(hs:St Γ β s w)(hok:∀p∈parts,p.2.ok s.n) :
  Good Γ β s ((Instr.buildSlice t len (parts.map fun p=>(p.1,p.2.den β)).toArray).run Γ.P w) K:=by
 unfold jC at h
 split at h
 ·rename_i elem hu
  split at h
  ·rename_i inf z hi hz
   obtain⟨i',v,hi',hv,hd,hk⟩:=eu hz
   rw[hi]at hi'
   simp only[Option.some.injEq]at hi'
   subst hi'
   split at h
   ·rename_i hc
    obtain⟨hsz,hle⟩:=hc
    split at h
    ·rename_i cs hf
     have hzc:v.cells=(ae β z.cells).toArray:=by rw[<- hd β,SV.cells_den]
     have okz:bf s.n (c9 len z.cells):=yI (SV.cells_ok (hk _))
     obtain⟨f1,f2⟩:=hO (β:=β) _ parts (c9 len z.cells) cs hf
     have okc:=f2 s.n okz hok
     have hrun:(Instr.buildSlice t len (parts.map fun p=>(p.1,p.2.den β)).toArray).run Γ.P w=.ok (.slice (some ⟨w.heap.size,0,none⟩) len len) (w.alloc (.cells (ae β cs).toArray elem)):=by
      have hle':¬len*inf.size > 2^24:=by omega
      simp only[Instr.buildSlice,Sem.run_bind,ab hu,Result.andThen_ok,run_sizeOf hi,hle',if_false]
      by_cases h0:len*inf.size=0
      ·simp only[h0,if_true,Sem.run_pure,Sem.run_bind,Result.andThen_ok]
       have e0:ae β (c9 len z.cells)=[]:=by
        apply List.eq_nil_of_length_eq_zero
        rw[tI]
        simp[List.length_flatten,av,hsz,h0]
       have e1:∀f:Nat->Value,(Array.range 0).map f=#[]:=fun f=>by apply Array.eq_empty_of_size_eq_zero;simp
       rw[e0]at f1
       simp only[e1]
       have f1':Instr.fill (fun i=>some (i*inf.size,inf.size)) #[] (parts.map fun p=>(p.1,p.2.den β))=some (ae β cs).toArray:=f1
       simp only[f1',Sem.run_bind,newRow,run_newObj,Result.andThen_ok,Sem.run_pure]
       rfl
      ·simp only[h0,if_false,Sem.run_bind,cx hi hv,Result.andThen_ok,Sem.run_pure]
       have e1:=rC (ae β z.cells) len
       rw[av,hsz]at e1
       have e2:(Array.range (len*inf.size)).map (fun x=>v.cells[x%v.cells.size]!)=(ae β (c9 len z.cells)).toArray:=by
        rw[tI,<- e1,hzc]
        simp[av,hsz]
       simp only[e2,f1,Sem.run_bind,newRow,run_newObj,Result.andThen_ok,Sem.run_pure]
       rfl
     refine⟨_,_,xZ β s.n w.heap.size,_,?_,⟨hs.alloc (o:=.cells cs cs.length elem 0 0) (ob:=.cells (ae β cs).toArray elem) ?_ (bu (Nat.le_succ _) cs okc),?_,fun i hi=>bN hi⟩,?_,h⟩
     ·rw[hrun]
      simp only[SV.den,dt]
     ·refine⟨[],?_,by simp⟩
      rw[List.append_nil,bI (fun i hi=>bN hi) _ okc]
     ·rw[SS.n_new];exact Nat.le_succ _
     ·rw[SS.n_new];exact Nat.lt_succ_self _
    ·exact h.elim
   ·exact h.elim
  ·exact h.elim
 ·exact h.elim
theorem dP{P:Program}{b off:Nat}{f:Field}{i:TypeInfo}(hi:P.info? f.type=some i)(h0:i.size≠0) :
  (fieldPlace ⟨b,off,none⟩ f).run P w=.ok ⟨b,off+f.offset,none⟩ w:=by
 simp[fieldPlace,run_sizeOf hi,h0,add_plain]
theorem gQ{t:TypeId}{a:SV}{f:Nat}{K:SV->T}(h:(kY Γ.P t a f K).holds Γ)(ha:a.ok s.n) :
  Same Γ β s w ((Instr.fieldAt t (a.den β) f).run Γ.P w) K:=by
 unfold kY at h
 split at h
 ·rename_i fields hu
  split at h
  ·rename_i fd hfd
   split at h
   ·rename_i i hi
    split at h
    ·exact h.elim
    ·rename_i h0
     split at h
     ·rename_i id off
      refine⟨_,?_,?_,h⟩
      ·simp[Instr.fieldAt,ab hu,hfd,SV.den,Instr.sureAddr,dP hi h0]
      ·exact ha
     ·refine⟨_,?_,?_,h⟩
      ·simp[Instr.fieldAt,ab hu,hfd,SV.den,Instr.sureAddr,fieldPlace,run_sizeOf hi,h0]
      ·trivial
     ·exact h.elim
   ·exact h.elim
  ·exact h.elim
 ·exact h.elim
theorem mZ{t:TypeId}{cs:List SV}{off:Nat}{v:SV}(h:xx Γ.P t cs off=some v) :
  (part t (ae β cs).toArray off).run Γ.P w=.ok (v.den β) w/\(∀n,bf n cs->v.ok n):=by
 unfold xx at h
 split at h
 ·cases h
 ·rename_i ha
  refine⟨?_,fun n hn=>ik hn h⟩
  simp only[part,Sem.run_bind,gP ha,Result.andThen_ok,Option.isSome_none,Bool.false_eq_true,if_false,List.getElem?_toArray,bQ,h,Option.map_some]
  rfl
 ·rename_i n ha
  cases ht:er off n cs with
  |none=>rw[ht]at h;cases h
  |some l=>
   rw[ht]at h
   simp only[Option.map_some,Option.some.injEq]at h
   subst h
   refine⟨?_,fun m hm=>kd ht hm⟩
   obtain⟨t1,rfl⟩:=eY off n cs l ht
   simp only[part,Sem.run_bind,gP ha,Result.andThen_ok,Option.isSome_some,if_true,fI ha,Sem.run_pure,SV.den]
   congr 2
   simp[cD,List.extract_eq_drop_take',List.map_drop,List.map_take]
theorem mr{t:TypeId}{x:SV}{f:Nat}{K:SV->T}(h:(yT Γ.P t x f K).holds Γ)(hx:x.ok s.n) :
  Same Γ β s w ((Instr.field t (x.den β) f).run Γ.P w) K:=by
 unfold yT at h
 split at h
 ·rename_i fields hu
  split at h
  ·rename_i fd hfd
   split at h
   ·rename_i cs
    split at h
    ·rename_i v hv
     obtain⟨p1,p2⟩:=mZ (β:=β) (w:=w) hv
     refine⟨v,?_,p2 _ hx,h⟩
     simp[Instr.field,ab hu,hfd,SV.den,asAgg,p1]
    ·exact h.elim
   ·exact h.elim
  ·exact h.elim
 ·exact h.elim
theorem gR{i:Int}{n:Nat}{lit:Bool}{t:T}(h:(HR i n lit t).holds Γ):(0<=i/\i<(n:Int))/\t.holds Γ:=by
 unfold HR at h
 split at h
 ·split at h
  ·exact⟨by assumption,h⟩
  ·exact h.elim
 ·exact h
theorem gS{t:TypeId}{x ix:SV}{K:SV->T}(h:(kZ Γ.P t x ix K).holds Γ)(hx:x.ok s.n) :
  Same Γ β s w ((Instr.indexAt t (x.den β) (ix.den β)).run Γ.P w) K:=by
 unfold kZ at h
 split at h
 ·rename_i k i li
  split at h
  ·rename_i len elem hu
   split at h
   ·rename_i id off
    split at h
    ·rename_i inf hi
     obtain⟨hin,h⟩:=gR h
     refine⟨_,?_,?_,h⟩
     ·simp[Instr.indexAt,SV.den,asIntOf,ab hu,Instr.sureAddr,hin,run_sizeOf hi,add_plain]
     ·exact hx
    ·exact h.elim
   ·split at h
    ·rename_i inf hi
     obtain⟨hin,h⟩:=gR h
     refine⟨_,?_,?_,h⟩
     ·simp[Instr.indexAt,SV.den,asIntOf,ab hu,Instr.sureAddr,hin,run_sizeOf hi]
     ·trivial
    ·exact h.elim
   ·exact h.elim
  ·rename_i elem hu
   split at h
   ·rename_i id off len cap ll lc
    split at h
    ·rename_i inf hi
     obtain⟨hin,h⟩:=gR h
     refine⟨_,?_,?_,h⟩
     ·simp[Instr.indexAt,SV.den,asIntOf,ab hu,hin,run_sizeOf hi,add_plain]
     ·exact hx
    ·exact h.elim
   ·rename_i A len cap
    split at h
    ·rename_i inf hi
     obtain⟨hin,hA,h⟩:=gR h
     refine⟨_,?_,?_,h⟩
     ·cases A with
      |none=>cases hA
      |some a=>simp[Instr.indexAt,SV.den,asIntOf,ab hu,hin,run_sizeOf hi]
     ·trivial
    ·exact h.elim
   ·exact h.elim
  ·exact h.elim
 ·exact h.elim
theorem mt{t:TypeId}{x ix:SV}{K:SV->T}(h:(yU Γ.P t x ix K).holds Γ)(hx:x.ok s.n) :
  Same Γ β s w ((Instr.index t (x.den β) (ix.den β)).run Γ.P w) K:=by
 unfold yU at h
 split at h
 ·rename_i k i li
  split at h
  ·rename_i len elem hu
   split at h
   ·rename_i cs
    split at h
    ·rename_i inf hi
     obtain⟨hin,h⟩:=gR h
     split at h
     ·rename_i v hv
      obtain⟨p1,p2⟩:=mZ (β:=β) (w:=w) hv
      refine⟨v,?_,p2 _ hx,h⟩
      simp[Instr.index,SV.den,asIntOf,ab hu,hin,run_sizeOf hi,p1]
     ·exact h.elim
    ·exact h.elim
   ·exact h.elim
  ·rename_i hu
   split at h
   ·rename_i str ls
    obtain⟨hin,h⟩:=gR h
    refine⟨_,?_,by trivial,h⟩
    have hlt:i.toNat<str.size:=by omega
    have e1:str[i.toNat]?=some (str.data.toList.getD i.toNat 0):=by
     rw[getElem?_pos str i.toNat hlt]
     congr 1
     simp only[List.getD_eq_getElem?_getD]
     rw[List.getElem?_eq_getElem (by simpa using hlt)]
     rfl
    simp only[Instr.index,SV.den,asIntOf,Sem.run_bind,Sem.run_pure,Result.andThen_ok,ab hu,hin.1,if_true,e1]
   ·exact h.elim
  ·exact h.elim
 ·exact h.elim
theorem ir{x:Option SV}{dflt:Nat}{dl:Bool}{y:Nat}{yl:Bool}{K:Nat->Bool->T}(h:(qR x dflt dl y yl K).holds Γ) :
  ∃n l,(K n l).holds Γ/\(∀code,(match x.map (SV.den β) with
   |some v=>(Instr.sliceBound v y code).run Γ.P w
   |none=>.ok dflt w)=.ok n w):=by
 unfold qR at h
 split at h
 ·exact⟨dflt,dl,h,fun _=>rfl⟩
 ·rename_i k i li
  have key:0<=i/\i<=(y:Int)->∀code,(Instr.sliceBound (Value.int k i) y code).run Γ.P w=.ok i.toNat w:=fun hi code=>by
   simp[Instr.sliceBound,asIntOf,hi]
  split at h
  ·split at h
   ·rename_i hin
    exact⟨i.toNat,true,h,fun code=>key hin code⟩
   ·exact h.elim
  ·obtain⟨hin,h⟩:=h
   exact⟨i.toNat,li,h,fun code=>key hin code⟩
 ·exact h.elim
theorem cR{len:Nat}{ll:Bool}{cap:Nat}{lc:Bool}{low high max:Option SV}{K:Nat->Bool->Nat->Bool->Nat->Bool->T}
  (h:(gi len ll cap lc low high max K).holds Γ) (isSlice:Bool) :
  ∃l l0 hh lh m lm,(K l l0 hh lh m lm).holds Γ/\(Instr.sliceBounds isSlice len cap (low.map (SV.den β)) (high.map (SV.den β)) (max.map (SV.den β))).run Γ.P w=.ok (l,hh,m) w:=by
 unfold gi at h
 split at h
 ·exact h.elim
 ·rename_i hne
  obtain⟨m,lm,h,hm⟩:=ir (β:=β) (w:=w) h
  obtain⟨hh,lh,h,hhh⟩:=ir (β:=β) (w:=w) h
  obtain⟨l,l0,h,hl⟩:=ir (β:=β) (w:=w) h
  refine⟨l,l0,hh,lh,m,lm,h,?_⟩
  cases max with
  |none=>
   simp only[Option.map_none]at hm
   have hm':cap=m:=by simpa using hm .index
   subst hm'
   cases high with
   |none=>
    have hh':len=hh:=by simpa using hhh .index
    subst hh'
    cases low with
    |none=>
     have hl':0=l:=by simpa using hl .index
     subst hl'
     simp[Instr.sliceBounds]
    |some v=>
     have:=hl .sliceB
     simp only[Option.map_some]at this
     simp[Instr.sliceBounds,this]
   |some v=>
    have h1:=fun code=>hhh code
    simp only[Option.map_some]at h1
    cases low with
    |none=>
     have hl':0=l:=by simpa using hl .index
     subst hl'
     simp[Instr.sliceBounds,h1]
    |some v=>
     have h2:=hl .sliceB
     simp only[Option.map_some]at h2
     simp[Instr.sliceBounds,h1,h2]
  |some mv=>
   have h0:=fun code=>hm code
   simp only[Option.map_some]at h0
   cases high with
   |none=>exact(hne _ rfl rfl).elim
   |some v=>
    have h1:=fun code=>hhh code
    simp only[Option.map_some]at h1
    cases low with
    |none=>
     have hl':0=l:=by simpa using hl .index
     subst hl'
     simp[Instr.sliceBounds,h0,h1]
    |some v=>
     have h2:=hl .slice3C
     simp only[Option.map_some]at h2
     simp[Instr.sliceBounds,h0,h1,h2]
theorem mL(b off l m k:Nat):(if m=l then(⟨b,off,none⟩:Addr) else(⟨b,off,none⟩:Addr).add (l*k))=⟨b,if m=l then off else off+l*k,none⟩:=by
 split
 ·rfl
 ·exact add_plain _ _ _
theorem mu{t:TypeId}{x:SV}{low high max:Option SV}{K:SV->T}(h:(yW Γ.P t x low high max K).holds Γ)(hx:x.ok s.n) :
  Same Γ β s w ((Instr.sliceAt t (x.den β) (low.map (SV.den β)) (high.map (SV.den β)) (max.map (SV.den β))).run Γ.P w) K:=by
 unfold yW at h
 split at h
 ·rename_i hu
  split at h
  ·rename_i str ls
   split at h
   ·obtain⟨l,l0,hh,lh,m,lm,h,hb⟩:=cR (β:=β) (w:=w) h false
    refine⟨_,?_,by trivial,h⟩
    simp only[Option.map_none]at hb
    simp[Instr.sliceAt,Instr.slice,ab hu,SV.den,hb]
   ·exact h.elim
  ·exact h.elim
 ·rename_i elem hu
  split at h
  ·rename_i inf hi
   split at h
   ·rename_i id off len cap ll lc
    obtain⟨l,l0,hh,lh,m,lm,h,hb⟩:=cR (β:=β) (w:=w) h true
    refine⟨_,?_,?_,h⟩
    ·simp only[Instr.sliceAt,Instr.slice,Sem.run_bind,ab hu,Result.andThen_ok,SV.den,hb,run_sizeOf hi,Sem.run_pure,Option.map_some]
     rw[<- mL]
     split <;> rfl
    ·exact hx
   ·rename_i A len cap
    obtain⟨l,l0,hh,lh,m,lm,h,hb⟩:=cR (β:=β) (w:=w) h true
    refine⟨_,?_,by trivial,h⟩
    simp only[Instr.sliceAt,Instr.slice,Sem.run_bind,ab hu,Result.andThen_ok,SV.den,hb,run_sizeOf hi,Sem.run_pure]
   ·rename_i len cap _
    obtain⟨l,l0,hh,lh,m,lm,h,hb⟩:=cR (β:=β) (w:=w) h true
    refine⟨_,?_,by trivial,h⟩
    simp only[Instr.sliceAt,Instr.slice,Sem.run_bind,ab hu,Result.andThen_ok,SV.den,hb,run_sizeOf hi,Sem.run_pure,Option.map_none]
    split <;> rfl
   ·exact h.elim
  ·exact h.elim
 ·rename_i n elem hu
  split at h
  ·rename_i inf hi
   split at h
   ·rename_i id off
    obtain⟨l,l0,hh,lh,m,lm,h,hb⟩:=cR (β:=β) (w:=w) h false
    refine⟨_,?_,?_,h⟩
    ·simp only[Instr.sliceAt,Sem.run_bind,ab hu,Result.andThen_ok,SV.den,Instr.sureAddr,hb,run_sizeOf hi,Sem.run_pure]
     rw[<- mL]
    ·exact hx
   ·exact h.elim
  ·exact h.elim
 ·rename_i arr hu
  split at h
  ·rename_i n elem hua
   split at h
   ·rename_i inf hi
    split at h
    ·rename_i id off
     obtain⟨l,l0,hh,lh,m,lm,h,hb⟩:=cR (β:=β) (w:=w) h false
     refine⟨_,?_,?_,h⟩
     ·simp only[Instr.sliceAt,Instr.slice,Sem.run_bind,ab hu,Result.andThen_ok,SV.den,asAddr,ab hua,hb,run_sizeOf hi,Sem.run_pure]
      rw[<- mL]
     ·exact hx
    ·exact h.elim
   ·exact h.elim
  ·exact h.elim
 ·exact h.elim
theorem qW{t ty:TypeId}{ts:List TypeId}{x:SV}{xs:List SV}{K:SV->T}(h:(Jt Γ.P t x K).holds Γ) :
  Same Γ β s w ((Builtin.len_ (t :: ts).toArray ty (ae β (x :: xs)).toArray).run Γ.P w) K:=by
 unfold Jt at h
 split at h
 ·rename_i hu
  split at h
  ·refine⟨_,?_,by trivial,h⟩
   simp[Builtin.len_,ae,SV.den,ab hu,goInt]
  ·exact h.elim
 ·rename_i n _ hu
  refine⟨_,?_,by trivial,h⟩
  simp[Builtin.len_,ae,SV.den,ab hu,goInt]
 ·rename_i arr hu
  split at h
  ·rename_i n _ hua
   refine⟨_,?_,by trivial,h⟩
   simp[Builtin.len_,ae,SV.den,ab hu,ab hua,goInt]
  ·exact h.elim
 ·rename_i e hu
  split at h
  ·refine⟨_,?_,by trivial,h⟩
   simp[Builtin.len_,ae,SV.den,ab hu,goInt]
  ·refine⟨_,?_,by trivial,h⟩
   simp[Builtin.len_,ae,SV.den,ab hu,goInt]
  ·refine⟨_,?_,by trivial,h⟩
   simp[Builtin.len_,ae,SV.den,ab hu,goInt]
  ·exact h.elim
 ·exact h.elim
theorem qT{t ty:TypeId}{ts:List TypeId}{x:SV}{xs:List SV}{K:SV->T}(h:(Jr Γ.P t x K).holds Γ) :
  Same Γ β s w ((Builtin.cap_ (t :: ts).toArray ty (ae β (x :: xs)).toArray).run Γ.P w) K:=by
 unfold Jr at h
 split at h
 ·rename_i n _ hu
  refine⟨_,?_,by trivial,h⟩
  simp[Builtin.cap_,ae,SV.den,ab hu,goInt]
 ·rename_i e hu
  split at h
  ·refine⟨_,?_,by trivial,h⟩
   simp[Builtin.cap_,ae,SV.den,ab hu,goInt]
  ·refine⟨_,?_,by trivial,h⟩
   simp[Builtin.cap_,ae,SV.den,ab hu,goInt]
  ·refine⟨_,?_,by trivial,h⟩
   simp[Builtin.cap_,ae,SV.den,ab hu,goInt]
  ·exact h.elim
 ·exact h.elim
end
section
variable {Γ:Ctx}{β:Nat->Nat}{s:SS}{w:World}
theorem kB{i:Nat}(h:mf s i=true)(hs:St Γ β s w):∃c e,w.heap[β i]?=some (.cells c e (0,0)):=by
 unfold mf at h
 split at h
 ·rename_i cs tot e lo hi ho
  simp only[Bool.and_eq_true,beq_iff_eq]at h
  obtain⟨rfl,rfl⟩:=h
  obtain⟨rest,h1,_⟩:=hs.at_ i _ ho
  exact⟨_,_,h1⟩
 ·rename_i k l e lo hi ho
  simp only[Bool.and_eq_true,beq_iff_eq]at h
  obtain⟨rfl,rfl⟩:=h
  have h1:=hs.at_ i _ ho
  exact⟨_,_,h1⟩
 ·cases h
theorem tJ{P:Program}{a b o o':Nat}{c c':Array Value}{e e':TypeId}(hne:a≠b)(ha:w.heap[a]?=some (.cells c e (0,0)))(hb:w.heap[b]?=some (.cells c' e' (0,0))) :
  (sameAddr ⟨a,o,none⟩ ⟨b,o',none⟩).run P w=.ok false w:=by
 have fa:∀k sp,w.frozen? ⟨a,k,sp⟩=false:=fun k sp=>by simp[World.frozen?,ha]
 have fb:∀k sp,w.frozen? ⟨b,k,sp⟩=false:=fun k sp=>by simp[World.frozen?,hb]
 have sa:w.shape? a=some (e,c.size):=by simp[World.shape?,ha]
 have sb:w.shape? b=some (e',c'.size):=by simp[World.shape?,hb]
 have hne':(a == b)=false:=by simpa using hne
 simp[sameAddr,hne',fa,fb,noView,viewAt,sa,sb,mayBeOne,stringish]
theorem cQ{a:SV}(h:gO a=true):a.den β=.pointer none:=by
 unfold gO at h
 split at h
 ·rfl
 ·cases h
theorem co{a:SV}(h:bJ a=true):a.den β=.nilIface:=by
 unfold bJ at h
 split at h
 ·rfl
 ·cases h
theorem dm{a:SV}(h:el a=true):∃n c,a.den β=.slice none n c:=by
 unfold el at h
 split at h
 ·exact⟨_,_,rfl⟩
 ·cases h
theorem pW{P:Program}{t e:TypeId}{d:Nat}{A:Option Addr}{n c n' c':Nat}(hu:P.underlying t=some (.slice e)) :
  (Op.equalIn (d+1) t (.slice none n c) (.slice A n' c')).run P w=.ok A.isNone w:=by
 cases A <;> simp[Op.equalIn,ab hu]
theorem pX{P:Program}{t e:TypeId}{d:Nat}{A:Option Addr}{n c n' c':Nat}(hu:P.underlying t=some (.slice e)) :
  (Op.equalIn (d+1) t (.slice A n c) (.slice none n' c')).run P w=.ok A.isNone w:=by
 cases A <;> simp[Op.equalIn,ab hu]
theorem kH{t:TypeId}{a b:SV}{K:Bool->Bool->T}(d:Nat)(h:(pi Γ.P t a b s K).holds Γ)(hs:St Γ β s w)(ha:a.ok s.n)(hb:b.ok s.n) :
  ∃r l,(Op.equalIn (d+1) t (a.den β) (b.den β)).run Γ.P w=.ok r w/\(K r l).holds Γ:=by
 unfold pi at h
 split at h
 ·rename_i hu
  split at h
  ·exact⟨_,_,by simp[Op.equalIn,ab hu,SV.den],h⟩
  ·exact h.elim
 ·rename_i k hu
  split at h
  ·split at h
   ·rename_i hk
    exact⟨_,_,by simp[Op.equalIn,ab hu,SV.den,hk],h⟩
   ·exact h.elim
  ·exact h.elim
 ·rename_i hu
  split at h
  ·exact⟨_,_,by simp[Op.equalIn,ab hu,SV.den],h⟩
  ·exact h.elim
 ·rename_i elem hu
  split at h
  ·rename_i na
   split at h
   ·rename_i nb
    exact⟨_,_,by simp[Op.equalIn,ab hu,cQ na,cQ nb],h⟩
   ·split at h
    ·exact⟨_,_,by simp[Op.equalIn,ab hu,cQ na,SV.den],h⟩
    ·exact⟨_,_,by simp[Op.equalIn,ab hu,cQ na,SV.den],h⟩
    ·exact h.elim
  ·split at h
   ·split at h
    ·rename_i nb
     exact⟨_,_,by simp[Op.equalIn,ab hu,cQ nb,SV.den],h⟩
    ·exact h.elim
   ·rename_i i o _
    split at h
    ·rename_i nb
     exact⟨_,_,by simp[Op.equalIn,ab hu,cQ nb,SV.den],h⟩
    ·split at h
     ·rename_i j o' _
      split at h
      ·rename_i inf hi
       split at h
       ·exact h.elim
       ·rename_i h0
        split at h
        ·rename_i hij
         subst hij
         refine⟨_,_,?_,h⟩
         simp only[Op.equalIn,Sem.run_bind,ab hu,Result.andThen_ok,SV.den,run_sizeOf hi,ne_eq,h0,not_false_eq_true,if_true,sameAddr]
         simp
         rw[Bool.eq_iff_iff];simp
        ·rename_i hij
         split at h
         ·rename_i hp
          rw[Bool.and_eq_true]at hp
          obtain⟨c,e,hca⟩:=kB hp.1 hs
          obtain⟨c',e',hcb⟩:=kB hp.2 hs
          refine⟨_,_,?_,h⟩
          have hne:β i≠β j:=fun he=>hij (hs.inj i j ha hb he)
          simp only[Op.equalIn,Sem.run_bind,ab hu,Result.andThen_ok,SV.den,run_sizeOf hi,ne_eq,h0,not_false_eq_true,if_true]
          exact tJ hne hca hcb
         ·exact h.elim
      ·exact h.elim
     ·exact h.elim
   ·exact h.elim
 ·rename_i e hu
  split at h
  ·rename_i na
   obtain⟨n,c,hna⟩:=dm (β:=β) na
   split at h
   ·rename_i nb
    obtain⟨n',c',hnb⟩:=dm (β:=β) nb
    exact⟨_,_,by simp[Op.equalIn,ab hu,hna,hnb],h⟩
   ·split at h
    ·exact⟨_,_,by simp[Op.equalIn,ab hu,hna,SV.den],h⟩
    ·exact⟨_,_,by rw[hna];exact pW hu,h⟩
    ·exact h.elim
  ·split at h
   ·split at h
    ·rename_i nb
     obtain⟨n',c',hnb⟩:=dm (β:=β) nb
     exact⟨_,_,by simp[Op.equalIn,ab hu,hnb,SV.den],h⟩
    ·exact h.elim
   ·split at h
    ·rename_i nb
     obtain⟨n',c',hnb⟩:=dm (β:=β) nb
     exact⟨_,_,by rw[hnb];exact pX hu,h⟩
    ·exact h.elim
   ·exact h.elim
 ·exact h.elim
theorem yS{t:TypeId}{a b:SV}{K:Bool->Bool->T}(d:Nat)(h:(L8 Γ.P t a b s K).holds Γ)(hs:St Γ β s w)(ha:a.ok s.n)(hb:b.ok s.n) :
  ∃r l,(Op.equalIn (d+1+1) t (a.den β) (b.den β)).run Γ.P w=.ok r w/\(K r l).holds Γ:=by
 unfold L8 at h
 split at h
 ·rename_i ms hu
  split at h
  ·rename_i na
   split at h
   ·rename_i nb
    exact⟨_,_,by simp[Op.equalIn,ab hu,co na,co nb],h⟩
   ·split at h
    ·exact⟨_,_,by simp[Op.equalIn,ab hu,co na,SV.den],h⟩
    ·exact h.elim
  ·split at h
   ·rename_i ta va _
    split at h
    ·rename_i nb
     exact⟨_,_,by simp[Op.equalIn,ab hu,co nb,SV.den],h⟩
    ·split at h
     ·rename_i tb vb _
      split at h
      ·rename_i htt
       subst htt
       split at h
       ·rename_i inf hi
        split at h
        ·rename_i hc
         obtain⟨r,l,h1,h2⟩:=kH (β:=β) d h hs ha hb
         refine⟨r,l,?_,h2⟩
         rw[Op.equalIn]
         simp only[Sem.run_bind,ab hu,Result.andThen_ok,SV.den,ne_eq,not_true_eq_false,if_false,run_typeInfo hi,hc,Bool.not_true,Bool.false_eq_true]
         exact h1
        ·exact h.elim
       ·exact h.elim
      ·rename_i htt
       refine⟨_,_,?_,h⟩
       rw[Op.equalIn]
       simp only[Sem.run_bind,ab hu,Result.andThen_ok,SV.den,ne_eq,htt,not_false_eq_true,if_true,Sem.run_pure]
     ·exact h.elim
   ·exact h.elim
 ·exact kH (β:=β) (d+1) h hs ha hb
theorem sB{t:TypeId}{a b:SV}{K:Bool->Bool->T}(h:(L8 Γ.P t a b s K).holds Γ)(hs:St Γ β s w)(ha:a.ok s.n)(hb:b.ok s.n) :
  ∃r l,(Op.equal t (a.den β) (b.den β)).run Γ.P w=.ok r w/\(K r l).holds Γ:=yS 9998 h hs ha hb
theorem jk{x:Operand}(h:jV x=true):∃v,x=.const v:=by
 unfold jV at h
 split at h
 ·exact⟨_,rfl⟩
 ·cases h
theorem gr{P:Program}{op:BinOp}{t:TypeId}{x y:Operand}{a b:Value}(hagg:∀c c',¬(a=.agg c/\b=.agg c'))(hnil:a=.nilIface->b=.nilIface->(∃v,x=.const v)∨(∃v,y=.const v)) :
  (eqGuard op t x y a b).run P w=.ok () w:=by
 have key:∀o:BinOp,(o=.eql∨o=.neq)->(eqGuard o t x y a b).run P w=.ok () w:=by
  intro o ho
  cases a with
  |nilIface=>
   cases b with
   |nilIface=>rcases hnil rfl rfl with⟨v,rfl⟩ |⟨v,rfl⟩ <;> rcases ho with rfl |rfl <;> first |rfl |(cases x <;> rfl)
   |_=>rcases ho with rfl |rfl <;> rfl
  |agg c=>
   cases b with
   |agg c'=>exact(hagg c c' ⟨rfl,rfl⟩).elim
   |_=>rcases ho with rfl |rfl <;> rfl
  |_=>rcases ho with rfl |rfl <;> rfl
 cases op <;> first
  |exact key _ (.inl rfl)
  |exact key _ (.inr rfl)
  |rfl
def wC(v:Value):Prop:=(∃b,v=.bool b)∨(∃a,v=.pointer a)∨(∃a n c,v=.slice a n c)∨(∃t x,v=.iface t x)∨v=.nilIface
theorem kM{v:SV}(h:mU v=true):wC (v.den β):=by
 unfold mU at h
 split at h <;> first
  |exact .inl ⟨_,rfl⟩
  |exact .inr (.inl ⟨_,rfl⟩)
  |exact .inr (.inr (.inl ⟨_,_,_,rfl⟩))
  |exact .inr (.inr (.inr (.inl ⟨_,_,rfl⟩)))
  |exact .inr (.inr (.inr (.inr rfl)))
  |cases h
theorem binOp_eql{t:TypeId}{a b:Value}(ha:wC a)(hb:wC b):binOp .eql t a b=(do pure (.bool (<- Op.equal t a b))):=by
 rcases ha with⟨_,rfl⟩ |⟨_,rfl⟩ |⟨_,_,_,rfl⟩ |⟨_,_,rfl⟩ |rfl <;> rcases hb with⟨_,rfl⟩ |⟨_,rfl⟩ |⟨_,_,_,rfl⟩ |⟨_,_,rfl⟩ |rfl <;> rfl
theorem binOp_neq{t:TypeId}{a b:Value}(ha:wC a)(hb:wC b):binOp .neq t a b=(do pure (.bool (!(<- Op.equal t a b)))):=by
 rcases ha with⟨_,rfl⟩ |⟨_,rfl⟩ |⟨_,_,_,rfl⟩ |⟨_,_,rfl⟩ |rfl <;> rcases hb with⟨_,rfl⟩ |⟨_,rfl⟩ |⟨_,_,_,rfl⟩ |⟨_,_,rfl⟩ |rfl <;> rfl
theorem qQ{op:BinOp}{t:TypeId}{x y:Operand}{a b:SV}{K:SV->T}(h:(Jq Γ.P op t x y a b s K).holds Γ)(hs:St Γ β s w)(ha:a.ok s.n)(hb:b.ok s.n) :
  Same Γ β s w ((do eqGuard op t x y (a.den β) (b.den β);binOp op t (a.den β) (b.den β)).run Γ.P w) K:=by
 unfold Jq at h
 split at h
 ·rename_i k n ln k' m lm
  have hg:(eqGuard op t x y (.int k n) (.int k' m)).run Γ.P w=.ok () w:=
   gr (by simp) (by simp)
  simp only[Same,SV.den,Sem.run_bind,hg,Result.andThen_ok]
  split at h
  ·split at h
   ·split at h
    ·rename_i h0
     exact⟨_,by simp[binOp,Op.shift,show ¬m<0 by omega,SV.den],by trivial,h⟩
    ·exact h.elim
   ·obtain⟨h0,h⟩:=h
    exact⟨_,by simp[binOp,Op.shift,show ¬m<0 by omega,SV.den],by trivial,h⟩
  ·split at h
   ·split at h
    ·rename_i h0
     exact⟨_,by simp[binOp,Op.shift,show ¬m<0 by omega,SV.den],by trivial,h⟩
    ·exact h.elim
   ·obtain⟨h0,h⟩:=h
    exact⟨_,by simp[binOp,Op.shift,show ¬m<0 by omega,SV.den],by trivial,h⟩
  ·split at h
   ·rename_i hk
    subst hk
    split at h
    ·exact⟨_,by simp[binOp,Op.intArith,SV.den],by trivial,h⟩
    ·exact⟨_,by simp[binOp,Op.intArith,SV.den],by trivial,h⟩
    ·exact⟨_,by simp[binOp,Op.intArith,SV.den],by trivial,h⟩
    ·split at h
     ·split at h
      ·exact h.elim
      ·rename_i h0
       exact⟨_,by simp[binOp,Op.intDiv,h0,SV.den],by trivial,h⟩
     ·obtain⟨h0,h⟩:=h
      exact⟨_,by simp[binOp,Op.intDiv,h0,SV.den],by trivial,h⟩
    ·split at h
     ·split at h
      ·exact h.elim
      ·rename_i h0
       exact⟨_,by simp[binOp,Op.intDiv,h0,SV.den],by trivial,h⟩
     ·obtain⟨h0,h⟩:=h
      exact⟨_,by simp[binOp,Op.intDiv,h0,SV.den],by trivial,h⟩
    ·exact⟨_,by simp[binOp,Op.intBits,SV.den],by trivial,h⟩
    ·exact⟨_,by simp[binOp,Op.intBits,SV.den],by trivial,h⟩
    ·exact⟨_,by simp[binOp,Op.intBits,SV.den],by trivial,h⟩
    ·exact⟨_,by simp[binOp,Op.intBits,SV.den],by trivial,h⟩
    ·exact⟨_,by simp[binOp,Op.intCmp,SV.den],by trivial,h⟩
    ·exact⟨_,by simp[binOp,Op.intCmp,SV.den],by trivial,h⟩
    ·exact⟨_,by simp[binOp,Op.intCmp,SV.den],by trivial,h⟩
    ·exact⟨_,by simp[binOp,Op.intCmp,SV.den],by trivial,h⟩
    ·exact⟨_,by simp[binOp,Op.intCmp,SV.den],by trivial,h⟩
    ·exact⟨_,by simp[binOp,Op.intCmp,SV.den],by trivial,h⟩
    ·exact h.elim
   ·exact h.elim
 ·rename_i u lu v lv
  have hg:(eqGuard op t x y (.string u) (.string v)).run Γ.P w=.ok () w:=
   gr (by simp) (by simp)
  simp only[Same,SV.den,Sem.run_bind,hg,Result.andThen_ok]
  split at h
  ·exact⟨_,by simp[binOp,Op.stringOp,SV.den],by trivial,h⟩
  ·exact⟨_,by simp[binOp,Op.stringOp,SV.den],by trivial,h⟩
  ·exact⟨_,by simp[binOp,Op.stringOp,SV.den],by trivial,h⟩
  ·split at h
   ·split at h
    ·exact h.elim
    ·rename_i h0
     exact⟨_,by simp only[binOp,Op.stringOp,h0,if_false,Sem.run_pure,SV.den],by trivial,h⟩
   ·obtain⟨h0,h⟩:=h
    exact⟨_,by simp only[binOp,Op.stringOp,show ¬(((u.size+v.size:Nat):Int) > i64.max) by omega,if_false,Sem.run_pure,SV.den],by trivial,h⟩
  ·exact h.elim
 ·rename_i hni hns
  split at h
  ·exact h.elim
  ·rename_i hnn
   split at h
   rotate_left
   ·exact h.elim
   rename_i hform
   rw[Bool.and_eq_true]at hform
   have main:(eqGuard op t x y (a.den β) (b.den β)).run Γ.P w=.ok () w:=by
    refine gr ?_ ?_
    ·rintro c c' ⟨e1,e2⟩
     have fa:=kM (β:=β) hform.1
     rw[e1]at fa
     rcases fa with⟨_,h⟩ |⟨_,h⟩ |⟨_,_,_,h⟩ |⟨_,_,h⟩ |h <;> cases h
    ·intro e1 e2
     have i1:bJ a=true:=by
      cases a with
      |one v hv=>cases v <;> simp_all [SV.den,bJ]
      |raw v=>exact absurd hform.1 (by simp[mU])
      |_=>simp[SV.den]at e1
     have i2:bJ b=true:=by
      cases b with
      |one v hv=>cases v <;> simp_all [SV.den,bJ]
      |raw v=>exact absurd hform.2 (by simp[mU])
      |_=>simp[SV.den]at e2
     simp only[i1,i2,Bool.and_self,Bool.true_and,Bool.not_eq_true',Bool.not_eq_false,Bool.or_eq_true]at hnn
     rcases hnn with hx |hx
     ·exact .inl (jk hx)
     ·exact .inr (jk hx)
   have fa:=kM (β:=β) hform.1
   have fb:=kM (β:=β) hform.2
   split at h
   ·obtain⟨r,l,h1,h2⟩:=sB (β:=β) h hs ha hb
    refine⟨_,?_,by trivial,h2⟩
    simp only[Sem.run_bind,main,Result.andThen_ok,binOp_eql fa fb,Sem.run_map,h1]
    rfl
   ·obtain⟨r,l,h1,h2⟩:=sB (β:=β) h hs ha hb
    refine⟨_,?_,by trivial,h2⟩
    simp only[Sem.run_bind,main,Result.andThen_ok,binOp_neq fa fb,Sem.run_map,h1]
    rfl
   ·exact h.elim
theorem sC{op:UnOp}{x:SV}{K:SV->T}(h:(NY op x K).holds Γ):Same Γ β s w ((Op.unary op (x.den β)).run Γ.P w) K:=by
 unfold NY at h
 split at h
 ·exact⟨_,rfl,by trivial,h⟩
 ·exact⟨_,by simp only[Op.unary,Op.intBits,Sem.run_pure,SV.den],by trivial,h⟩
 ·exact⟨_,rfl,by trivial,h⟩
 ·exact h.elim
theorem ga(k:IntKind)(l:List Int):∀(n off:Nat),off+n<=l.length->ae β (gy k l off n)=((l.drop off).take n).map (Value.int k)/\(gy k l off n).length=n/\(∀m,bf m (gy k l off n))
 |0,off,_=>by simp[gy,ae,bf]
 |n+1,off,h=>by
  obtain⟨h1,h2,h3⟩:=ga k l n (off+1) (by omega)
  refine⟨?_,by simp[gy,h2],fun m=>⟨trivial,h3 m⟩⟩
  have hlt:off<l.length:=by omega
  rw[List.drop_eq_getElem_cons hlt,List.take_succ_cons,List.map_cons,<- h1]
  simp[gy,ae,SV.den,List.getD,hlt]
theorem fw{n:Nat}{x:SV}{K:List SV->T}(h:(it n x s K).holds Γ)(hs:St Γ β s w) :
  ∃vs,vs.length=n/\bf s.n vs/\(K vs).holds Γ/\(∀size m,n=m*size->∀w',Like w w'->(Builtin.firstCells size m (x.den β)).run Γ.P w'=.ok (ae β vs).toArray w') /\
   (∀size m,n=m*size->∀w',Like w w'->∀b o nn c,x.den β=.slice (some ⟨b,o,none⟩) nn c->(loadCells ⟨b,o,none⟩ n).run Γ.P w'=.ok (ae β vs).toArray w'):=by
 unfold it at h
 split at h
 ·rename_i id off nn c ll lc
  split at h
  ·rename_i cs tot e lo hi ho
   split at h
   ·rename_i l hl
    have hlen:=eB hl
    have key:∀w',Like w w'->(loadCells ⟨β id,off,none⟩ n).run Γ.P w'=.ok (ae β l).toArray w':=by
     intro w' hw
     have hs':=hs.like hw
     have:=run_loadCells_list (P:=Γ.P) w' ⟨β id,off,none⟩ (ae β l) (fun j v hv=>by
      rw[add_plain]
      rw[bQ]at hv
      cases hj:l[j]? with
      |none=>rw[hj]at hv;cases hv
      |some x=>
       rw[hj]at hv
       simp only[Option.map_some,Option.some.injEq]at hv
       have hjlt:=(List.getElem?_eq_some_iff.1 hj).1
       rw[kX hl j (by omega)]at hj
       rw[hs'.cell ho hj,hv])
     rwa [av,hlen]at this
    refine⟨l,hlen,kd hl (hs.ok id _ ho),h,fun size m hm w' hw=>?_,fun size m hm w' hw b o nn' c' he=>?_⟩
    ·simp only[SV.den,Builtin.firstCells,<- hm]
     exact key w' hw
    ·simp only[SV.den,Value.slice.injEq,Option.some.injEq,Addr.mk.injEq]at he
     obtain⟨⟨rfl,rfl,_⟩,_⟩:=he
     exact key w' hw
   ·exact h.elim
  ·rename_i k l e lo hi ho
   obtain⟨hle,h⟩:=h
   obtain⟨i1,i2,i3⟩:=ga (β:=β) k l n off hle
   have key:∀w',Like w w'->(loadCells ⟨β id,off,none⟩ n).run Γ.P w'=.ok (ae β (gy k l off n)).toArray w':=by
    intro w' hw
    have hs':=hs.like hw
    have:=run_loadCells_list (P:=Γ.P) w' ⟨β id,off,none⟩ (ae β (gy k l off n)) (fun j v hv=>by
     rw[add_plain]
     have hjlt:=(List.getElem?_eq_some_iff.1 hv).1
     rw[av,i2]at hjlt
     rw[hs'.icell ho (show off+j<l.length by omega)]
     rw[i1]at hv
     simp only[List.getElem?_map,List.getElem?_take_of_lt hjlt,List.getElem?_drop]at hv
     rw[List.getElem?_eq_getElem (show off+j<l.length by omega)]at hv
     simp only[Option.map_some,Option.some.injEq]at hv
     rw[<- hv]
     simp[List.getD,show off+j<l.length by omega])
    rwa [av,i2]at this
   refine⟨_,i2,i3 _,h,fun size m hm w' hw=>?_,fun size m hm w' hw b o nn' c' he=>?_⟩
   ·simp only[SV.den,Builtin.firstCells,<- hm]
    exact key w' hw
   ·simp only[SV.den,Value.slice.injEq,Option.some.injEq,Addr.mk.injEq]at he
    obtain⟨⟨rfl,rfl,_⟩,_⟩:=he
    exact key w' hw
  ·exact h.elim
 ·split at h
  ·rename_i hn
   subst hn
   refine⟨[],rfl,trivial,h,fun size m hm w' hw=>?_,fun size m hm w' hw b o nn' c' he=>?_⟩
   ·simp[SV.den,Builtin.firstCells,ae]
   ·simp[SV.den]at he
  ·exact h.elim
 ·exact h.elim
end
section
variable {Γ:Ctx}{β:Nat->Nat}{s:SS}{w:World}
theorem ng{n:Int}(h0:0<=n)(h1:n<2^63):i64.wrap n=n:=by
 have e:n%2^64=n:=Int.emod_eq_of_lt h0 (by omega)
 simp only[IntKind.wrap,IntKind.bits,IntKind.signed,e]
 rw[if_neg (by simp;omega)]
theorem run_makeSlice{P:Program}{t elem:TypeId}{inf:TypeInfo}{n c:Int}{k k':IntKind}{z:Value}(hu:P.underlying t=some (.slice elem))(hi:P.info? elem=some inf)
  (h0:0<=n) (h1:n<=c) (h2:(inf.bytes:Int)*c<=2^48) (h3:c<2^63) (hz:inf.zero=some z) (hsz:z.cells.size=inf.size) :
  (Instr.makeSlice t (.int k n) (.int k' c)).run P w=.ok (.slice (some ⟨w.heap.size,0,none⟩) n.toNat c.toNat) (w.alloc (.cells (List.replicate c.toNat z.cells.toList).flatten.toArray elem)):=by
 have e1:=ng h0 (by omega:n<2^63)
 have e2:=ng (by omega:0<=c) h3
 simp only[Instr.makeSlice,Sem.run_bind,ab hu,Result.andThen_ok,asInt,asIntOf,Sem.run_pure,run_typeInfo hi,e1,e2]
 have hc1:¬((inf.bytes:Int)*c > 2^48):=by omega
 have hn:¬n<0:=by omega
 have hc0:¬c<0:=by omega
 have hnc:¬n > c:=by omega
 simp only[hc0,hc1,hn,hnc,decide_false,Bool.or_false,Bool.false_eq_true,or_false,if_false,Sem.run_bind,run_askRoom,Result.andThen_ok,run_sizeOf hi]
 by_cases hcz:c.toNat*inf.size=0
 ·simp only[hcz,if_true,Sem.run_pure,Sem.run_bind,Result.andThen_ok,newRow,run_newObj]
  have:(List.replicate c.toNat z.cells.toList).flatten=[]:=by
   apply List.eq_nil_of_length_eq_zero
   simp[List.length_flatten,hsz,hcz]
  have e0:∀f:Nat->Value,(Array.range 0).map f=#[]:=fun f=>by apply Array.eq_empty_of_size_eq_zero;simp
  simp[this,e0]
 ·simp only[hcz,if_false,Sem.run_bind,cx hi hz,Result.andThen_ok,Sem.run_pure,newRow,run_newObj]
  have:=rC z.cells.toList c.toNat
  simp only[Array.length_toList,hsz,Array.toArray_toList]at this
  rw[hsz,this]
  rfl
theorem gq{P:Program}{e:TypeId}{n:Nat}(h:n7 P e n=true):∃i v,P.info? e=some i/\i.zero=some v/\v.cells.size=n:=by
 unfold n7 at h
 split at h
 ·rename_i z hz
  let Γ:Ctx:={ P:=P,β0:=id,n0:=0,Q:=fun _ _ _=>True }
  obtain⟨i,v,hi,hv,hd,hk⟩:=eu (Γ:=Γ) hz
  refine⟨i,v,hi,hv,?_⟩
  rw[<- hd id,SV.cells_den]
  simpa [av] using h
 ·cases h
theorem nh{t:TypeId}{len cap:SV}{K:SV->SS->T}(h:(k7 Γ.P t len cap s K).holds Γ)(hs:St Γ β s w) :
  Good Γ β s ((Instr.makeSlice t (len.den β) (cap.den β)).run Γ.P w) K:=by
 unfold k7 at h
 split at h
 ·rename_i elem hu
  split at h
  ·rename_i inf hi
   split at h
   ·rename_i k n ln k' c lc
    split at h
    ·split at h
     ·rename_i hc
      obtain⟨h0,h1,h2,h3⟩:=hc
      split at h
      ·rename_i z hz
       obtain⟨i',v,hi',hv,hd,hk⟩:=eu hz
       rw[hi]at hi'
       simp only[Option.some.injEq]at hi'
       subst hi'
       split at h
       ·rename_i hsz
        split at h
        ·rename_i hone
         have hvc:v.cells=(ae β z.cells).toArray:=by rw[<- hd β,SV.cells_den]
         have hrun:=run_makeSlice (w:=w) (k:=k) (k':=k') (z:=v) hu hi h0 h1 h2 h3 hv (by rw[hvc];simp[av,hsz])
         refine⟨_,_,xZ β s.n w.heap.size,_,?_,⟨hs.alloc (o:=.cells (c9 c.toNat z.cells) (c9 c.toNat z.cells).length elem 0 0) (ob:=.cells (ae β (c9 c.toNat z.cells)).toArray elem) ?_ (bu (Nat.le_succ _) _ (yI (SV.cells_ok (hk _)))),?_,fun i hi=>bN hi⟩,?_,h⟩
         rotate_left
         ·refine⟨[],?_,by simp⟩
          rw[List.append_nil,bI (fun i hi=>bN hi) _ (yI (SV.cells_ok (hk s.n)))]
         ·rw[SS.n_new];exact Nat.le_succ _
         ·rw[SS.n_new];exact Nat.lt_succ_self _
         ·simp only[SV.den,dt]
          rw[hrun,hvc,tI]
        ·exact h.elim
       ·exact h.elim
      ·exact h.elim
     ·exact h.elim
    ·split at h
     ·rename_i kk z hz
      split at h
      ·rename_i hz1
       obtain⟨rfl,hsz⟩:=hz1
       obtain⟨⟨h0,h1,h2,h3⟩,h⟩:=h
       have hrun:=run_makeSlice (w:=w) (k:=k) (k':=k') hu hi h0 h1 h2 h3 hz (by simp[Value.cells,hsz])
       refine⟨_,_,xZ β s.n w.heap.size,_,?_,⟨hs.alloc (o:=.ints kk (List.replicate c.toNat 0) elem 0 0) (ob:=.cells ((List.replicate c.toNat 0).map (Value.int kk)).toArray elem) ?_ trivial,?_,fun i hi=>bN hi⟩,?_,h⟩
       rotate_left
       ·rfl
       ·rw[SS.n_new];exact Nat.le_succ _
       ·rw[SS.n_new];exact Nat.lt_succ_self _
       ·simp only[SV.den,dt]
        rw[hrun]
        simp[Value.cells]
      ·exact h.elim
     ·split at h
      ·rename_i hz1
       simp only[Bool.and_eq_true,decide_eq_true_eq]at hz1
       obtain⟨⟨_,rfl⟩,hzok⟩:=hz1
       obtain⟨⟨h1,h2,h3⟩,h⟩:=h
       obtain⟨i',z,hi',hz,hzs⟩:=gq hzok
       rw[hi]at hi'
       simp only[Option.some.injEq]at hi'
       subst hi'
       have hrun:=run_makeSlice (w:=w) (k:=k) (k':=k') (z:=z) hu hi (Int.le_refl 0) h1 h2 h3 hz hzs
       refine⟨_,_,xZ β s.n w.heap.size,_,?_,⟨hs.alloc (o:=.vals [] (c.toNat*inf.size) elem 0 0) (ob:=.cells (List.replicate c.toNat z.cells.toList).flatten.toArray elem) ?_ trivial,?_,fun i hi=>bN hi⟩,?_,h⟩
       rotate_left
       ·exact⟨(List.replicate c.toNat z.cells.toList).flatten,rfl,by simp[List.length_flatten,hzs]⟩
       ·rw[SS.n_new];exact Nat.le_succ _
       ·rw[SS.n_new];exact Nat.lt_succ_self _
       ·simp only[SV.den,dt]
        rw[hrun]
        simp
      ·exact h.elim
   ·exact h.elim
  ·exact h.elim
 ·exact h.elim
theorem kG{x:SV}{xt asserted:TypeId}{ok:Bool}{K:SV->T}(h:(tW Γ.P x asserted ok K).holds Γ)(hx:x.ok s.n) :
  Same Γ β s w ((Instr.typeAssert (x.den β) xt asserted ok).run Γ.P w) K:=by
 unfold tW at h
 have hfail:∀(st dy:Option TypeId) (m:String),(dv Γ.P asserted ok K).holds Γ ->
   ∃v,(if ok=true then(do pure (.tuple #[<- zeroValue asserted,.bool false])) else runtimePanic (.typeAssertion st dy asserted m):Sem Value).run Γ.P w=.ok (v.den β) w/\v.ok s.n/\(K v).holds Γ:=by
  intro st dy m hf
  unfold dv at hf
  split at hf
  ·rename_i hok
   split at hf
   ·rename_i z hz
    obtain⟨i,v,hi,hv,hd,hk⟩:=eu hz
    refine⟨.tup [z,.bool false true],?_,⟨hk _,trivial,trivial⟩,hf⟩
    simp[hok,cx hi hv,SV.den,ae,hd β]
   ·exact hf.elim
  ·exact hf.elim
 have hhold:∀v:SV,v.ok s.n->(f8 ok v K).holds Γ ->
   ∃r,(pure (if ok=true then .tuple #[v.den β,.bool true] else v.den β):Sem Value).run Γ.P w=.ok (SV.den β r) w/\r.ok s.n/\(K r).holds Γ:=by
  intro v hv hk
  unfold f8 at hk
  split at hk
  ·rename_i hok
   exact⟨.tup [v,.bool true true],by simp[hok,SV.den,ae],⟨hv,trivial,trivial⟩,hk⟩
  ·rename_i hok
   exact⟨v,by simp[hok],hv,hk⟩
 split at h
 ·rename_i want hu
  split at h
  ·rename_i hn
   obtain⟨v,h1,h2,h3⟩:=hfail none none "" h
   refine⟨v,?_,h2,h3⟩
   rw[co hn]
   simp only[Instr.typeAssert,Sem.run_bind,ab hu,Result.andThen_ok]
   exact h1
  ·split at h
   ·rename_i t v _
    split at h
    ·rename_i inf hi
     split at h
     ·rename_i hm
      obtain⟨r,h1,h2,h3⟩:=hhold (.ifc t v) hx h
      refine⟨r,?_,h2,h3⟩
      simp only[Instr.typeAssert,Sem.run_bind,ab hu,Result.andThen_ok,SV.den,run_typeInfo hi,hm]
      exact h1
     ·rename_i m hm
      obtain⟨r,h1,h2,h3⟩:=hfail none (some t) m h
      refine⟨r,?_,h2,h3⟩
      simp only[Instr.typeAssert,Sem.run_bind,ab hu,Result.andThen_ok,SV.den,run_typeInfo hi,hm]
      exact h1
    ·exact h.elim
   ·exact h.elim
 ·rename_i d hd hu
  split at h
  ·rename_i hn
   obtain⟨v,h1,h2,h3⟩:=hfail (some xt) none "" h
   refine⟨v,?_,h2,h3⟩
   rw[co hn]
   simp only[Instr.typeAssert,Sem.run_bind,ab hu,Result.andThen_ok]
   cases d <;> first |exact(hd _ rfl).elim |exact h1
  ·split at h
   ·rename_i t v _
    split at h
    ·rename_i htt
     obtain⟨r,h1,h2,h3⟩:=hhold v hx h
     refine⟨r,?_,h2,h3⟩
     simp only[Instr.typeAssert,Sem.run_bind,ab hu,Result.andThen_ok,SV.den]
     cases d <;> first |exact(hd _ rfl).elim |(simp only[htt,if_true];exact h1)
    ·rename_i htt
     obtain⟨r,h1,h2,h3⟩:=hfail (some xt) (some t) "" h
     refine⟨r,?_,h2,h3⟩
     simp only[Instr.typeAssert,Sem.run_bind,ab hu,Result.andThen_ok,SV.den]
     cases d <;> first |exact(hd _ rfl).elim |(simp only[htt,if_false];exact h1)
   ·exact h.elim
 ·exact h.elim
theorem jj:∀(cs:List SV) (ns:List Int) (l:Bool),qa cs=some (ns,l)->ae β cs=ns.map (Value.int .u8)
 |[],ns,l,h=>by
  simp only[qa,Option.some.injEq,Prod.mk.injEq]at h
  rw[<- h.1];rfl
 |c :: cs,ns,l,h=>by
  unfold qa at h
  split at h
  ·rename_i heq;cases heq
  ·rename_i n lit r heq
   simp only[List.cons.injEq]at heq
   obtain⟨rfl,rfl⟩:=heq
   split at h
   ·rename_i ns' lr hr
    simp only[Option.some.injEq,Prod.mk.injEq]at h
    rw[<- h.1]
    simp only[ae,SV.den,List.map_cons,jj _ ns' lr hr]
   ·cases h
  ·cases h
theorem pP(l:List UInt8)(lit:Bool):ae β (mR l lit)=l.map fun b=>Value.int .u8 (b.toNat:Int):=by
 induction l with
 |nil=>rfl
 |cons b bs ih=>simp[mR,ae,SV.den,ih]
theorem Bg(l:List UInt8)(lit:Bool)(n:Nat):bf n (mR l lit):=by
 induction l with
 |nil=>trivial
 |cons b bs ih=>exact⟨trivial,ih⟩
theorem mi{P:Program}{e:TypeId}{u:ByteArray}:∃c,u.size<=c/\c=(Question.appendCap u.size 0 e).cut (w.tape w.drawn (.appendCap u.size 0 e)) /\
  ∃w',Like w w'/\(Conv.stringToBytes e u).run P w=.ok (.slice (some ⟨w.heap.size,0,none⟩) u.size c)
   (w'.alloc (.cells (u.data.toList.map (fun(b:UInt8)=>Value.int .u8 (b.toNat:Int))++List.replicate (c-u.size) (Value.int .u8 0)).toArray e (c,c+1))):=by
 refine⟨_,?_,rfl,{ w with drawn:=w.drawn+1 },⟨rfl,rfl,rfl,rfl⟩,?_⟩
 ·simp only[Question.cut];exact Nat.le_add_right _ _
 ·generalize hc:(Question.appendCap u.size 0 e).cut (w.tape w.drawn (.appendCap u.size 0 e))=c
  have hle:u.size<=c:=by rw[<- hc];simp only[Question.cut];exact Nat.le_add_right _ _
  simp only[Conv.stringToBytes,Sem.run_bind,run_choose,Question.forced,Bool.false_eq_true,if_false,hc,Result.andThen_ok,newRow,run_newObj,Sem.run_pure,markStringish,run_shape]
  have hsz:((u.data.map fun b=>Value.int u8 (b.toNat:Int))++Array.replicate (c-u.size) (Value.int u8 0)).size=c:=by
   simp;have:u.data.size=u.size:=rfl;omega
  have hs1:World.shape? { w with drawn:=w.drawn+1,heap:=w.heap.push (.cells ((u.data.map fun b=>Value.int u8 (b.toNat:Int))++Array.replicate (c-u.size) (Value.int u8 0)) e) } w.heap.size=some (e,c):=by
   simp[World.shape?,hsz]
  simp only[hs1,run_freeze,Result.andThen_ok]
  congr 1
  simp only[World.freeze,World.alloc]
  simp only[Nat.one_ne_zero,if_false]
  congr 1
  apply Array.ext_getElem?
  intro i
  simp only[Array.getElem?_modify,Array.getElem?_push]
  by_cases hi:i=w.heap.size
  ·subst hi
   simp
  ·simp[hi,Ne.symm hi]
theorem ye(ns:List Int):bytesOf ns=⟨(ns.map fun n=>UInt8.ofNat n.toNat).toArray⟩:=by
 have key:∀(ns:List Int) (r:ByteArray),ns.foldl (fun r n=>r.push (UInt8.ofNat n.toNat)) r=⟨r.data++(ns.map fun n=>UInt8.ofNat n.toNat).toArray⟩:=by
  intro ns
  induction ns with
  |nil=>intro r;simp
  |cons n ns ih=>
   intro r
   simp only[List.foldl_cons,ih,List.map_cons]
   congr 1
   simp[ByteArray.push]
 have:=key ns ByteArray.empty
 unfold bytesOf
 rw[this]
 congr 1
 simp[ByteArray.empty,ByteArray.emptyWithCapacity]
 rfl
theorem CI{w:World}{a:Addr}{k:IntKind}{n:Int}(h:w.cell? a=some (.int k n)):ai w a=n:=by simp[ai,h]
theorem mV{A:Option Addr}{n:Nat}(o:Old β s w)(hc:canBytes s.w0 s.pre A n):∀a,A=some a->∀j v,(valsAt s.w0 A n)[j]?=some v->w.cell? (a.add j)=some v:=by
 rintro a rfl j v hj
 unfold valsAt at hj
 have hlt:=(List.getElem?_eq_some_iff.1 hj).1
 simp only[List.length_map,List.length_range]at hlt
 rcases hc with h0 |⟨a',ha,hb,hp,hi⟩
 ·omega
 ·simp only[Option.some.injEq]at ha
  subst ha
  obtain⟨b,hb'⟩:=hi j hlt
  rw[o.cell (by rw[aD];exact hb) (by rw[aD];exact hp),hb']
  simp[hlt,CI hb']at hj
  rw[<- hj]
theorem pY{A:Option Addr}{n cap:Nat}(o:Old β s w)(hc:canBytes s.w0 s.pre A n) :
  (Conv.bytesToString (.slice A n cap)).run Γ.P w=.ok (.string (bytesAt s.w0 A n)) w:=by
 cases A with
 |none=>
  rcases hc with rfl |⟨a,h,_⟩
  ·simp[Conv.bytesToString,bytesAt];rfl
  ·cases h
 |some a=>
  have hl:=run_loadCells_list (P:=Γ.P) w a (valsAt s.w0 (some a) n) (mV o hc a rfl)
  have hlen:(valsAt s.w0 (some a) n).length=n:=by simp[valsAt]
  rw[hlen]at hl
  have e1:valsAt s.w0 (some a) n=((List.range n).map fun i=>ai s.w0 (a.add i)).map (Value.int .u8):=by simp[valsAt]
  rw[e1]at hl
  rw[run_bytesToString w a n cap _ hl]
  have:=ye ((List.range n).map fun i=>ai s.w0 (a.add i))
  unfold bytesOf at this
  rw[this]
  simp[bytesAt]
theorem lL{l:List Value}(h:bX l):l=(l.map bT).map (Value.int .u8):=by
 induction l with
 |nil=>rfl
 |cons v vs ih=>
  obtain⟨b,hb⟩:=h v (by simp)
  simp only[List.map_cons]
  rw[<- ih fun u hu=>h u (by simp[hu])]
  rw[hb];rfl
theorem St.vcell(h:St Γ β s w){id tot lo hi:Nat}{l:List Value}{e:TypeId}(ho:s.objs[id]?=some (.vals l tot e lo hi)){off:Nat}{v:Value}(hv:l[off]?=some v) :
  w.cell? ⟨β id,off,none⟩=some v:=by
 obtain⟨rest,h1,_⟩:=h.at_ id _ ho
 have hlt:=(List.getElem?_eq_some_iff.1 hv).1
 simp only[World.cell?,h1]
 simp[List.getElem?_append_left hlt,hv]
theorem nf{id tot lo hi off len:Nat}{l:List Value}{e:TypeId}(hs:St Γ β s w)(ho:s.objs[id]?=some (.vals l tot e lo hi))(hle:off+len<=l.length) :
  (loadCells ⟨β id,off,none⟩ len).run Γ.P w=.ok ((l.drop off).take len).toArray w:=by
 have:=run_loadCells_list (P:=Γ.P) w ⟨β id,off,none⟩ ((l.drop off).take len) (fun j v hv=>by
  rw[add_plain]
  have hjlt:=(List.getElem?_eq_some_iff.1 hv).1
  simp only[List.length_take,List.length_drop]at hjlt
  rw[List.getElem?_take_of_lt (show j<len by omega),List.getElem?_drop]at hv
  exact hs.vcell ho hv)
 have e1:((l.drop off).take len).length=len:=by simp;omega
 rwa [e1]at this
theorem qU{src dst:TypeId}{x:SV}{K:SV->SS->T}(h:(jD Γ.P src dst x s K).holds Γ)(hs:St Γ β s w) :
  Good Γ β s ((convert src dst (x.den β)).run Γ.P w) K:=by
 unfold jD at h
 split at h
 ·rename_i ds k hsrc hdst
  split at h
  ·refine Same.good hs ⟨_,?_,by trivial,h⟩
   cases ds <;> simp[convert,ab hsrc,ab hdst,SV.den,Conv.intToInt]
  ·exact h.elim
 ·rename_i ds hsrc hdst
  split at h
  ·refine Same.good hs ⟨_,?_,by trivial,h⟩
   cases ds <;> simp[convert,ab hsrc,ab hdst,SV.den]
  ·rename_i id off len cap ll lc
   split at h
   ·rename_i e
    split at h
    ·rename_i he
     split at h
     ·obtain⟨vs,f1,f2,f3,f4,f5⟩:=fw h hs
      split at f3
      ·rename_i ns lit hns
       refine Same.good hs ⟨_,?_,by trivial,f3⟩
       have hl:=f5 1 len (by omega) w ⟨rfl,rfl,rfl,rfl⟩ (β id) off len cap rfl
       rw[jj _ _ _ hns]at hl
       simp only[SV.den]
       rw[run_convert_bytes_string w src dst e _ _ _ hsrc he hdst]
       exact run_bytesToString w _ len cap ns hl
      ·exact f3.elim
     ·split at h
      ·rename_i l e' lo hi ho
       obtain⟨hle,h⟩:=h
       refine Same.good hs ⟨_,?_,by trivial,h⟩
       simp only[SV.den]
       rw[run_convert_bytes_string w src dst e _ _ _ hsrc he hdst]
       refine run_bytesToString w _ len cap _ ?_
       have hx:(it len (.slc id off len cap ll lc) s fun _=>T.leaf .normal [] s).holds { Γ with Q:=fun _ _ _=>True }:=by
        simp only[it,ho]
        exact⟨hle,fun _ _ _ _=>True.intro⟩
       obtain⟨i1,i2,i3⟩:=ga (β:=β) .u8 l len off hle
       have:=run_loadCells_list (P:=Γ.P) w ⟨β id,off,none⟩ (((l.drop off).take len).map (Value.int .u8)) (fun j v hv=>by
        rw[add_plain]
        have hjlt:=(List.getElem?_eq_some_iff.1 hv).1
        simp only[List.length_map,List.length_take,List.length_drop]at hjlt
        rw[hs.icell ho (show off+j<l.length by omega)]
        simp only[List.getElem?_map,List.getElem?_take_of_lt (show j<len by omega),List.getElem?_drop]at hv
        rw[List.getElem?_eq_getElem (show off+j<l.length by omega)]at hv
        simp only[Option.map_some,Option.some.injEq]at hv
        rw[<- hv]
        simp[List.getD,show off+j<l.length by omega])
       have e1:(((l.drop off).take len).map (Value.int .u8)).length=len:=by simp;omega
       rwa [e1]at this
      ·rename_i l e' tot lo hi ho
       obtain⟨⟨hle,hbv⟩,h⟩:=h
       refine Same.good hs ⟨_,?_,by trivial,h⟩
       simp only[SV.den]
       rw[run_convert_bytes_string w src dst e _ _ _ hsrc he hdst]
       refine run_bytesToString w _ len cap _ ?_
       have:=nf (Γ:=Γ) hs ho hle
       rwa [lL hbv]at this
      ·exact h.elim
    ·exact h.elim
   ·exact h.elim
  ·rename_i A nn cc
   split at h
   ·rename_i hext
    split at h
    ·rename_i e
     split at h
     ·rename_i he
      obtain⟨hcb,h⟩:=h
      refine Same.good hs ⟨_,?_,by trivial,h⟩
      simp only[SV.den]
      rw[run_convert_bytes_string w src dst e _ _ _ hsrc he hdst]
      exact pY (hs.old hext) hcb
     ·exact h.elim
    ·exact h.elim
   ·exact h.elim
  ·rename_i nn cc _
   split at h
   ·rename_i e
    split at h
    ·rename_i he
     refine Same.good hs ⟨_,?_,by trivial,h⟩
     simp only[SV.den]
     rw[run_convert_bytes_string w src dst e _ _ _ hsrc he hdst]
     simp[Conv.bytesToString]
    ·exact h.elim
   ·exact h.elim
  ·exact h.elim
 ·rename_i ds e hsrc hdst
  split at h
  ·rename_i u l
   split at h
   ·rename_i he
    obtain⟨c,c1,c2,w',c3,c4⟩:=mi (w:=w) (P:=Γ.P) (e:=e) (u:=u)
    have hrun:(convert src dst (SV.den β (.str u l))).run Γ.P w=(Conv.stringToBytes e u).run Γ.P w:=by
     cases ds <;> simp[convert,ab hsrc,ab hdst,ab he,SV.den]
    have h:=h (w.tape w.drawn (.appendCap u.size 0 e))
    rw[<- c2]at h
    have hs':=hs.like c3
    have hsz:w'.heap.size=w.heap.size:=by rw[c3.heap]
    refine⟨_,_,xZ β s.n w'.heap.size,_,?_,⟨hs'.alloc (ob:=.cells (u.data.toList.map (fun(b:UInt8)=>Value.int .u8 (b.toNat:Int))++List.replicate (c-u.size) (Value.int .u8 0)).toArray e (c,c+1)) ?_ ?_,?_,fun i hi=>bN hi⟩,?_,h⟩
    ·rw[hrun,c4]
     simp only[SV.den,dt,hsz]
    ·cases l
     ·simp only[Bool.false_eq_true,if_false,SObj.At]
      congr 2
      simp
     ·simp only[if_true]
      refine⟨List.replicate (c-u.size) (.int .u8 0),by rw[pP],?_⟩
      have:(mR u.data.toList true).length=u.size:=by rw[<- av β,pP];simp
      rw[this,List.length_replicate];omega
    ·cases l
     ·trivial
     ·exact Bg _ _ _
    ·rw[SS.n_new];exact Nat.le_succ _
    ·rw[SS.n_new];exact Nat.lt_succ_self _
   ·exact h.elim
  ·exact h.elim
 ·exact h.elim
end
end Go.Rx
