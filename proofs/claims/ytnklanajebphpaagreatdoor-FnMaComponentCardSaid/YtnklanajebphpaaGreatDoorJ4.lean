/- Joined texts: K3 Sh. -/
import Derived.Test.YtnklanajebphpaaGreatDoorJ3
import Derived.Shelf.Strings.Builder1
import Derived.Shelf.Strings.Builder2
import Derived.Shelf.Strconv.Itoa0
import Derived.Shelf.Strconv.Itoa1
import Derived.Shelf.LaysM
import Derived.Shelf.Strconv.Itoa2
import Derived.Shelf.Strconv.Itoa3
import Derived.Shelf.Bytes.Bytes
import Derived.Shelf.Bin.PutUvarint
import Derived.Shelf.Strconv.ParseUint10
import Derived.Shelf.Strconv.ParseUint10b64
import Derived.Shelf.Strconv.ParseUint10b32
import Derived.Shelf.Strconv.ParseUint10b16
import Derived.Shelf.Strconv.ParseUint10b8
import Derived.Shelf.Bytes.IndexByte
import Derived.Test.YtnklanajebphpaaGreatDoorProg
set_option maxRecDepth 100000
set_option maxHeartbeats 4000000
set_option linter.unusedVariables false
set_option linter.unusedSimpArgs false
namespace Go.Proofs.YtnklanajebphpaaGreatDoor
open IntKind
section
open Go Go.Rx Go.RowKit
@[reducible] def iK:Hook:={ X:=Nat,out:=fun _ s x=>(.tup [.int .u64 x false,.one .nilIface rfl],s.objs) }
@[reducible] def sS:Hook:={ X:=Int,out:=fun _ s x=>(.int .i64 x false,s.objs) }
@[reducible] def Di:Hook:={ X:=Bool,out:=fun _ s b=>(.bool b false,s.objs) }
@[reducible] def cA:Hook:={ X:=Unit,out:=fun _ s _=>(.one .nilIface rfl,s.objs) }
def km:Hooks:={ calls:=fun f=>if f=211∨f=215 then some aR else if f=208 then some iK else if f=212 then some sS else if f=214 then some Di else none,loops:=fun _ _=>none }
noncomputable abbrev ej(n:Nat)(k0_:Int):Prop:=((0:Int)<=k0_/\k0_<(↑n:Int))
noncomputable abbrev pf(w:World)(A:Option Addr):Prop:=(canRead w [] ((A.getD default).add 0) [SV.int u8 (aj w (((A.getD default).add 0).add 0)) false])
noncomputable abbrev Fq(w:World)(A:Option Addr):List SV:=[(.int .u64 (u64.wrap (u16.wrap (↑(BitVec.ofInt 16 (u16.wrap (aj w (((A.getD default).add 1).add 0))) |||BitVec.ofInt 16 (u16.wrap (u16.wrap (aj w (((A.getD default).add 0).add 0))*(2:Int)^8))).toNat:Int))) false),(.int .i64 10 true)]
noncomputable abbrev yF(w:World)(A:Option Addr):Prop:=(canRead w [] ((A.getD default).add 1) [SV.int u8 (aj w (((A.getD default).add 1).add 0)) false])
theorem Bf(A:Option Addr)(n c:Nat)(w:World):al Tryz.prog km 500 166 [.xs A n c] (SS.mk [] [] true w []) =
(.need (canRead w [] (Addr.mk 6 0 none) []) (.need (ej n (1:Int)) (.need (A.isSome=true) (.need (yF w A) (.need (ej n (1:Int)) (.need (A.isSome=true) (.need (yF w A) (.need (ej n (0:Int)) (.need (A.isSome=true) (.need (pf w A) (.call 211 (Fq w A) (SS.mk [(.cells [] 0 155 0 0)] [] true w []) (Hook.X (aR)) (Hook.out (aR) (Fq w A) (SS.mk [(.cells [] 0 155 0 0)] [] true w [])) fun x0 w0 b0=>(.leaf .ret [(.tup [(.str x0 false),(.one .nilIface rfl)])] (SS.mk [(.cells [] 0 155 0 0)] [] true w0 b0))))))))))))):=by kernel_rfl
theorem Jt(A:Option Addr)(n c:Nat)(w:World):(by have h:=Bf A n c w;unfold yF Fq pf ej at h;exact type_of% h):=Bf A n c w
noncomputable abbrev m7(s:ByteArray)(k0_:Int):List SV:=[(.str s false),(.int .i64 10 true),(.int .i64 k0_ true)]
theorem Bg(s:ByteArray)(w:World):al Tryz.prog km 500 165 [.str s false] (SS.mk [] [] true w []) =
(.call 208 (m7 s 16) (SS.mk [] [] true w []) (Hook.X (iK)) (Hook.out (iK) (m7 s 16) (SS.mk [] [] true w [])) fun x0 w0 b0=>(.need (canRead w0 b0 (Addr.mk 6 0 none) []) (.leaf .ret [(.tup [(.slc 0 0 2 2 true true),(.one .nilIface rfl)])] (SS.mk [(.cells [(.int .u8 (u8.wrap ((u16.wrap (↑x0:Int)).fdiv ((2:Int)^8))) false),(.int .u8 (u8.wrap (u16.wrap (↑x0:Int))) false)] 2 5 0 0),(.cells [] 0 155 0 0)] [] true w0 b0)))):=by kernel_rfl
theorem Ju(s:ByteArray)(w:World):(by have h:=Bg s w;unfold m7 at h;exact type_of% h):=Bg s w
noncomputable abbrev ve:ByteArray:=(ByteArray.mk #[105,110,118,97,108,105,100,32,108,101,110,103,116,104,32,40,115,104,111,117,108,100,32,98,101,32,61,61,32,49,41])
noncomputable abbrev nT:SV:=(.tup [(.str (ByteArray.mk #[]) true),(.ifc 105 (.ptr 0 0))])
theorem Bc(A:Option Addr)(n c:Nat)(w:World):al Tryz.prog km 500 176 [.xs A n c] (SS.mk [] [] true w []) =
(.split ((↑n:Int) != (1:Int)) (.leaf .ret [nT] (SS.mk [(.cells [(.str ve true)] 1 107 0 0)] [] true w [])) (.need (ej n (0:Int)) (.need (A.isSome=true) (.need (pf w A) (.hc 215 [(.int .i64 (i64.wrap (aj w (((A.getD default).add 0).add 0))) false)] (SS.mk [] [] true w []) (aR) fun x0 w0 b0=>(.leaf .ret [(.tup [(.str x0 false),(.one .nilIface rfl)])] (SS.mk [] [] true w0 b0))))))):=by kernel_rfl
theorem Jp(A:Option Addr)(n c:Nat)(w:World):(by have h:=Bc A n c w;unfold nT ve pf ej at h;exact type_of% h):=Bc A n c w
theorem Bd(s:ByteArray)(w:World):al Tryz.prog km 500 175 [.str s false] (SS.mk [] [] true w []) =
(.call 208 (m7 s 8) (SS.mk [] [] true w []) (Hook.X (iK)) (Hook.out (iK) (m7 s 8) (SS.mk [] [] true w [])) fun x0 w0 b0=>(.leaf .ret [(.tup [(.slc 0 0 1 1 true true),(.one .nilIface rfl)])] (SS.mk [(.cells [(.int .u8 (u8.wrap (↑x0:Int)) false)] 1 5 0 0)] [] true w0 b0))):=by kernel_rfl
theorem Jq(s:ByteArray)(w:World):(by have h:=Bd s w;unfold m7 at h;exact type_of% h):=Bd s w
noncomputable abbrev jk(w:World)(k0_:ByteArray):T:=(.leaf .ret [(.ifc 105 (.ptr 0 0))] (SS.mk [(.cells [(.str k0_ true)] 1 107 0 0)] [] true w []))
theorem Be(A:Option Addr)(n c:Nat)(w:World):al Tryz.prog km 500 177 [.xs A n c] (SS.mk [] [] true w []) =
(.split ((↑n:Int) != (1:Int)) (jk w ve) (.leaf .ret [(.one .nilIface rfl)] (SS.mk [] [] true w []))):=by kernel_rfl
theorem Jr(A:Option Addr)(n c:Nat)(w:World):(by have h:=Be A n c w;unfold ve jk at h;exact type_of% h):=Be A n c w
noncomputable abbrev Fp(w:World)(A:Option Addr):List SV:=[(.int .u64 (u64.wrap (↑(BitVec.ofInt 64 (u64.wrap (↑(BitVec.ofInt 64 (u64.wrap (↑(BitVec.ofInt 64 (u64.wrap (↑(BitVec.ofInt 64 (u64.wrap (↑(BitVec.ofInt 64 (u64.wrap (↑(BitVec.ofInt 64 (u64.wrap (↑(BitVec.ofInt 64 (u64.wrap (aj w (((A.getD default).add 7).add 0))) |||BitVec.ofInt 64 (u64.wrap (u64.wrap (aj w (((A.getD default).add 6).add 0))*(2:Int)^8))).toNat:Int)) |||BitVec.ofInt 64 (u64.wrap (u64.wrap (aj w (((A.getD default).add 5).add 0))*(2:Int)^16))).toNat:Int)) |||BitVec.ofInt 64 (u64.wrap (u64.wrap (aj w (((A.getD default).add 4).add 0))*(2:Int)^24))).toNat:Int)) |||BitVec.ofInt 64 (u64.wrap (u64.wrap (aj w (((A.getD default).add 3).add 0))*(2:Int)^32))).toNat:Int)) |||BitVec.ofInt 64 (u64.wrap (u64.wrap (aj w (((A.getD default).add 2).add 0))*(2:Int)^40))).toNat:Int)) |||BitVec.ofInt 64 (u64.wrap (u64.wrap (aj w (((A.getD default).add 1).add 0))*(2:Int)^48))).toNat:Int)) |||BitVec.ofInt 64 (u64.wrap (u64.wrap (aj w (((A.getD default).add 0).add 0))*(2:Int)^56))).toNat:Int)) false),(.int .i64 10 true)]
theorem DV(A:Option Addr)(n c:Nat)(w:World):al Tryz.prog km 500 203 [.xs A n c] (SS.mk [] [] true w []) =
(.split ((↑n:Int) != (8:Int)) (.leaf .ret [nT] (SS.mk [(.cells [(.str (ByteArray.mk #[101,120,112,101,99,116,101,100,32,117,105,110,116,54,52,44,32,111,110,108,121,32,102,111,117,110,100,32,98,105,116,115]) true)] 1 107 0 0)] [] true w [])) (.need (canRead w [] (Addr.mk 6 0 none) []) (.need (ej n (7:Int)) (.need (A.isSome=true) (.need (canRead w [] ((A.getD default).add 7) [SV.int u8 (aj w (((A.getD default).add 7).add 0)) false]) (.need (ej n (7:Int)) (.need (A.isSome=true) (.need (canRead w [] ((A.getD default).add 7) [SV.int u8 (aj w (((A.getD default).add 7).add 0)) false]) (.need (ej n (6:Int)) (.need (A.isSome=true) (.need (canRead w [] ((A.getD default).add 6) [SV.int u8 (aj w (((A.getD default).add 6).add 0)) false]) (.need (ej n (5:Int)) (.need (A.isSome=true) (.need (canRead w [] ((A.getD default).add 5) [SV.int u8 (aj w (((A.getD default).add 5).add 0)) false]) (.need (ej n (4:Int)) (.need (A.isSome=true) (.need (canRead w [] ((A.getD default).add 4) [SV.int u8 (aj w (((A.getD default).add 4).add 0)) false]) (.need (ej n (3:Int)) (.need (A.isSome=true) (.need (canRead w [] ((A.getD default).add 3) [SV.int u8 (aj w (((A.getD default).add 3).add 0)) false]) (.need (ej n (2:Int)) (.need (A.isSome=true) (.need (canRead w [] ((A.getD default).add 2) [SV.int u8 (aj w (((A.getD default).add 2).add 0)) false]) (.need (ej n (1:Int)) (.need (A.isSome=true) (.need (yF w A) (.need (ej n (0:Int)) (.need (A.isSome=true) (.need (pf w A) (.call 211 (Fp w A) (SS.mk [(.cells [] 0 155 0 0)] [] true w []) (Hook.X (aR)) (Hook.out (aR) (Fp w A) (SS.mk [(.cells [] 0 155 0 0)] [] true w [])) fun x0 w0 b0=>(.leaf .ret [(.tup [(.str x0 false),(.one .nilIface rfl)])] (SS.mk [(.cells [] 0 155 0 0)] [] true w0 b0)))))))))))))))))))))))))))))))):=by kernel_rfl
theorem K4(A:Option Addr)(n c:Nat)(w:World):(by have h:=DV A n c w;unfold nT yF pf ej Fp at h;exact type_of% h):=DV A n c w
theorem DW(s:ByteArray)(w:World):al Tryz.prog km 500 202 [.str s false] (SS.mk [] [] true w []) =
(.call 208 (m7 s 64) (SS.mk [] [] true w []) (Hook.X (iK)) (Hook.out (iK) (m7 s 64) (SS.mk [] [] true w [])) fun x0 w0 b0=>(.need (canRead w0 b0 (Addr.mk 6 0 none) []) (.leaf .ret [(.tup [(.slc 0 0 8 8 true true),(.one .nilIface rfl)])] (SS.mk [(.cells [(.int .u8 (u8.wrap ((↑x0:Int).fdiv ((2:Int)^56))) false),(.int .u8 (u8.wrap ((↑x0:Int).fdiv ((2:Int)^48))) false),(.int .u8 (u8.wrap ((↑x0:Int).fdiv ((2:Int)^40))) false),(.int .u8 (u8.wrap ((↑x0:Int).fdiv ((2:Int)^32))) false),(.int .u8 (u8.wrap ((↑x0:Int).fdiv ((2:Int)^24))) false),(.int .u8 (u8.wrap ((↑x0:Int).fdiv ((2:Int)^16))) false),(.int .u8 (u8.wrap ((↑x0:Int).fdiv ((2:Int)^8))) false),(.int .u8 (u8.wrap (↑x0:Int)) false)] 8 5 0 0),(.cells [] 0 155 0 0)] [] true w0 b0)))):=by kernel_rfl
theorem K5(s:ByteArray)(w:World):(by have h:=DW s w;unfold m7 at h;exact type_of% h):=DW s w
theorem DX(A:Option Addr)(n c:Nat)(w:World):al Tryz.prog km 500 204 [.xs A n c] (SS.mk [] [] true w []) =
(.split ((↑n:Int) != (8:Int)) (jk w (ByteArray.mk #[105,110,118,97,108,105,100,32,108,101,110,103,116,104,58,32,109,117,115,116,32,98,101,32,101,120,97,99,116,108,121,32,56,32,98,121,116,101,115])) (.leaf .ret [(.one .nilIface rfl)] (SS.mk [] [] true w []))):=by kernel_rfl
theorem K6(A:Option Addr)(n c:Nat)(w:World):(by have h:=DX A n c w;unfold jk at h;exact type_of% h):=DX A n c w
noncomputable abbrev tB(w:World)(A:Option Addr)(n:Nat):T:=(.need (canBytes w [] A n) (.leaf .ret [(.tup [(.str (bytesAt w A n) false),(.one .nilIface rfl)])] (SS.mk [] [] true w [])))
theorem DS(A:Option Addr)(n c:Nat)(w:World):al Tryz.prog km 500 168 [.xs A n c] (SS.mk [] [] true w []) =
(tB w A n):=by kernel_rfl
theorem KY(A:Option Addr)(n c:Nat)(w:World):(by have h:=DS A n c w;unfold tB at h;exact type_of% h):=DS A n c w
noncomputable abbrev m6(s:ByteArray)(c0:Nat):SObj:=(.ints .u8 (List.map (fun b=>(↑b.toNat:Int)) s.data.toList++List.replicate (c0-s.size) (0:Int)) 5 c0 (c0+1))
noncomputable abbrev nS(k0_:Nat):SV:=(.tup [(.one (.slice none 0 0) rfl),(.ifc 105 (.ptr k0_ 0))])
noncomputable abbrev u9:ByteArray:=(ByteArray.mk #[100,111,109,97,105,110,32,110,97,109,101,32,99,111,110,116,97,105,110,115,32,97,32,115,108,97,115,104])
theorem DT(s:ByteArray)(w:World):al Tryz.prog km 500 167 [.str s false] (SS.mk [] [] true w []) =
(.choose (.appendCap s.size 0 5) fun c0=>(.split ((↑s.size:Int) == (0:Int)) (.leaf .ret [(nS 1)] (SS.mk [(m6 s c0),(.cells [(.str (ByteArray.mk #[101,109,112,116,121,32,100,110,115,32,97,100,100,114]) true)] 1 107 0 0)] [] true w [])) (.hc 212 [(.slc 0 0 s.size c0 false false),(.int .u8 47 true)] (SS.mk [(m6 s c0)] [] true w []) (sS) fun x1 w1 b1=>(.split (decide (x1 ≥ (0:Int))) (.leaf .ret [(nS 1)] (SS.mk [(m6 s c0),(.cells [(.str u9 true)] 1 107 0 0)] [] true w1 b1)) (.leaf .ret [(.tup [(.slc 0 0 s.size c0 false false),(.one .nilIface rfl)])] (SS.mk [(m6 s c0)] [] true w1 b1)))))):=by kernel_rfl
theorem KZ(s:ByteArray)(w:World):(by have h:=DT s w;unfold u9 nS m6 at h;exact type_of% h):=DT s w
theorem DU(A:Option Addr)(n c:Nat)(w:World):al Tryz.prog km 500 169 [.xs A n c] (SS.mk [] [] true w []) =
(.split ((↑n:Int) == (0:Int)) (jk w (ByteArray.mk #[101,109,112,116,121,32,100,110,115,32,97,100,100,114])) (.hc 212 [(.xs A n c),(.int .u8 47 true)] (SS.mk [] [] true w []) (sS) fun x0 w0 b0=>(.split (decide (x0 ≥ (0:Int))) (.leaf .ret [(.ifc 105 (.ptr 0 0))] (SS.mk [(.cells [(.str u9 true)] 1 107 0 0)] [] true w0 b0)) (.leaf .ret [(.one .nilIface rfl)] (SS.mk [] [] true w0 b0))))):=by kernel_rfl
theorem K0(A:Option Addr)(n c:Nat)(w:World):(by have h:=DU A n c w;unfold u9 jk at h;exact type_of% h):=DU A n c w
noncomputable abbrev vf:ByteArray:=(ByteArray.mk #[105,110,118,97,108,105,100,32,108,101,110,103,116,104,32,40,115,104,111,117,108,100,32,98,101,32,62,32,48,41])
theorem Bk(A:Option Addr)(n c:Nat)(w:World):al Tryz.prog km 500 173 [.xs A n c] (SS.mk [] [] true w []) =
(.split ((↑n:Int) == (0:Int)) (.leaf .ret [nT] (SS.mk [(.cells [(.str vf true)] 1 107 0 0)] [] true w [])) (tB w A n)):=by kernel_rfl
theorem Jy(A:Option Addr)(n c:Nat)(w:World):(by have h:=Bk A n c w;unfold nT vf tB at h;exact type_of% h):=Bk A n c w
noncomputable abbrev vd:ByteArray:=(ByteArray.mk #[73,80,118,54,32,122,111,110,101,32,73,68,32,99,111,110,116,97,105,110,115,32,39,47,39,58])
theorem Bl(s:ByteArray)(w:World):al Tryz.prog km 500 172 [.str s false] (SS.mk [] [] true w []) =
(.split ((↑s.size:Int) == (0:Int)) (.leaf .ret [(nS 0)] (SS.mk [(.cells [(.str (ByteArray.mk #[101,109,112,116,121,32,105,112,54,122,111,110,101]) true)] 1 107 0 0)] [] true w [])) (.hc 214 [(.str s false),(.str (ByteArray.mk #[47]) true)] (SS.mk [] [] true w []) (Di) fun x0 w0 b0=>(.split x0 (.leaf .ret [(nS 0)] (SS.mk [(.cells [(.str vd true)] 1 107 0 0)] [] true w0 b0)) (.choose (.appendCap s.size 0 5) fun c1=>(.leaf .ret [(.tup [(.slc 0 0 s.size c1 false false),(.one .nilIface rfl)])] (SS.mk [(m6 s c1)] [] true w0 b0)))))):=by kernel_rfl
theorem Jz(s:ByteArray)(w:World):(by have h:=Bl s w;unfold vd nS m6 at h;exact type_of% h):=Bl s w
theorem Bm(A:Option Addr)(n c:Nat)(w:World):al Tryz.prog km 500 174 [.xs A n c] (SS.mk [] [] true w []) =
(.split ((↑n:Int) == (0:Int)) (jk w vf) (.hc 212 [(.xs A n c),(.int .u8 47 true)] (SS.mk [] [] true w []) (sS) fun x0 w0 b0=>(.split (decide (x0 ≥ (0:Int))) (.leaf .ret [(.ifc 105 (.ptr 0 0))] (SS.mk [(.cells [(.str vd true)] 1 107 0 0)] [] true w0 b0)) (.leaf .ret [(.one .nilIface rfl)] (SS.mk [] [] true w0 b0))))):=by kernel_rfl
theorem JA(A:Option Addr)(n c:Nat)(w:World):(by have h:=Bm A n c w;unfold vf vd jk at h;exact type_of% h):=Bm A n c w
theorem Bh(A:Option Addr)(n c:Nat)(w:World):al Tryz.prog km 500 200 [.xs A n c] (SS.mk [] [] true w []) =
(tB w A n):=by kernel_rfl
theorem Jv(A:Option Addr)(n c:Nat)(w:World):(by have h:=Bh A n c w;unfold tB at h;exact type_of% h):=Bh A n c w
theorem Bi(s:ByteArray)(w:World):al Tryz.prog km 500 199 [.str s false] (SS.mk [] [] true w []) =
(.choose (.appendCap s.size 0 5) fun c0=>(.leaf .ret [(.tup [(.slc 0 0 s.size c0 false false),(.one .nilIface rfl)])] (SS.mk [(m6 s c0)] [] true w []))):=by kernel_rfl
theorem Jw(s:ByteArray)(w:World):(by have h:=Bi s w;unfold m6 at h;exact type_of% h):=Bi s w
theorem Bj(A:Option Addr)(n c:Nat)(w:World):al Tryz.prog km 500 201 [.xs A n c] (SS.mk [] [] true w []) =
(.split (decide ((↑n:Int)<(2:Int))) (jk w (ByteArray.mk #[98,121,116,101,32,115,108,105,99,101,32,116,111,111,32,115,104,111,114,116,58])) (.need (ej n (0:Int)) (.need (A.isSome=true) (.need (pf w A) (.split (aj w (((A.getD default).add 0).add 0) != (47:Int)) (jk w (ByteArray.mk #[112,97,116,104,32,112,114,111,116,111,99,111,108,32,109,117,115,116,32,98,101,103,105,110,32,119,105,116,104,32,39,47,39])) (.need ((0:Int)<=i64.wrap ((↑n:Int)-(1:Int))/\i64.wrap ((↑n:Int)-(1:Int))<(↑n:Int)) (.need (A.isSome=true) (.need (canRead w [] ((A.getD default).add ((i64.wrap ((↑n:Int)-(1:Int))).toNat*1)) [SV.int u8 (aj w (((A.getD default).add ((i64.wrap ((↑n:Int)-(1:Int))).toNat*1)).add 0)) false]) (.split (aj w (((A.getD default).add ((i64.wrap ((↑n:Int)-(1:Int))).toNat*1)).add 0) == (47:Int)) (jk w (ByteArray.mk #[117,110,105,120,32,115,111,99,107,101,116,32,112,97,116,104,32,109,117,115,116,32,110,111,116,32,101,110,100,32,105,110,32,39,47,39])) (.leaf .ret [(.one .nilIface rfl)] (SS.mk [] [] true w []))))))))))):=by kernel_rfl
theorem Jx(A:Option Addr)(n c:Nat)(w:World):(by have h:=Bj A n c w;unfold pf jk ej at h;exact type_of% h):=Bj A n c w
end
section
open Go.Shelf Go.Proofs
def Tryz.lays169_ren:Go.Shelf.Ren:=⟨fun |169=>71 |n=>n,fun |70=>91 |9=>9 |0=>0 |72=>93 |37=>22 |127=>123 |3=>3 |5=>5 |n=>n,fun |n=>n⟩
theorem Tryz.lays169:Go.Proofs.Lays.n169 Tryz.prog Tryz.lays169_ren:={
 mixed:=by kernel_rfl
 f169:=Tryz.func71.trans (congrArg some (by kernel_rfl))
 t0:=Tryz.underlying0
 a0:=Tryz.isAgg0
 z0:=Tryz.sizeOf0
 v0:=Tryz.zeroValue0
 t3:=Tryz.underlying3
 a3:=Tryz.isAgg3
 z3:=Tryz.sizeOf3
 v3:=Tryz.zeroValue3
 t9:=Tryz.underlying9
 a9:=Tryz.isAgg9
 z9:=Tryz.sizeOf9
 v9:=Tryz.zeroValue9
 t37:=Tryz.underlying22
 a37:=Tryz.isAgg22
 z37:=Tryz.sizeOf22
 v37:=Tryz.zeroValue22
 t70:=Tryz.underlying91
 a70:=Tryz.isAgg91
 z70:=Tryz.sizeOf91
 v70:=Tryz.zeroValue91
 t72:=Tryz.underlying93
 a72:=Tryz.isAgg93
 z72:=Tryz.sizeOf93
 v72:=Tryz.zeroValue93
 t127:=Tryz.underlying123
 a127:=Tryz.isAgg123
 z127:=Tryz.sizeOf123
 v127:=Tryz.zeroValue123 }
theorem Tryz.Builder_Extra_169:Builder.Extra Tryz.prog Tryz.lays169_ren:={
 sizeBuilder:=by kernel_rfl
 liesBuilder:=by kernel_rfl
 t5:=Tryz.underlying5
 a5:=Tryz.isAgg5
 z5:=Tryz.sizeOf5
 v5:=Tryz.zeroValue5
 infoByte:=by kernel_rfl
 cellsByte:=by kernel_rfl
 sizeByte:=by kernel_rfl
 neB5:=by decide }
open Go.RowKit in
theorem Tryz.Builder_String_any(B b:Nat)(l:List UInt8)(w:World)(h:Lib.IsBuilder 93 5 B b (Lib.byteCells l) w)(hBw:B<=w.heap.size) :
  Calls Tryz.prog 71 #[.pointer (some ⟨b,0,none⟩)] w fun e w'=>e=.returned (.string ⟨l.toArray⟩)/\Below B w w':=Any.Builder_String_any Tryz.lays169 Tryz.Builder_Extra_169 B b l w h hBw
def Tryz.lays283_ren:Go.Shelf.Ren:=⟨fun |283=>308 |n=>n,fun |3=>3 |9=>9 |4=>4 |n=>n,fun |n=>n⟩
theorem Tryz.lays283:Go.Proofs.Lays.n283 Tryz.prog Tryz.lays283_ren:={
 mixed:=by kernel_rfl
 f283:=Tryz.func308.trans (congrArg some (by kernel_rfl))
 t3:=Tryz.underlying3
 a3:=Tryz.isAgg3
 z3:=Tryz.sizeOf3
 v3:=Tryz.zeroValue3
 t4:=Tryz.underlying4
 a4:=Tryz.isAgg4
 z4:=Tryz.sizeOf4
 v4:=Tryz.zeroValue4
 t9:=Tryz.underlying9
 a9:=Tryz.isAgg9
 z9:=Tryz.sizeOf9
 v9:=Tryz.zeroValue9 }
open Go.Lib in
theorem Tryz.internal_strconv_small(i:Nat)(h:i<100)(w:World) :
  Calls Tryz.prog 308 #[.int .i64 i] w fun e w'=>e=.returned (.string ⟨(Lib.decDigits i).toArray⟩)/\w'=w:=Any.internal_strconv_small Tryz.lays283 i h w
def Tryz.laysM284_ren:Go.Shelf.Ren:=⟨fun |284=>309 |129=>136 |317=>353 |318=>354 |n=>n,fun |53=>74 |3=>3 |212=>280 |0=>0 |4=>4 |46=>101 |5=>5 |9=>9 |n=>n,fun |17=>14 |n=>n⟩
theorem Tryz.laysM284:Go.Proofs.LaysM.n284 Tryz.prog Tryz.laysM284_ren:={
 mixed:=by kernel_rfl
 f129:=Tryz.func136.trans (congrArg some (by kernel_rfl))
 f284:=Tryz.func309.trans (congrArg some (by kernel_rfl))
 f317:=Tryz.func353.trans (congrArg some (by kernel_rfl))
 f318:=Tryz.func354.trans (congrArg some (by kernel_rfl))
 t0:=Tryz.underlying0
 a0:=Tryz.isAgg0
 z0:=Tryz.sizeOf0
 v0:=Tryz.zeroValue0
 t3:=Tryz.underlying3
 a3:=Tryz.isAgg3
 z3:=Tryz.sizeOf3
 v3:=Tryz.zeroValue3
 t4:=Tryz.underlying4
 a4:=Tryz.isAgg4
 z4:=Tryz.sizeOf4
 v4:=Tryz.zeroValue4
 t5:=Tryz.underlying5
 a5:=Tryz.isAgg5
 z5:=Tryz.sizeOf5
 v5:=Tryz.zeroValue5
 t9:=Tryz.underlying9
 a9:=Tryz.isAgg9
 z9:=Tryz.sizeOf9
 v9:=Tryz.zeroValue9
 t46:=Tryz.underlying101
 a46:=Tryz.isAgg101
 z46:=Tryz.sizeOf101
 v46:=Tryz.zeroValue101
 t53:=Tryz.underlying74
 a53:=Tryz.isAgg74
 z53:=Tryz.sizeOf74
 v53:=Tryz.zeroValue74
 t212:=Tryz.underlying280
 a212:=Tryz.isAgg280
 z212:=Tryz.sizeOf280
 v212:=Tryz.zeroValue280
 g17:=by kernel_rfl
 i0:=by kernel_rfl
 i3:=by kernel_rfl
 i4:=by kernel_rfl
 i5:=by kernel_rfl
 i9:=by kernel_rfl
 i46:=by kernel_rfl
 i53:=by kernel_rfl
 i212:=by kernel_rfl
 m17:=by kernel_rfl }
open Go.Lib in
theorem Tryz.internal_strconv_numDigits (u:Nat) (h1:1<=u) (h2:u<18446744073709551616) (w:World) (htab:Lib.TabIs Tryz.prog w "internal/strconv.uint64pow10" .u64 Lib.pow10Tab) :
  Calls Tryz.prog 309 #[.int .u64 u] w fun e w'=>e=.returned (.int .i64 (Lib.nDigits u))/\w'=w:=Any.internal_strconv_numDigits Tryz.laysM284 u h1 h2 w htab
def Tryz.lays285_ren:Go.Shelf.Ren:=⟨fun |285=>310 |n=>n,fun |37=>22 |53=>74 |3=>3 |4=>4 |51=>237 |9=>9 |5=>5 |0=>0 |n=>n,fun |n=>n⟩
theorem Tryz.lays285:Go.Proofs.Lays.n285 Tryz.prog Tryz.lays285_ren:={
 mixed:=by kernel_rfl
 f285:=Tryz.func310.trans (congrArg some (by kernel_rfl))
 t0:=Tryz.underlying0
 a0:=Tryz.isAgg0
 z0:=Tryz.sizeOf0
 v0:=Tryz.zeroValue0
 t3:=Tryz.underlying3
 a3:=Tryz.isAgg3
 z3:=Tryz.sizeOf3
 v3:=Tryz.zeroValue3
 t4:=Tryz.underlying4
 a4:=Tryz.isAgg4
 z4:=Tryz.sizeOf4
 v4:=Tryz.zeroValue4
 t5:=Tryz.underlying5
 a5:=Tryz.isAgg5
 z5:=Tryz.sizeOf5
 v5:=Tryz.zeroValue5
 t9:=Tryz.underlying9
 a9:=Tryz.isAgg9
 z9:=Tryz.sizeOf9
 v9:=Tryz.zeroValue9
 t37:=Tryz.underlying22
 a37:=Tryz.isAgg22
 z37:=Tryz.sizeOf22
 v37:=Tryz.zeroValue22
 t51:=Tryz.underlying237
 a51:=Tryz.isAgg237
 z51:=Tryz.sizeOf237
 v51:=Tryz.zeroValue237
 t53:=Tryz.underlying74
 a53:=Tryz.isAgg74
 z53:=Tryz.sizeOf74
 v53:=Tryz.zeroValue74 }
open Go.RowKit Go.Sort Go.Lib in
theorem Tryz.internal_strconv_formatBase10(blk off cap:Nat)(u:Nat)(d:Array UInt8)(w:World)(hH:Holds (fun(b:UInt8)=>Value.int .u8 (b.toNat:Int)) w blk off d)(hu:u<10^d.size)(hu64:u<18446744073709551616)(hsz:d.size<4611686018427387904) :
  Calls Tryz.prog 310 #[.slice (some ⟨blk,off,none⟩) d.size cap,.int .u64 u] w fun e w'=>
   e=.returned (.tuple #[])/\∃(n v':Nat) (dk:Array UInt8),w'=(putRow (fun(b:UInt8)=>Value.int .u8 (b.toNat:Int)) w blk off dk).drewN n/\FmtInv d.size u 0 v' dk:=Any.internal_strconv_formatBase10 Tryz.lays285 blk off cap u d w hH hu hu64 hsz
def Tryz.laysM183_ren:Go.Shelf.Ren:=⟨fun |183=>82 |n=>n,fun |130=>129 |37=>22 |0=>0 |93=>112 |3=>3 |5=>5 |91=>110 |n=>n,fun |n=>n⟩
theorem Tryz.laysM183:Go.Proofs.LaysM.n183 Tryz.prog Tryz.laysM183_ren:={
 mixed:=by kernel_rfl
 f183:=Tryz.func82.trans (congrArg some (by kernel_rfl))
 t0:=Tryz.underlying0
 a0:=Tryz.isAgg0
 z0:=Tryz.sizeOf0
 v0:=Tryz.zeroValue0
 t3:=Tryz.underlying3
 a3:=Tryz.isAgg3
 z3:=Tryz.sizeOf3
 v3:=Tryz.zeroValue3
 t37:=Tryz.underlying22
 a37:=Tryz.isAgg22
 z37:=Tryz.sizeOf22
 v37:=Tryz.zeroValue22
 t93:=Tryz.underlying112
 a93:=Tryz.isAgg112
 z93:=Tryz.sizeOf112
 v93:=Tryz.zeroValue112
 t130:=Tryz.underlying129
 a130:=Tryz.isAgg129
 z130:=Tryz.sizeOf129
 v130:=Tryz.zeroValue129
 t5:=Tryz.underlying5
 a5:=Tryz.isAgg5
 z5:=Tryz.sizeOf5
 v5:=Tryz.zeroValue5
 t91:=Tryz.underlying110
 a91:=Tryz.isAgg110
 z91:=Tryz.sizeOf110
 v91:=Tryz.zeroValue110
 i0:=by kernel_rfl
 i3:=by kernel_rfl
 i5:=by kernel_rfl
 i37:=by kernel_rfl
 i91:=by kernel_rfl
 i93:=by kernel_rfl
 i130:=by kernel_rfl }
open Go.RowKit in
theorem Tryz.Buffer_Bytes(B b:Nat)(bs:List Value)(w:World)(h:Lib.IsBuffer 112 5 B b bs w) :
  Calls Tryz.prog 82 #[.pointer (some ⟨b,0,none⟩)] w fun e w'=>∃v,e=.returned v/\w'.ownsRow B 5 1 v bs.length bs/\∃n,w'=w.drewN n:=Any.Buffer_Bytes Tryz.laysM183 B b bs w h
def Tryz.laysBin46_ren:Go.Shelf.Ren:=⟨fun |46=>90 |n=>n,fun |22=>22 |33=>74 |3=>3 |4=>4 |5=>5 |0=>0 |45=>101 |n=>n,fun |n=>n⟩
theorem Tryz.laysBin46:Go.Proofs.LaysBin.n46 Tryz.prog Tryz.laysBin46_ren:={
 mixed:=by kernel_rfl
 f46:=Tryz.func90.trans (congrArg some (by kernel_rfl))
 t0:=Tryz.underlying0
 a0:=Tryz.isAgg0
 z0:=Tryz.sizeOf0
 v0:=Tryz.zeroValue0
 i0:=by kernel_rfl
 t3:=Tryz.underlying3
 a3:=Tryz.isAgg3
 z3:=Tryz.sizeOf3
 v3:=Tryz.zeroValue3
 i3:=by kernel_rfl
 t4:=Tryz.underlying4
 a4:=Tryz.isAgg4
 z4:=Tryz.sizeOf4
 v4:=Tryz.zeroValue4
 i4:=by kernel_rfl
 t5:=Tryz.underlying5
 a5:=Tryz.isAgg5
 z5:=Tryz.sizeOf5
 v5:=Tryz.zeroValue5
 i5:=by kernel_rfl
 t22:=Tryz.underlying22
 a22:=Tryz.isAgg22
 z22:=Tryz.sizeOf22
 v22:=Tryz.zeroValue22
 i22:=by kernel_rfl
 t33:=Tryz.underlying74
 a33:=Tryz.isAgg74
 z33:=Tryz.sizeOf74
 v33:=Tryz.zeroValue74
 i33:=by kernel_rfl
 t45:=Tryz.underlying101
 a45:=Tryz.isAgg101
 z45:=Tryz.sizeOf101
 v45:=Tryz.zeroValue101
 i45:=by kernel_rfl }
open Go.RowKit in
theorem Tryz.binary_PutUvarint(g o n c x:Nat)(hx:x<18446744073709551616)(w:World)(hn:(Lib.uvarint x).length<=n)(hcell:∀j,j<(Lib.uvarint x).length->(w.cell? ⟨g,o+j,none⟩).isSome=true/\w.frozen? ⟨g,o+j,none⟩=false) :
  Calls Tryz.prog 90 #[.slice (some ⟨g,o,none⟩) n c,.int .u64 x] w fun e w'=>e=.returned (.int .i64 (Lib.uvarint x).length)/\w'=w.setCells g o (Lib.byteCells (Lib.uvarint x)):=Any.binary_PutUvarint Tryz.laysBin46 g o n c x hx w hn hcell
def Tryz.lays287_ren:Go.Shelf.Ren:=⟨fun |287=>243 |321=>302 |322=>303 |n=>n,fun |9=>9 |3=>3 |53=>74 |75=>53 |4=>4 |167=>222 |5=>5 |46=>101 |37=>22 |0=>0 |21=>21 |80=>66 |n=>n,fun |n=>n⟩
theorem Tryz.lays287:Go.Proofs.Lays.n287 Tryz.prog Tryz.lays287_ren:={
 mixed:=by kernel_rfl
 f287:=Tryz.func243.trans (congrArg some (by kernel_rfl))
 f321:=Tryz.func302.trans (congrArg some (by kernel_rfl))
 f322:=Tryz.func303.trans (congrArg some (by kernel_rfl))
 t0:=Tryz.underlying0
 a0:=Tryz.isAgg0
 z0:=Tryz.sizeOf0
 v0:=Tryz.zeroValue0
 t3:=Tryz.underlying3
 a3:=Tryz.isAgg3
 z3:=Tryz.sizeOf3
 v3:=Tryz.zeroValue3
 t4:=Tryz.underlying4
 a4:=Tryz.isAgg4
 z4:=Tryz.sizeOf4
 v4:=Tryz.zeroValue4
 t5:=Tryz.underlying5
 a5:=Tryz.isAgg5
 z5:=Tryz.sizeOf5
 v5:=Tryz.zeroValue5
 t9:=Tryz.underlying9
 a9:=Tryz.isAgg9
 z9:=Tryz.sizeOf9
 v9:=Tryz.zeroValue9
 t21:=Tryz.underlying21
 a21:=Tryz.isAgg21
 z21:=Tryz.sizeOf21
 v21:=Tryz.zeroValue21
 t37:=Tryz.underlying22
 a37:=Tryz.isAgg22
 z37:=Tryz.sizeOf22
 v37:=Tryz.zeroValue22
 t46:=Tryz.underlying101
 a46:=Tryz.isAgg101
 z46:=Tryz.sizeOf101
 v46:=Tryz.zeroValue101
 t53:=Tryz.underlying74
 a53:=Tryz.isAgg74
 z53:=Tryz.sizeOf74
 v53:=Tryz.zeroValue74
 t75:=Tryz.underlying53
 a75:=Tryz.isAgg53
 z75:=Tryz.sizeOf53
 v75:=Tryz.zeroValue53
 t167:=Tryz.underlying222
 a167:=Tryz.isAgg222
 z167:=Tryz.sizeOf222
 v167:=Tryz.zeroValue222 }
open Go.RowKit in
theorem Tryz.internal_strconv_ParseUint_10_b64(t:ByteArray)(hne:t.size≠0)(hmax:t.size<=9223372036854775806)(w:World) :
  Calls Tryz.prog 243 #[.string t,.int .i64 10,.int .i64 64] w fun e w'=>e=.returned (Lib.uintTuple 222 (Lib.parseUint10 0 t.data.toList))/\w'=Lib.bytesWorld w 5 t:=Any.internal_strconv_ParseUint_10_b64 Tryz.lays287 t hne hmax w
open Go.RowKit in
theorem Tryz.internal_strconv_ParseUint_10_b16(t:ByteArray)(hne:t.size≠0)(hmax:t.size<=9223372036854775806)(w:World) :
  Calls Tryz.prog 243 #[.string t,.int .i64 10,.int .i64 16] w fun e w'=>e=.returned (Lib.uintTupleM 222 65535 (Lib.parseUintM 65535 0 t.data.toList))/\w'=Lib.bytesWorld w 5 t:=Any.internal_strconv_ParseUint_10_b16 Tryz.lays287 t hne hmax w
open Go.RowKit in
theorem Tryz.internal_strconv_ParseUint_10_b8(t:ByteArray)(hne:t.size≠0)(hmax:t.size<=9223372036854775806)(w:World) :
  Calls Tryz.prog 243 #[.string t,.int .i64 10,.int .i64 8] w fun e w'=>e=.returned (Lib.uintTupleM 222 255 (Lib.parseUintM 255 0 t.data.toList))/\w'=Lib.bytesWorld w 5 t:=Any.internal_strconv_ParseUint_10_b8 Tryz.lays287 t hne hmax w
def Tryz.lays187_ren:Go.Shelf.Ren:=⟨fun |187=>212 |255=>246 |n=>n,fun |37=>22 |5=>5 |3=>3 |n=>n,fun |n=>n⟩
theorem Tryz.lays187:Go.Proofs.Lays.n187 Tryz.prog Tryz.lays187_ren:={
 mixed:=by kernel_rfl
 f187:=Tryz.func212.trans (congrArg some (by kernel_rfl))
 f255:=Tryz.func246.trans (congrArg some (by kernel_rfl))
 t3:=Tryz.underlying3
 a3:=Tryz.isAgg3
 z3:=Tryz.sizeOf3
 v3:=Tryz.zeroValue3
 t5:=Tryz.underlying5
 a5:=Tryz.isAgg5
 z5:=Tryz.sizeOf5
 v5:=Tryz.zeroValue5
 t37:=Tryz.underlying22
 a37:=Tryz.isAgg22
 z37:=Tryz.sizeOf22
 v37:=Tryz.zeroValue22 }
theorem Tryz.bytes_IndexByte(b o n c:Nat)(xs:List Int)(cv:Int)(w:World)(hx:xs.length=n)(hc:∀i,i<n->w.cell? ⟨b,o+i,none⟩=some (.int .u8 (xs.getD i 0))) :
  Calls Tryz.prog 212 #[.slice (some ⟨b,o,none⟩) n c,.int .u8 cv] w fun e w'=>e=.returned (.int .i64 (Lib.indexByte (Lib.bytesOf xs) cv.toNat.toUInt8))/\w'=w:=Any.bytes_IndexByte Tryz.lays187 b o n c xs cv w hx hc
end
end Go.Proofs.YtnklanajebphpaaGreatDoor
