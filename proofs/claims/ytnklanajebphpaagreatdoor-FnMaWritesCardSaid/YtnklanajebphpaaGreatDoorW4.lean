/- Joined texts: K3 Sh. -/
import Derived.Test.YtnklanajebphpaaGreatDoorW3
import Derived.Shelf.Strings.Builder1
import Derived.Shelf.Strings.Builder2
import Derived.Shelf.Strconv.Itoa0
import Derived.Shelf.Strconv.Itoa1
import Derived.Shelf.LaysM
import Derived.Shelf.Strconv.Itoa2
import Derived.Shelf.Strconv.Itoa3
import Derived.Shelf.Bytes.Bytes
import Derived.Shelf.Bin.PutUvarint
import Derived.Shelf.Strconv.ParseUint10
import Derived.Shelf.Strconv.ParseUint10b64
import Derived.Shelf.Strconv.ParseUint10b32
import Derived.Shelf.Strconv.ParseUint10b16
import Derived.Shelf.Strconv.ParseUint10b8
import Derived.Shelf.Bytes.IndexByte
import Derived.Test.YtnklanajebphpaaGreatDoorProg
set_option maxRecDepth 100000
set_option maxHeartbeats 4000000
set_option linter.unusedVariables false
set_option linter.unusedSimpArgs false
namespace Go.Proofs.YtnklanajebphpaaGreatDoor
open IntKind
section
open Go Go.Rx Go.RowKit
@[reducible] def il:Hook:={ X:=Nat,out:=fun _ s x=>(.tup [.int .u64 x false,.one .nilIface rfl],s.objs) }
@[reducible] def rU:Hook:={ X:=Int,out:=fun _ s x=>(.int .i64 x false,s.objs) }
@[reducible] def Co:Hook:={ X:=Bool,out:=fun _ s b=>(.bool b false,s.objs) }
@[reducible] def dN:Hook:={ X:=Unit,out:=fun _ s _=>(.one .nilIface rfl,s.objs) }
def jT:Hooks:={ calls:=fun f=>if f=211∨f=215 then some aL else if f=208 then some il else if f=212 then some rU else if f=214 then some Co else none,loops:=fun _ _=>none }
noncomputable abbrev dZ(n:Nat)(k0_:Int):Prop:=((0:Int)<=k0_/\k0_<(↑n:Int))
noncomputable abbrev oJ(w:World)(A:Option Addr):Prop:=(canRead w [] ((A.getD default).add 0) [SV.int u8 (ai w (((A.getD default).add 0).add 0)) false])
noncomputable abbrev EE(w:World)(A:Option Addr):List SV:=[(.int .u64 (u64.wrap (u16.wrap (↑(BitVec.ofInt 16 (u16.wrap (ai w (((A.getD default).add 1).add 0))) |||BitVec.ofInt 16 (u16.wrap (u16.wrap (ai w (((A.getD default).add 0).add 0))*(2:Int)^8))).toNat:Int))) false),(.int .i64 10 true)]
noncomputable abbrev xR(w:World)(A:Option Addr):Prop:=(canRead w [] ((A.getD default).add 1) [SV.int u8 (ai w (((A.getD default).add 1).add 0)) false])
theorem Ak(A:Option Addr)(n c:Nat)(w:World):am Tryz.prog jT 500 166 [.xs A n c] (SS.mk [] [] true w []) =
(.need (canRead w [] (Addr.mk 6 0 none) []) (.need (dZ n (1:Int)) (.need (A.isSome=true) (.need (xR w A) (.need (dZ n (1:Int)) (.need (A.isSome=true) (.need (xR w A) (.need (dZ n (0:Int)) (.need (A.isSome=true) (.need (oJ w A) (.call 211 (EE w A) (SS.mk [(.cells [] 0 155 0 0)] [] true w []) (Hook.X (aL)) (Hook.out (aL) (EE w A) (SS.mk [(.cells [] 0 155 0 0)] [] true w [])) fun x0 w0 b0=>(.leaf .ret [(.tup [(.str x0 false),(.one .nilIface rfl)])] (SS.mk [(.cells [] 0 155 0 0)] [] true w0 b0))))))))))))):=by kernel_rfl
theorem IL(A:Option Addr)(n c:Nat)(w:World):(by have h:=Ak A n c w;unfold xR EE oJ dZ at h;exact type_of% h):=Ak A n c w
noncomputable abbrev mD(s:ByteArray)(k0_:Int):List SV:=[(.str s false),(.int .i64 10 true),(.int .i64 k0_ true)]
theorem Al(s:ByteArray)(w:World):am Tryz.prog jT 500 165 [.str s false] (SS.mk [] [] true w []) =
(.call 208 (mD s 16) (SS.mk [] [] true w []) (Hook.X (il)) (Hook.out (il) (mD s 16) (SS.mk [] [] true w [])) fun x0 w0 b0=>(.need (canRead w0 b0 (Addr.mk 6 0 none) []) (.leaf .ret [(.tup [(.slc 0 0 2 2 true true),(.one .nilIface rfl)])] (SS.mk [(.cells [(.int .u8 (u8.wrap ((u16.wrap (↑x0:Int)).fdiv ((2:Int)^8))) false),(.int .u8 (u8.wrap (u16.wrap (↑x0:Int))) false)] 2 5 0 0),(.cells [] 0 155 0 0)] [] true w0 b0)))):=by kernel_rfl
theorem IM(s:ByteArray)(w:World):(by have h:=Al s w;unfold mD at h;exact type_of% h):=Al s w
noncomputable abbrev uB:ByteArray:=(ByteArray.mk #[105,110,118,97,108,105,100,32,108,101,110,103,116,104,32,40,115,104,111,117,108,100,32,98,101,32,61,61,32,49,41])
noncomputable abbrev nq:SV:=(.tup [(.str (ByteArray.mk #[]) true),(.ifc 105 (.ptr 0 0))])
theorem Ah(A:Option Addr)(n c:Nat)(w:World):am Tryz.prog jT 500 176 [.xs A n c] (SS.mk [] [] true w []) =
(.split ((↑n:Int) != (1:Int)) (.leaf .ret [nq] (SS.mk [(.cells [(.str uB true)] 1 107 0 0)] [] true w [])) (.need (dZ n (0:Int)) (.need (A.isSome=true) (.need (oJ w A) (.hc 215 [(.int .i64 (i64.wrap (ai w (((A.getD default).add 0).add 0))) false)] (SS.mk [] [] true w []) (aL) fun x0 w0 b0=>(.leaf .ret [(.tup [(.str x0 false),(.one .nilIface rfl)])] (SS.mk [] [] true w0 b0))))))):=by kernel_rfl
theorem IH(A:Option Addr)(n c:Nat)(w:World):(by have h:=Ah A n c w;unfold nq uB oJ dZ at h;exact type_of% h):=Ah A n c w
theorem Ai(s:ByteArray)(w:World):am Tryz.prog jT 500 175 [.str s false] (SS.mk [] [] true w []) =
(.call 208 (mD s 8) (SS.mk [] [] true w []) (Hook.X (il)) (Hook.out (il) (mD s 8) (SS.mk [] [] true w [])) fun x0 w0 b0=>(.leaf .ret [(.tup [(.slc 0 0 1 1 true true),(.one .nilIface rfl)])] (SS.mk [(.cells [(.int .u8 (u8.wrap (↑x0:Int)) false)] 1 5 0 0)] [] true w0 b0))):=by kernel_rfl
theorem II(s:ByteArray)(w:World):(by have h:=Ai s w;unfold mD at h;exact type_of% h):=Ai s w
noncomputable abbrev iQ(w:World)(k0_:ByteArray):T:=(.leaf .ret [(.ifc 105 (.ptr 0 0))] (SS.mk [(.cells [(.str k0_ true)] 1 107 0 0)] [] true w []))
theorem Aj(A:Option Addr)(n c:Nat)(w:World):am Tryz.prog jT 500 177 [.xs A n c] (SS.mk [] [] true w []) =
(.split ((↑n:Int) != (1:Int)) (iQ w uB) (.leaf .ret [(.one .nilIface rfl)] (SS.mk [] [] true w []))):=by kernel_rfl
theorem IJ(A:Option Addr)(n c:Nat)(w:World):(by have h:=Aj A n c w;unfold uB iQ at h;exact type_of% h):=Aj A n c w
noncomputable abbrev ED(w:World)(A:Option Addr):List SV:=[(.int .u64 (u64.wrap (↑(BitVec.ofInt 64 (u64.wrap (↑(BitVec.ofInt 64 (u64.wrap (↑(BitVec.ofInt 64 (u64.wrap (↑(BitVec.ofInt 64 (u64.wrap (↑(BitVec.ofInt 64 (u64.wrap (↑(BitVec.ofInt 64 (u64.wrap (↑(BitVec.ofInt 64 (u64.wrap (ai w (((A.getD default).add 7).add 0))) |||BitVec.ofInt 64 (u64.wrap (u64.wrap (ai w (((A.getD default).add 6).add 0))*(2:Int)^8))).toNat:Int)) |||BitVec.ofInt 64 (u64.wrap (u64.wrap (ai w (((A.getD default).add 5).add 0))*(2:Int)^16))).toNat:Int)) |||BitVec.ofInt 64 (u64.wrap (u64.wrap (ai w (((A.getD default).add 4).add 0))*(2:Int)^24))).toNat:Int)) |||BitVec.ofInt 64 (u64.wrap (u64.wrap (ai w (((A.getD default).add 3).add 0))*(2:Int)^32))).toNat:Int)) |||BitVec.ofInt 64 (u64.wrap (u64.wrap (ai w (((A.getD default).add 2).add 0))*(2:Int)^40))).toNat:Int)) |||BitVec.ofInt 64 (u64.wrap (u64.wrap (ai w (((A.getD default).add 1).add 0))*(2:Int)^48))).toNat:Int)) |||BitVec.ofInt 64 (u64.wrap (u64.wrap (ai w (((A.getD default).add 0).add 0))*(2:Int)^56))).toNat:Int)) false),(.int .i64 10 true)]
theorem CY(A:Option Addr)(n c:Nat)(w:World):am Tryz.prog jT 500 203 [.xs A n c] (SS.mk [] [] true w []) =
(.split ((↑n:Int) != (8:Int)) (.leaf .ret [nq] (SS.mk [(.cells [(.str (ByteArray.mk #[101,120,112,101,99,116,101,100,32,117,105,110,116,54,52,44,32,111,110,108,121,32,102,111,117,110,100,32,98,105,116,115]) true)] 1 107 0 0)] [] true w [])) (.need (canRead w [] (Addr.mk 6 0 none) []) (.need (dZ n (7:Int)) (.need (A.isSome=true) (.need (canRead w [] ((A.getD default).add 7) [SV.int u8 (ai w (((A.getD default).add 7).add 0)) false]) (.need (dZ n (7:Int)) (.need (A.isSome=true) (.need (canRead w [] ((A.getD default).add 7) [SV.int u8 (ai w (((A.getD default).add 7).add 0)) false]) (.need (dZ n (6:Int)) (.need (A.isSome=true) (.need (canRead w [] ((A.getD default).add 6) [SV.int u8 (ai w (((A.getD default).add 6).add 0)) false]) (.need (dZ n (5:Int)) (.need (A.isSome=true) (.need (canRead w [] ((A.getD default).add 5) [SV.int u8 (ai w (((A.getD default).add 5).add 0)) false]) (.need (dZ n (4:Int)) (.need (A.isSome=true) (.need (canRead w [] ((A.getD default).add 4) [SV.int u8 (ai w (((A.getD default).add 4).add 0)) false]) (.need (dZ n (3:Int)) (.need (A.isSome=true) (.need (canRead w [] ((A.getD default).add 3) [SV.int u8 (ai w (((A.getD default).add 3).add 0)) false]) (.need (dZ n (2:Int)) (.need (A.isSome=true) (.need (canRead w [] ((A.getD default).add 2) [SV.int u8 (ai w (((A.getD default).add 2).add 0)) false]) (.need (dZ n (1:Int)) (.need (A.isSome=true) (.need (xR w A) (.need (dZ n (0:Int)) (.need (A.isSome=true) (.need (oJ w A) (.call 211 (ED w A) (SS.mk [(.cells [] 0 155 0 0)] [] true w []) (Hook.X (aL)) (Hook.out (aL) (ED w A) (SS.mk [(.cells [] 0 155 0 0)] [] true w [])) fun x0 w0 b0=>(.leaf .ret [(.tup [(.str x0 false),(.one .nilIface rfl)])] (SS.mk [(.cells [] 0 155 0 0)] [] true w0 b0)))))))))))))))))))))))))))))))):=by kernel_rfl
theorem Ku(A:Option Addr)(n c:Nat)(w:World):(by have h:=CY A n c w;unfold nq xR oJ dZ ED at h;exact type_of% h):=CY A n c w
theorem CZ(s:ByteArray)(w:World):am Tryz.prog jT 500 202 [.str s false] (SS.mk [] [] true w []) =
(.call 208 (mD s 64) (SS.mk [] [] true w []) (Hook.X (il)) (Hook.out (il) (mD s 64) (SS.mk [] [] true w [])) fun x0 w0 b0=>(.need (canRead w0 b0 (Addr.mk 6 0 none) []) (.leaf .ret [(.tup [(.slc 0 0 8 8 true true),(.one .nilIface rfl)])] (SS.mk [(.cells [(.int .u8 (u8.wrap ((↑x0:Int).fdiv ((2:Int)^56))) false),(.int .u8 (u8.wrap ((↑x0:Int).fdiv ((2:Int)^48))) false),(.int .u8 (u8.wrap ((↑x0:Int).fdiv ((2:Int)^40))) false),(.int .u8 (u8.wrap ((↑x0:Int).fdiv ((2:Int)^32))) false),(.int .u8 (u8.wrap ((↑x0:Int).fdiv ((2:Int)^24))) false),(.int .u8 (u8.wrap ((↑x0:Int).fdiv ((2:Int)^16))) false),(.int .u8 (u8.wrap ((↑x0:Int).fdiv ((2:Int)^8))) false),(.int .u8 (u8.wrap (↑x0:Int)) false)] 8 5 0 0),(.cells [] 0 155 0 0)] [] true w0 b0)))):=by kernel_rfl
theorem Kv(s:ByteArray)(w:World):(by have h:=CZ s w;unfold mD at h;exact type_of% h):=CZ s w
theorem C0(A:Option Addr)(n c:Nat)(w:World):am Tryz.prog jT 500 204 [.xs A n c] (SS.mk [] [] true w []) =
(.split ((↑n:Int) != (8:Int)) (iQ w (ByteArray.mk #[105,110,118,97,108,105,100,32,108,101,110,103,116,104,58,32,109,117,115,116,32,98,101,32,101,120,97,99,116,108,121,32,56,32,98,121,116,101,115])) (.leaf .ret [(.one .nilIface rfl)] (SS.mk [] [] true w []))):=by kernel_rfl
theorem Kw(A:Option Addr)(n c:Nat)(w:World):(by have h:=C0 A n c w;unfold iQ at h;exact type_of% h):=C0 A n c w
noncomputable abbrev sD(w:World)(A:Option Addr)(n:Nat):T:=(.need (canBytes w [] A n) (.leaf .ret [(.tup [(.str (bytesAt w A n) false),(.one .nilIface rfl)])] (SS.mk [] [] true w [])))
theorem CU(A:Option Addr)(n c:Nat)(w:World):am Tryz.prog jT 500 168 [.xs A n c] (SS.mk [] [] true w []) =
(sD w A n):=by kernel_rfl
theorem Ko(A:Option Addr)(n c:Nat)(w:World):(by have h:=CU A n c w;unfold sD at h;exact type_of% h):=CU A n c w
noncomputable abbrev mC(s:ByteArray)(c0:Nat):SObj:=(.ints .u8 (List.map (fun b=>(↑b.toNat:Int)) s.data.toList++List.replicate (c0-s.size) (0:Int)) 5 c0 (c0+1))
noncomputable abbrev nl(k0_:Nat):SV:=(.tup [(.one (.slice none 0 0) rfl),(.ifc 105 (.ptr k0_ 0))])
noncomputable abbrev uy:ByteArray:=(ByteArray.mk #[100,111,109,97,105,110,32,110,97,109,101,32,99,111,110,116,97,105,110,115,32,97,32,115,108,97,115,104])
theorem CW(s:ByteArray)(w:World):am Tryz.prog jT 500 167 [.str s false] (SS.mk [] [] true w []) =
(.choose (.appendCap s.size 0 5) fun c0=>(.split ((↑s.size:Int) == (0:Int)) (.leaf .ret [(nl 1)] (SS.mk [(mC s c0),(.cells [(.str (ByteArray.mk #[101,109,112,116,121,32,100,110,115,32,97,100,100,114]) true)] 1 107 0 0)] [] true w [])) (.hc 212 [(.slc 0 0 s.size c0 false false),(.int .u8 47 true)] (SS.mk [(mC s c0)] [] true w []) (rU) fun x1 w1 b1=>(.split (decide (x1 ≥ (0:Int))) (.leaf .ret [(nl 1)] (SS.mk [(mC s c0),(.cells [(.str uy true)] 1 107 0 0)] [] true w1 b1)) (.leaf .ret [(.tup [(.slc 0 0 s.size c0 false false),(.one .nilIface rfl)])] (SS.mk [(mC s c0)] [] true w1 b1)))))):=by kernel_rfl
theorem Kp(s:ByteArray)(w:World):(by have h:=CW s w;unfold uy nl mC at h;exact type_of% h):=CW s w
theorem CX(A:Option Addr)(n c:Nat)(w:World):am Tryz.prog jT 500 169 [.xs A n c] (SS.mk [] [] true w []) =
(.split ((↑n:Int) == (0:Int)) (iQ w (ByteArray.mk #[101,109,112,116,121,32,100,110,115,32,97,100,100,114])) (.hc 212 [(.xs A n c),(.int .u8 47 true)] (SS.mk [] [] true w []) (rU) fun x0 w0 b0=>(.split (decide (x0 ≥ (0:Int))) (.leaf .ret [(.ifc 105 (.ptr 0 0))] (SS.mk [(.cells [(.str uy true)] 1 107 0 0)] [] true w0 b0)) (.leaf .ret [(.one .nilIface rfl)] (SS.mk [] [] true w0 b0))))):=by kernel_rfl
theorem Kq(A:Option Addr)(n c:Nat)(w:World):(by have h:=CX A n c w;unfold uy iQ at h;exact type_of% h):=CX A n c w
noncomputable abbrev uC:ByteArray:=(ByteArray.mk #[105,110,118,97,108,105,100,32,108,101,110,103,116,104,32,40,115,104,111,117,108,100,32,98,101,32,62,32,48,41])
theorem Ap(A:Option Addr)(n c:Nat)(w:World):am Tryz.prog jT 500 173 [.xs A n c] (SS.mk [] [] true w []) =
(.split ((↑n:Int) == (0:Int)) (.leaf .ret [nq] (SS.mk [(.cells [(.str uC true)] 1 107 0 0)] [] true w [])) (sD w A n)):=by kernel_rfl
theorem IU(A:Option Addr)(n c:Nat)(w:World):(by have h:=Ap A n c w;unfold nq uC sD at h;exact type_of% h):=Ap A n c w
noncomputable abbrev uz:ByteArray:=(ByteArray.mk #[73,80,118,54,32,122,111,110,101,32,73,68,32,99,111,110,116,97,105,110,115,32,39,47,39,58])
theorem Aq(s:ByteArray)(w:World):am Tryz.prog jT 500 172 [.str s false] (SS.mk [] [] true w []) =
(.split ((↑s.size:Int) == (0:Int)) (.leaf .ret [(nl 0)] (SS.mk [(.cells [(.str (ByteArray.mk #[101,109,112,116,121,32,105,112,54,122,111,110,101]) true)] 1 107 0 0)] [] true w [])) (.hc 214 [(.str s false),(.str (ByteArray.mk #[47]) true)] (SS.mk [] [] true w []) (Co) fun x0 w0 b0=>(.split x0 (.leaf .ret [(nl 0)] (SS.mk [(.cells [(.str uz true)] 1 107 0 0)] [] true w0 b0)) (.choose (.appendCap s.size 0 5) fun c1=>(.leaf .ret [(.tup [(.slc 0 0 s.size c1 false false),(.one .nilIface rfl)])] (SS.mk [(mC s c1)] [] true w0 b0)))))):=by kernel_rfl
theorem IW(s:ByteArray)(w:World):(by have h:=Aq s w;unfold uz nl mC at h;exact type_of% h):=Aq s w
theorem Ar(A:Option Addr)(n c:Nat)(w:World):am Tryz.prog jT 500 174 [.xs A n c] (SS.mk [] [] true w []) =
(.split ((↑n:Int) == (0:Int)) (iQ w uC) (.hc 212 [(.xs A n c),(.int .u8 47 true)] (SS.mk [] [] true w []) (rU) fun x0 w0 b0=>(.split (decide (x0 ≥ (0:Int))) (.leaf .ret [(.ifc 105 (.ptr 0 0))] (SS.mk [(.cells [(.str uz true)] 1 107 0 0)] [] true w0 b0)) (.leaf .ret [(.one .nilIface rfl)] (SS.mk [] [] true w0 b0))))):=by kernel_rfl
theorem IX(A:Option Addr)(n c:Nat)(w:World):(by have h:=Ar A n c w;unfold uC uz iQ at h;exact type_of% h):=Ar A n c w
theorem Am(A:Option Addr)(n c:Nat)(w:World):am Tryz.prog jT 500 200 [.xs A n c] (SS.mk [] [] true w []) =
(sD w A n):=by kernel_rfl
theorem jIO(A:Option Addr)(n c:Nat)(w:World):(by have h:=Am A n c w;unfold sD at h;exact type_of% h):=Am A n c w
theorem An(s:ByteArray)(w:World):am Tryz.prog jT 500 199 [.str s false] (SS.mk [] [] true w []) =
(.choose (.appendCap s.size 0 5) fun c0=>(.leaf .ret [(.tup [(.slc 0 0 s.size c0 false false),(.one .nilIface rfl)])] (SS.mk [(mC s c0)] [] true w []))):=by kernel_rfl
theorem IP(s:ByteArray)(w:World):(by have h:=An s w;unfold mC at h;exact type_of% h):=An s w
theorem Ao(A:Option Addr)(n c:Nat)(w:World):am Tryz.prog jT 500 201 [.xs A n c] (SS.mk [] [] true w []) =
(.split (decide ((↑n:Int)<(2:Int))) (iQ w (ByteArray.mk #[98,121,116,101,32,115,108,105,99,101,32,116,111,111,32,115,104,111,114,116,58])) (.need (dZ n (0:Int)) (.need (A.isSome=true) (.need (oJ w A) (.split (ai w (((A.getD default).add 0).add 0) != (47:Int)) (iQ w (ByteArray.mk #[112,97,116,104,32,112,114,111,116,111,99,111,108,32,109,117,115,116,32,98,101,103,105,110,32,119,105,116,104,32,39,47,39])) (.need ((0:Int)<=i64.wrap ((↑n:Int)-(1:Int))/\i64.wrap ((↑n:Int)-(1:Int))<(↑n:Int)) (.need (A.isSome=true) (.need (canRead w [] ((A.getD default).add ((i64.wrap ((↑n:Int)-(1:Int))).toNat*1)) [SV.int u8 (ai w (((A.getD default).add ((i64.wrap ((↑n:Int)-(1:Int))).toNat*1)).add 0)) false]) (.split (ai w (((A.getD default).add ((i64.wrap ((↑n:Int)-(1:Int))).toNat*1)).add 0) == (47:Int)) (iQ w (ByteArray.mk #[117,110,105,120,32,115,111,99,107,101,116,32,112,97,116,104,32,109,117,115,116,32,110,111,116,32,101,110,100,32,105,110,32,39,47,39])) (.leaf .ret [(.one .nilIface rfl)] (SS.mk [] [] true w []))))))))))):=by kernel_rfl
theorem IQ(A:Option Addr)(n c:Nat)(w:World):(by have h:=Ao A n c w;unfold oJ iQ dZ at h;exact type_of% h):=Ao A n c w
end
section
open Go.Shelf Go.Proofs
def Tryz.lays169_ren:Go.Shelf.Ren:=⟨fun |169=>71 |n=>n,fun |70=>91 |9=>9 |0=>0 |72=>93 |37=>22 |127=>123 |3=>3 |5=>5 |n=>n,fun |n=>n⟩
theorem Tryz.lays169:Go.Proofs.Lays.n169 Tryz.prog Tryz.lays169_ren:={
 mixed:=by kernel_rfl
 f169:=Tryz.func71.trans (congrArg some (by kernel_rfl))
 t0:=Tryz.underlying0
 a0:=Tryz.isAgg0
 z0:=Tryz.sizeOf0
 v0:=Tryz.zeroValue0
 t3:=Tryz.underlying3
 a3:=Tryz.isAgg3
 z3:=Tryz.sizeOf3
 v3:=Tryz.zeroValue3
 t9:=Tryz.underlying9
 a9:=Tryz.isAgg9
 z9:=Tryz.sizeOf9
 v9:=Tryz.zeroValue9
 t37:=Tryz.underlying22
 a37:=Tryz.isAgg22
 z37:=Tryz.sizeOf22
 v37:=Tryz.zeroValue22
 t70:=Tryz.underlying91
 a70:=Tryz.isAgg91
 z70:=Tryz.sizeOf91
 v70:=Tryz.zeroValue91
 t72:=Tryz.underlying93
 a72:=Tryz.isAgg93
 z72:=Tryz.sizeOf93
 v72:=Tryz.zeroValue93
 t127:=Tryz.underlying123
 a127:=Tryz.isAgg123
 z127:=Tryz.sizeOf123
 v127:=Tryz.zeroValue123 }
theorem Tryz.Builder_Extra_169:Builder.Extra Tryz.prog Tryz.lays169_ren:={
 sizeBuilder:=by kernel_rfl
 liesBuilder:=by kernel_rfl
 t5:=Tryz.underlying5
 a5:=Tryz.isAgg5
 z5:=Tryz.sizeOf5
 v5:=Tryz.zeroValue5
 infoByte:=by kernel_rfl
 cellsByte:=by kernel_rfl
 sizeByte:=by kernel_rfl
 neB5:=by decide }
open Go.RowKit in
theorem Tryz.Builder_String_any(B b:Nat)(l:List UInt8)(w:World)(h:Lib.IsBuilder 93 5 B b (Lib.byteCells l) w)(hBw:B<=w.heap.size) :
  Calls Tryz.prog 71 #[.pointer (some ⟨b,0,none⟩)] w fun e w'=>e=.returned (.string ⟨l.toArray⟩)/\Below B w w':=Any.Builder_String_any Tryz.lays169 Tryz.Builder_Extra_169 B b l w h hBw
def Tryz.lays283_ren:Go.Shelf.Ren:=⟨fun |283=>308 |n=>n,fun |3=>3 |9=>9 |4=>4 |n=>n,fun |n=>n⟩
theorem Tryz.lays283:Go.Proofs.Lays.n283 Tryz.prog Tryz.lays283_ren:={
 mixed:=by kernel_rfl
 f283:=Tryz.func308.trans (congrArg some (by kernel_rfl))
 t3:=Tryz.underlying3
 a3:=Tryz.isAgg3
 z3:=Tryz.sizeOf3
 v3:=Tryz.zeroValue3
 t4:=Tryz.underlying4
 a4:=Tryz.isAgg4
 z4:=Tryz.sizeOf4
 v4:=Tryz.zeroValue4
 t9:=Tryz.underlying9
 a9:=Tryz.isAgg9
 z9:=Tryz.sizeOf9
 v9:=Tryz.zeroValue9 }
open Go.Lib in
theorem Tryz.internal_strconv_small(i:Nat)(h:i<100)(w:World) :
  Calls Tryz.prog 308 #[.int .i64 i] w fun e w'=>e=.returned (.string ⟨(Lib.decDigits i).toArray⟩)/\w'=w:=Any.internal_strconv_small Tryz.lays283 i h w
def Tryz.laysM284_ren:Go.Shelf.Ren:=⟨fun |284=>309 |129=>136 |317=>353 |318=>354 |n=>n,fun |53=>74 |3=>3 |212=>280 |0=>0 |4=>4 |46=>101 |5=>5 |9=>9 |n=>n,fun |17=>14 |n=>n⟩
theorem Tryz.laysM284:Go.Proofs.LaysM.n284 Tryz.prog Tryz.laysM284_ren:={
 mixed:=by kernel_rfl
 f129:=Tryz.func136.trans (congrArg some (by kernel_rfl))
 f284:=Tryz.func309.trans (congrArg some (by kernel_rfl))
 f317:=Tryz.func353.trans (congrArg some (by kernel_rfl))
 f318:=Tryz.func354.trans (congrArg some (by kernel_rfl))
 t0:=Tryz.underlying0
 a0:=Tryz.isAgg0
 z0:=Tryz.sizeOf0
 v0:=Tryz.zeroValue0
 t3:=Tryz.underlying3
 a3:=Tryz.isAgg3
 z3:=Tryz.sizeOf3
 v3:=Tryz.zeroValue3
 t4:=Tryz.underlying4
 a4:=Tryz.isAgg4
 z4:=Tryz.sizeOf4
 v4:=Tryz.zeroValue4
 t5:=Tryz.underlying5
 a5:=Tryz.isAgg5
 z5:=Tryz.sizeOf5
 v5:=Tryz.zeroValue5
 t9:=Tryz.underlying9
 a9:=Tryz.isAgg9
 z9:=Tryz.sizeOf9
 v9:=Tryz.zeroValue9
 t46:=Tryz.underlying101
 a46:=Tryz.isAgg101
 z46:=Tryz.sizeOf101
 v46:=Tryz.zeroValue101
 t53:=Tryz.underlying74
 a53:=Tryz.isAgg74
 z53:=Tryz.sizeOf74
 v53:=Tryz.zeroValue74
 t212:=Tryz.underlying280
 a212:=Tryz.isAgg280
 z212:=Tryz.sizeOf280
 v212:=Tryz.zeroValue280
 g17:=by kernel_rfl
 i0:=by kernel_rfl
 i3:=by kernel_rfl
 i4:=by kernel_rfl
 i5:=by kernel_rfl
 i9:=by kernel_rfl
 i46:=by kernel_rfl
 i53:=by kernel_rfl
 i212:=by kernel_rfl
 m17:=by kernel_rfl }
open Go.Lib in
theorem Tryz.internal_strconv_numDigits (u:Nat) (h1:1<=u) (h2:u<18446744073709551616) (w:World) (htab:Lib.TabIs Tryz.prog w "internal/strconv.uint64pow10" .u64 Lib.pow10Tab) :
  Calls Tryz.prog 309 #[.int .u64 u] w fun e w'=>e=.returned (.int .i64 (Lib.nDigits u))/\w'=w:=Any.internal_strconv_numDigits Tryz.laysM284 u h1 h2 w htab
def Tryz.lays285_ren:Go.Shelf.Ren:=⟨fun |285=>310 |n=>n,fun |37=>22 |53=>74 |3=>3 |4=>4 |51=>237 |9=>9 |5=>5 |0=>0 |n=>n,fun |n=>n⟩
theorem Tryz.lays285:Go.Proofs.Lays.n285 Tryz.prog Tryz.lays285_ren:={
 mixed:=by kernel_rfl
 f285:=Tryz.func310.trans (congrArg some (by kernel_rfl))
 t0:=Tryz.underlying0
 a0:=Tryz.isAgg0
 z0:=Tryz.sizeOf0
 v0:=Tryz.zeroValue0
 t3:=Tryz.underlying3
 a3:=Tryz.isAgg3
 z3:=Tryz.sizeOf3
 v3:=Tryz.zeroValue3
 t4:=Tryz.underlying4
 a4:=Tryz.isAgg4
 z4:=Tryz.sizeOf4
 v4:=Tryz.zeroValue4
 t5:=Tryz.underlying5
 a5:=Tryz.isAgg5
 z5:=Tryz.sizeOf5
 v5:=Tryz.zeroValue5
 t9:=Tryz.underlying9
 a9:=Tryz.isAgg9
 z9:=Tryz.sizeOf9
 v9:=Tryz.zeroValue9
 t37:=Tryz.underlying22
 a37:=Tryz.isAgg22
 z37:=Tryz.sizeOf22
 v37:=Tryz.zeroValue22
 t51:=Tryz.underlying237
 a51:=Tryz.isAgg237
 z51:=Tryz.sizeOf237
 v51:=Tryz.zeroValue237
 t53:=Tryz.underlying74
 a53:=Tryz.isAgg74
 z53:=Tryz.sizeOf74
 v53:=Tryz.zeroValue74 }
open Go.RowKit Go.Sort Go.Lib in
theorem Tryz.internal_strconv_formatBase10(blk off cap:Nat)(u:Nat)(d:Array UInt8)(w:World)(hH:Holds (fun(b:UInt8)=>Value.int .u8 (b.toNat:Int)) w blk off d)(hu:u<10^d.size)(hu64:u<18446744073709551616)(hsz:d.size<4611686018427387904) :
  Calls Tryz.prog 310 #[.slice (some ⟨blk,off,none⟩) d.size cap,.int .u64 u] w fun e w'=>
   e=.returned (.tuple #[])/\∃(n v':Nat) (dk:Array UInt8),w'=(putRow (fun(b:UInt8)=>Value.int .u8 (b.toNat:Int)) w blk off dk).drewN n/\FmtInv d.size u 0 v' dk:=Any.internal_strconv_formatBase10 Tryz.lays285 blk off cap u d w hH hu hu64 hsz
def Tryz.laysM183_ren:Go.Shelf.Ren:=⟨fun |183=>82 |n=>n,fun |130=>129 |37=>22 |0=>0 |93=>112 |3=>3 |5=>5 |91=>110 |n=>n,fun |n=>n⟩
theorem Tryz.laysM183:Go.Proofs.LaysM.n183 Tryz.prog Tryz.laysM183_ren:={
 mixed:=by kernel_rfl
 f183:=Tryz.func82.trans (congrArg some (by kernel_rfl))
 t0:=Tryz.underlying0
 a0:=Tryz.isAgg0
 z0:=Tryz.sizeOf0
 v0:=Tryz.zeroValue0
 t3:=Tryz.underlying3
 a3:=Tryz.isAgg3
 z3:=Tryz.sizeOf3
 v3:=Tryz.zeroValue3
 t37:=Tryz.underlying22
 a37:=Tryz.isAgg22
 z37:=Tryz.sizeOf22
 v37:=Tryz.zeroValue22
 t93:=Tryz.underlying112
 a93:=Tryz.isAgg112
 z93:=Tryz.sizeOf112
 v93:=Tryz.zeroValue112
 t130:=Tryz.underlying129
 a130:=Tryz.isAgg129
 z130:=Tryz.sizeOf129
 v130:=Tryz.zeroValue129
 t5:=Tryz.underlying5
 a5:=Tryz.isAgg5
 z5:=Tryz.sizeOf5
 v5:=Tryz.zeroValue5
 t91:=Tryz.underlying110
 a91:=Tryz.isAgg110
 z91:=Tryz.sizeOf110
 v91:=Tryz.zeroValue110
 i0:=by kernel_rfl
 i3:=by kernel_rfl
 i5:=by kernel_rfl
 i37:=by kernel_rfl
 i91:=by kernel_rfl
 i93:=by kernel_rfl
 i130:=by kernel_rfl }
open Go.RowKit in
theorem Tryz.Buffer_Bytes(B b:Nat)(bs:List Value)(w:World)(h:Lib.IsBuffer 112 5 B b bs w) :
  Calls Tryz.prog 82 #[.pointer (some ⟨b,0,none⟩)] w fun e w'=>∃v,e=.returned v/\w'.ownsRow B 5 1 v bs.length bs/\∃n,w'=w.drewN n:=Any.Buffer_Bytes Tryz.laysM183 B b bs w h
def Tryz.lays287_ren:Go.Shelf.Ren:=⟨fun |287=>243 |321=>302 |322=>303 |n=>n,fun |9=>9 |3=>3 |53=>74 |75=>53 |4=>4 |167=>222 |5=>5 |46=>101 |37=>22 |0=>0 |21=>21 |80=>66 |n=>n,fun |n=>n⟩
theorem Tryz.lays287:Go.Proofs.Lays.n287 Tryz.prog Tryz.lays287_ren:={
 mixed:=by kernel_rfl
 f287:=Tryz.func243.trans (congrArg some (by kernel_rfl))
 f321:=Tryz.func302.trans (congrArg some (by kernel_rfl))
 f322:=Tryz.func303.trans (congrArg some (by kernel_rfl))
 t0:=Tryz.underlying0
 a0:=Tryz.isAgg0
 z0:=Tryz.sizeOf0
 v0:=Tryz.zeroValue0
 t3:=Tryz.underlying3
 a3:=Tryz.isAgg3
 z3:=Tryz.sizeOf3
 v3:=Tryz.zeroValue3
 t4:=Tryz.underlying4
 a4:=Tryz.isAgg4
 z4:=Tryz.sizeOf4
 v4:=Tryz.zeroValue4
 t5:=Tryz.underlying5
 a5:=Tryz.isAgg5
 z5:=Tryz.sizeOf5
 v5:=Tryz.zeroValue5
 t9:=Tryz.underlying9
 a9:=Tryz.isAgg9
 z9:=Tryz.sizeOf9
 v9:=Tryz.zeroValue9
 t21:=Tryz.underlying21
 a21:=Tryz.isAgg21
 z21:=Tryz.sizeOf21
 v21:=Tryz.zeroValue21
 t37:=Tryz.underlying22
 a37:=Tryz.isAgg22
 z37:=Tryz.sizeOf22
 v37:=Tryz.zeroValue22
 t46:=Tryz.underlying101
 a46:=Tryz.isAgg101
 z46:=Tryz.sizeOf101
 v46:=Tryz.zeroValue101
 t53:=Tryz.underlying74
 a53:=Tryz.isAgg74
 z53:=Tryz.sizeOf74
 v53:=Tryz.zeroValue74
 t75:=Tryz.underlying53
 a75:=Tryz.isAgg53
 z75:=Tryz.sizeOf53
 v75:=Tryz.zeroValue53
 t167:=Tryz.underlying222
 a167:=Tryz.isAgg222
 z167:=Tryz.sizeOf222
 v167:=Tryz.zeroValue222 }
open Go.RowKit in
theorem Tryz.internal_strconv_ParseUint_10_b64(t:ByteArray)(hne:t.size≠0)(hmax:t.size<=9223372036854775806)(w:World) :
  Calls Tryz.prog 243 #[.string t,.int .i64 10,.int .i64 64] w fun e w'=>e=.returned (Lib.uintTuple 222 (Lib.parseUint10 0 t.data.toList))/\w'=Lib.bytesWorld w 5 t:=Any.internal_strconv_ParseUint_10_b64 Tryz.lays287 t hne hmax w
open Go.RowKit in
theorem Tryz.internal_strconv_ParseUint_10_b16(t:ByteArray)(hne:t.size≠0)(hmax:t.size<=9223372036854775806)(w:World) :
  Calls Tryz.prog 243 #[.string t,.int .i64 10,.int .i64 16] w fun e w'=>e=.returned (Lib.uintTupleM 222 65535 (Lib.parseUintM 65535 0 t.data.toList))/\w'=Lib.bytesWorld w 5 t:=Any.internal_strconv_ParseUint_10_b16 Tryz.lays287 t hne hmax w
open Go.RowKit in
theorem Tryz.internal_strconv_ParseUint_10_b8(t:ByteArray)(hne:t.size≠0)(hmax:t.size<=9223372036854775806)(w:World) :
  Calls Tryz.prog 243 #[.string t,.int .i64 10,.int .i64 8] w fun e w'=>e=.returned (Lib.uintTupleM 222 255 (Lib.parseUintM 255 0 t.data.toList))/\w'=Lib.bytesWorld w 5 t:=Any.internal_strconv_ParseUint_10_b8 Tryz.lays287 t hne hmax w
def Tryz.lays187_ren:Go.Shelf.Ren:=⟨fun |187=>212 |255=>246 |n=>n,fun |37=>22 |5=>5 |3=>3 |n=>n,fun |n=>n⟩
theorem Tryz.lays187:Go.Proofs.Lays.n187 Tryz.prog Tryz.lays187_ren:={
 mixed:=by kernel_rfl
 f187:=Tryz.func212.trans (congrArg some (by kernel_rfl))
 f255:=Tryz.func246.trans (congrArg some (by kernel_rfl))
 t3:=Tryz.underlying3
 a3:=Tryz.isAgg3
 z3:=Tryz.sizeOf3
 v3:=Tryz.zeroValue3
 t5:=Tryz.underlying5
 a5:=Tryz.isAgg5
 z5:=Tryz.sizeOf5
 v5:=Tryz.zeroValue5
 t37:=Tryz.underlying22
 a37:=Tryz.isAgg22
 z37:=Tryz.sizeOf22
 v37:=Tryz.zeroValue22 }
theorem Tryz.bytes_IndexByte(b o n c:Nat)(xs:List Int)(cv:Int)(w:World)(hx:xs.length=n)(hc:∀i,i<n->w.cell? ⟨b,o+i,none⟩=some (.int .u8 (xs.getD i 0))) :
  Calls Tryz.prog 212 #[.slice (some ⟨b,o,none⟩) n c,.int .u8 cv] w fun e w'=>e=.returned (.int .i64 (Lib.indexByte (Lib.bytesOf xs) cv.toNat.toUInt8))/\w'=w:=Any.bytes_IndexByte Tryz.lays187 b o n c xs cv w hx hc
end
end Go.Proofs.YtnklanajebphpaaGreatDoor
