/- Joined texts: M1 M6 M2 M3 M7 M8 M26. -/
import Derived.Test.YtnklanajebphpaaGreatDoorJ2
import Derived.Test.YtnklanajebphpaaGreatDoorProg
import Derived.KernelRfl
set_option maxRecDepth 100000
set_option maxHeartbeats 4000000
set_option linter.unusedVariables false
set_option linter.unusedSimpArgs false
namespace Go.Proofs.YtnklanajebphpaaGreatDoor
open IntKind
section
open Go Go.Rx Go.RowKit
def ar:Hooks:={ calls:=fun _=>none,loops:=fun _ _=>none }
def Ke:SE->List Nat
 | .normal=>[0,3]
 | .ret=>[2]
 |_=>[0]
def D2(s:ByteArray):LoopHook:=cl 56 Unit .ret [2] (fun _=>[.bool false true]) Unit (.exit 0) [0] (fun _=>[.str s false])
def DD(s:ByteArray):Hooks:={ calls:=fun _=>none,loops:=fun f k=>if f=38/\k=3 then some (D2 s) else none }
noncomputable abbrev BN(s:ByteArray):List SV:=([(.str s false),(.tup []),(.bool false true),(.int .i64 0 true)]++List.replicate 52 az)
theorem Mi(s:ByteArray)(w:World):al Tryz.prog (DD s) 1000 38 [.str s false] (SS.at w) =
(.loop 38 (av Tryz.prog 38 3) (BN s) (SS.mk [] [] true w []) (LoopHook.X (D2 s)) (LoopHook.out (D2 s) (BN s) (SS.mk [] [] true w [])) (fun x0 w0 b0=>(.leaf .ret [(.bool false true)] (SS.mk [] [] true w0 b0))) (LoopHook.Y (D2 s)) (LoopHook.out' (D2 s) (BN s) (SS.mk [] [] true w [])) (fun x0 w0 b0=>(.split (decide ((↑s.size:Int) ≥ (1:Int))) (.leaf .ret [(.bool (decide ((↑s.size:Int)<=(60:Int))) false)] (SS.mk [] [] true w0 b0)) (.leaf .ret [(.bool false true)] (SS.mk [] [] true w0 b0))))):=by kernel_rfl
theorem Q5(s:ByteArray)(w:World):(by have h:=Mi s w;unfold BN at h;exact type_of% h):=Mi s w
noncomputable abbrev pg(s:ByteArray)(i:Nat)(w:World):T:=(.leaf .normal [(.str s false),(.int .i64 (i64.wrap ((↑i:Int)+(1:Int))) false)] (SS.mk [] [] true w []))
noncomputable abbrev jl(s:ByteArray)(i:Nat):Int:=(↑(s.data.toList.getD (↑i:Int).toNat (0:UInt8)).toNat:Int)
noncomputable abbrev FA(s:ByteArray)(i:Nat)(w:World):T:=(.split ((jl s i) != (46:Int)) (.split ((jl s i) != (45:Int)) (.split ((jl s i) != (95:Int)) (.leaf .ret [(.bool false true)] (SS.mk [] [] true w [])) (pg s i w)) (pg s i w)) (pg s i w))
noncomputable abbrev yH(s:ByteArray)(i:Nat)(w:World):T:=(.split (decide ((jl s i)<(48:Int))) (FA s i w) (.split (decide ((jl s i) > (57:Int))) (FA s i w) (pg s i w)))
theorem Io(s:ByteArray)(w:World)(i:Nat)(g:Nat->Value):aO Tryz.prog ar 1000 38 (av Tryz.prog 38 3) (ay ((Ke .normal).zip [.str s false,.int .i64 i false]) g 56 0) (fun e a s=>.leaf e (fG Ke e a) s) (SS.at w) =
(.split (decide ((↑i:Int)<(↑s.size:Int))) (.need ((0:Int)<=(↑i:Int)/\(↑i:Int)<(↑s.size:Int)) (.split (decide ((jl s i)<(97:Int))) (.split (decide ((jl s i)<(65:Int))) (yH s i w) (.split (decide ((jl s i) > (90:Int))) (yH s i w) (pg s i w))) (.split (decide ((jl s i) > (122:Int))) (.split (decide ((jl s i)<(65:Int))) (yH s i w) (.split (decide ((jl s i) > (90:Int))) (yH s i w) (pg s i w))) (pg s i w)))) (.leaf (.exit 0) [(.str s false)] (SS.mk [] [] true w []))):=by kernel_rfl
theorem Ov(s:ByteArray)(w:World)(i:Nat)(g:Nat->Value):(by have h:=Io s w i g;unfold yH FA jl pg at h;exact type_of% h):=Io s w i g
end
section
open Go Go.Rx Go.RowKit
@[reducible] def bD:Hook:={ X:=Nat,out:=fun _ s r=>(.int .i64 r false,s.objs) }
structure UX where
 x:Nat
 i:Nat
 r:Nat
 l:List Int
def xv:SE->List Nat
 | .normal=>[0,1,5]
 | .ret=>[]
 |_=>[0,1,5]
def yu(z:UX):List SV:=[.slc 0 0 z.r z.r false false,.int .u64 z.x false,.int .i64 z.i false]
def dZ(z:UX):List SObj:=[.ints .u8 z.l 5 0 0]
def mu:LoopHook:=bE 25 UX (.exit 0) [0,1,5] yu dZ UX .ret [] (fun _=>[]) dZ
def F2:Hooks:={ calls:=fun f=>if f=89 then some bD else none,loops:=fun _ _=>some mu }
def DB:Hooks:={ calls:=fun f=>if f=136 then some bD else none,loops:=fun _ _=>none }
theorem Mb(n:Nat)(w:World):al Tryz.prog ar 200 136 [.int .u64 n false] (SS.at w) =
 (.split (decide ((↑n:Int) ≥ (4294967296:Int)))
  (.split (decide ((↑n:Int).fdiv ((2:Int)^(32:Nat)) ≥ (65536:Int)))
  (.split (decide (((↑n:Int).fdiv ((2:Int)^(32:Nat))).fdiv ((2:Int)^(16:Nat)) ≥ (256:Int)))
   (.need ((0:Int)<=u8.wrap ((((↑n:Int).fdiv ((2:Int)^(32:Nat))).fdiv ((2:Int)^(16:Nat))).fdiv ((2:Int)^(8:Nat)))/\u8.wrap ((((↑n:Int).fdiv ((2:Int)^(32:Nat))).fdiv ((2:Int)^(16:Nat))).fdiv ((2:Int)^(8:Nat)))<(↑(256:Nat):Int))
   (.leaf .ret [(.int .i64 (i64.wrap (i64.wrap (i64.wrap ((32:Int)+(16:Int))+(8:Int))+i64.wrap (↑((([(0:UInt8),(1:UInt8),(2:UInt8),(2:UInt8),(3:UInt8),(3:UInt8),(3:UInt8),(3:UInt8),(4:UInt8),(4:UInt8),(4:UInt8),(4:UInt8),(4:UInt8),(4:UInt8),(4:UInt8),(4:UInt8),(5:UInt8),(5:UInt8),(5:UInt8),(5:UInt8),(5:UInt8),(5:UInt8),(5:UInt8),(5:UInt8),(5:UInt8),(5:UInt8),(5:UInt8),(5:UInt8),(5:UInt8),(5:UInt8),(5:UInt8),(5:UInt8),(6:UInt8),(6:UInt8),(6:UInt8),(6:UInt8),(6:UInt8),(6:UInt8),(6:UInt8),(6:UInt8),(6:UInt8),(6:UInt8),(6:UInt8),(6:UInt8),(6:UInt8),(6:UInt8),(6:UInt8),(6:UInt8),(6:UInt8),(6:UInt8),(6:UInt8),(6:UInt8),(6:UInt8),(6:UInt8),(6:UInt8),(6:UInt8),(6:UInt8),(6:UInt8),(6:UInt8),(6:UInt8),(6:UInt8),(6:UInt8),(6:UInt8),(6:UInt8)].append [(7:UInt8),(7:UInt8),(7:UInt8),(7:UInt8),(7:UInt8),(7:UInt8),(7:UInt8),(7:UInt8),(7:UInt8),(7:UInt8),(7:UInt8),(7:UInt8),(7:UInt8),(7:UInt8),(7:UInt8),(7:UInt8),(7:UInt8),(7:UInt8),(7:UInt8),(7:UInt8),(7:UInt8),(7:UInt8),(7:UInt8),(7:UInt8),(7:UInt8),(7:UInt8),(7:UInt8),(7:UInt8),(7:UInt8),(7:UInt8),(7:UInt8),(7:UInt8),(7:UInt8),(7:UInt8),(7:UInt8),(7:UInt8),(7:UInt8),(7:UInt8),(7:UInt8),(7:UInt8),(7:UInt8),(7:UInt8),(7:UInt8),(7:UInt8),(7:UInt8),(7:UInt8),(7:UInt8),(7:UInt8),(7:UInt8),(7:UInt8),(7:UInt8),(7:UInt8),(7:UInt8),(7:UInt8),(7:UInt8),(7:UInt8),(7:UInt8),(7:UInt8),(7:UInt8),(7:UInt8),(7:UInt8),(7:UInt8),(7:UInt8),(7:UInt8)]).append ([(8:UInt8),(8:UInt8),(8:UInt8),(8:UInt8),(8:UInt8),(8:UInt8),(8:UInt8),(8:UInt8),(8:UInt8),(8:UInt8),(8:UInt8),(8:UInt8),(8:UInt8),(8:UInt8),(8:UInt8),(8:UInt8),(8:UInt8),(8:UInt8),(8:UInt8),(8:UInt8),(8:UInt8),(8:UInt8),(8:UInt8),(8:UInt8),(8:UInt8),(8:UInt8),(8:UInt8),(8:UInt8),(8:UInt8),(8:UInt8),(8:UInt8),(8:UInt8),(8:UInt8),(8:UInt8),(8:UInt8),(8:UInt8),(8:UInt8),(8:UInt8),(8:UInt8),(8:UInt8),(8:UInt8),(8:UInt8),(8:UInt8),(8:UInt8),(8:UInt8),(8:UInt8),(8:UInt8),(8:UInt8),(8:UInt8),(8:UInt8),(8:UInt8),(8:UInt8),(8:UInt8),(8:UInt8),(8:UInt8),(8:UInt8),(8:UInt8),(8:UInt8),(8:UInt8),(8:UInt8),(8:UInt8),(8:UInt8),(8:UInt8),(8:UInt8)].append [(8:UInt8),(8:UInt8),(8:UInt8),(8:UInt8),(8:UInt8),(8:UInt8),(8:UInt8),(8:UInt8),(8:UInt8),(8:UInt8),(8:UInt8),(8:UInt8),(8:UInt8),(8:UInt8),(8:UInt8),(8:UInt8),(8:UInt8),(8:UInt8),(8:UInt8),(8:UInt8),(8:UInt8),(8:UInt8),(8:UInt8),(8:UInt8),(8:UInt8),(8:UInt8),(8:UInt8),(8:UInt8),(8:UInt8),(8:UInt8),(8:UInt8),(8:UInt8),(8:UInt8),(8:UInt8),(8:UInt8),(8:UInt8),(8:UInt8),(8:UInt8),(8:UInt8),(8:UInt8),(8:UInt8),(8:UInt8),(8:UInt8),(8:UInt8),(8:UInt8),(8:UInt8),(8:UInt8),(8:UInt8),(8:UInt8),(8:UInt8),(8:UInt8),(8:UInt8),(8:UInt8),(8:UInt8),(8:UInt8),(8:UInt8),(8:UInt8),(8:UInt8),(8:UInt8),(8:UInt8),(8:UInt8),(8:UInt8),(8:UInt8),(8:UInt8)])).getD (u8.wrap ((((↑n:Int).fdiv ((2:Int)^(32:Nat))).fdiv ((2:Int)^(16:Nat))).fdiv ((2:Int)^(8:Nat)))).toNat (0:UInt8)).toNat:Int))) false)] (SS.mk [] [] true w [])))
   (.need ((0:Int)<=u8.wrap (((↑n:Int).fdiv ((2:Int)^(32:Nat))).fdiv ((2:Int)^(16:Nat)))/\u8.wrap (((↑n:Int).fdiv ((2:Int)^(32:Nat))).fdiv ((2:Int)^(16:Nat)))<(↑(256:Nat):Int))
   (.leaf .ret [(.int .i64 (i64.wrap (i64.wrap ((32:Int)+(16:Int))+i64.wrap (↑((([(0:UInt8),(1:UInt8),(2:UInt8),(2:UInt8),(3:UInt8),(3:UInt8),(3:UInt8),(3:UInt8),(4:UInt8),(4:UInt8),(4:UInt8),(4:UInt8),(4:UInt8),(4:UInt8),(4:UInt8),(4:UInt8),(5:UInt8),(5:UInt8),(5:UInt8),(5:UInt8),(5:UInt8),(5:UInt8),(5:UInt8),(5:UInt8),(5:UInt8),(5:UInt8),(5:UInt8),(5:UInt8),(5:UInt8),(5:UInt8),(5:UInt8),(5:UInt8),(6:UInt8),(6:UInt8),(6:UInt8),(6:UInt8),(6:UInt8),(6:UInt8),(6:UInt8),(6:UInt8),(6:UInt8),(6:UInt8),(6:UInt8),(6:UInt8),(6:UInt8),(6:UInt8),(6:UInt8),(6:UInt8),(6:UInt8),(6:UInt8),(6:UInt8),(6:UInt8),(6:UInt8),(6:UInt8),(6:UInt8),(6:UInt8),(6:UInt8),(6:UInt8),(6:UInt8),(6:UInt8),(6:UInt8),(6:UInt8),(6:UInt8),(6:UInt8)].append [(7:UInt8),(7:UInt8),(7:UInt8),(7:UInt8),(7:UInt8),(7:UInt8),(7:UInt8),(7:UInt8),(7:UInt8),(7:UInt8),(7:UInt8),(7:UInt8),(7:UInt8),(7:UInt8),(7:UInt8),(7:UInt8),(7:UInt8),(7:UInt8),(7:UInt8),(7:UInt8),(7:UInt8),(7:UInt8),(7:UInt8),(7:UInt8),(7:UInt8),(7:UInt8),(7:UInt8),(7:UInt8),(7:UInt8),(7:UInt8),(7:UInt8),(7:UInt8),(7:UInt8),(7:UInt8),(7:UInt8),(7:UInt8),(7:UInt8),(7:UInt8),(7:UInt8),(7:UInt8),(7:UInt8),(7:UInt8),(7:UInt8),(7:UInt8),(7:UInt8),(7:UInt8),(7:UInt8),(7:UInt8),(7:UInt8),(7:UInt8),(7:UInt8),(7:UInt8),(7:UInt8),(7:UInt8),(7:UInt8),(7:UInt8),(7:UInt8),(7:UInt8),(7:UInt8),(7:UInt8),(7:UInt8),(7:UInt8),(7:UInt8),(7:UInt8)]).append ([(8:UInt8),(8:UInt8),(8:UInt8),(8:UInt8),(8:UInt8),(8:UInt8),(8:UInt8),(8:UInt8),(8:UInt8),(8:UInt8),(8:UInt8),(8:UInt8),(8:UInt8),(8:UInt8),(8:UInt8),(8:UInt8),(8:UInt8),(8:UInt8),(8:UInt8),(8:UInt8),(8:UInt8),(8:UInt8),(8:UInt8),(8:UInt8),(8:UInt8),(8:UInt8),(8:UInt8),(8:UInt8),(8:UInt8),(8:UInt8),(8:UInt8),(8:UInt8),(8:UInt8),(8:UInt8),(8:UInt8),(8:UInt8),(8:UInt8),(8:UInt8),(8:UInt8),(8:UInt8),(8:UInt8),(8:UInt8),(8:UInt8),(8:UInt8),(8:UInt8),(8:UInt8),(8:UInt8),(8:UInt8),(8:UInt8),(8:UInt8),(8:UInt8),(8:UInt8),(8:UInt8),(8:UInt8),(8:UInt8),(8:UInt8),(8:UInt8),(8:UInt8),(8:UInt8),(8:UInt8),(8:UInt8),(8:UInt8),(8:UInt8),(8:UInt8)].append [(8:UInt8),(8:UInt8),(8:UInt8),(8:UInt8),(8:UInt8),(8:UInt8),(8:UInt8),(8:UInt8),(8:UInt8),(8:UInt8),(8:UInt8),(8:UInt8),(8:UInt8),(8:UInt8),(8:UInt8),(8:UInt8),(8:UInt8),(8:UInt8),(8:UInt8),(8:UInt8),(8:UInt8),(8:UInt8),(8:UInt8),(8:UInt8),(8:UInt8),(8:UInt8),(8:UInt8),(8:UInt8),(8:UInt8),(8:UInt8),(8:UInt8),(8:UInt8),(8:UInt8),(8:UInt8),(8:UInt8),(8:UInt8),(8:UInt8),(8:UInt8),(8:UInt8),(8:UInt8),(8:UInt8),(8:UInt8),(8:UInt8),(8:UInt8),(8:UInt8),(8:UInt8),(8:UInt8),(8:UInt8),(8:UInt8),(8:UInt8),(8:UInt8),(8:UInt8),(8:UInt8),(8:UInt8),(8:UInt8),(8:UInt8),(8:UInt8),(8:UInt8),(8:UInt8),(8:UInt8),(8:UInt8),(8:UInt8),(8:UInt8),(8:UInt8)])).getD (u8.wrap (((↑n:Int).fdiv ((2:Int)^(32:Nat))).fdiv ((2:Int)^(16:Nat)))).toNat (0:UInt8)).toNat:Int))) false)] (SS.mk [] [] true w []))))
  (.split (decide ((↑n:Int).fdiv ((2:Int)^(32:Nat)) ≥ (256:Int)))
   (.need ((0:Int)<=u8.wrap (((↑n:Int).fdiv ((2:Int)^(32:Nat))).fdiv ((2:Int)^(8:Nat)))/\u8.wrap (((↑n:Int).fdiv ((2:Int)^(32:Nat))).fdiv ((2:Int)^(8:Nat)))<(↑(256:Nat):Int))
   (.leaf .ret [(.int .i64 (i64.wrap (i64.wrap ((32:Int)+(8:Int))+i64.wrap (↑((([(0:UInt8),(1:UInt8),(2:UInt8),(2:UInt8),(3:UInt8),(3:UInt8),(3:UInt8),(3:UInt8),(4:UInt8),(4:UInt8),(4:UInt8),(4:UInt8),(4:UInt8),(4:UInt8),(4:UInt8),(4:UInt8),(5:UInt8),(5:UInt8),(5:UInt8),(5:UInt8),(5:UInt8),(5:UInt8),(5:UInt8),(5:UInt8),(5:UInt8),(5:UInt8),(5:UInt8),(5:UInt8),(5:UInt8),(5:UInt8),(5:UInt8),(5:UInt8),(6:UInt8),(6:UInt8),(6:UInt8),(6:UInt8),(6:UInt8),(6:UInt8),(6:UInt8),(6:UInt8),(6:UInt8),(6:UInt8),(6:UInt8),(6:UInt8),(6:UInt8),(6:UInt8),(6:UInt8),(6:UInt8),(6:UInt8),(6:UInt8),(6:UInt8),(6:UInt8),(6:UInt8),(6:UInt8),(6:UInt8),(6:UInt8),(6:UInt8),(6:UInt8),(6:UInt8),(6:UInt8),(6:UInt8),(6:UInt8),(6:UInt8),(6:UInt8)].append [(7:UInt8),(7:UInt8),(7:UInt8),(7:UInt8),(7:UInt8),(7:UInt8),(7:UInt8),(7:UInt8),(7:UInt8),(7:UInt8),(7:UInt8),(7:UInt8),(7:UInt8),(7:UInt8),(7:UInt8),(7:UInt8),(7:UInt8),(7:UInt8),(7:UInt8),(7:UInt8),(7:UInt8),(7:UInt8),(7:UInt8),(7:UInt8),(7:UInt8),(7:UInt8),(7:UInt8),(7:UInt8),(7:UInt8),(7:UInt8),(7:UInt8),(7:UInt8),(7:UInt8),(7:UInt8),(7:UInt8),(7:UInt8),(7:UInt8),(7:UInt8),(7:UInt8),(7:UInt8),(7:UInt8),(7:UInt8),(7:UInt8),(7:UInt8),(7:UInt8),(7:UInt8),(7:UInt8),(7:UInt8),(7:UInt8),(7:UInt8),(7:UInt8),(7:UInt8),(7:UInt8),(7:UInt8),(7:UInt8),(7:UInt8),(7:UInt8),(7:UInt8),(7:UInt8),(7:UInt8),(7:UInt8),(7:UInt8),(7:UInt8),(7:UInt8)]).append ([(8:UInt8),(8:UInt8),(8:UInt8),(8:UInt8),(8:UInt8),(8:UInt8),(8:UInt8),(8:UInt8),(8:UInt8),(8:UInt8),(8:UInt8),(8:UInt8),(8:UInt8),(8:UInt8),(8:UInt8),(8:UInt8),(8:UInt8),(8:UInt8),(8:UInt8),(8:UInt8),(8:UInt8),(8:UInt8),(8:UInt8),(8:UInt8),(8:UInt8),(8:UInt8),(8:UInt8),(8:UInt8),(8:UInt8),(8:UInt8),(8:UInt8),(8:UInt8),(8:UInt8),(8:UInt8),(8:UInt8),(8:UInt8),(8:UInt8),(8:UInt8),(8:UInt8),(8:UInt8),(8:UInt8),(8:UInt8),(8:UInt8),(8:UInt8),(8:UInt8),(8:UInt8),(8:UInt8),(8:UInt8),(8:UInt8),(8:UInt8),(8:UInt8),(8:UInt8),(8:UInt8),(8:UInt8),(8:UInt8),(8:UInt8),(8:UInt8),(8:UInt8),(8:UInt8),(8:UInt8),(8:UInt8),(8:UInt8),(8:UInt8),(8:UInt8)].append [(8:UInt8),(8:UInt8),(8:UInt8),(8:UInt8),(8:UInt8),(8:UInt8),(8:UInt8),(8:UInt8),(8:UInt8),(8:UInt8),(8:UInt8),(8:UInt8),(8:UInt8),(8:UInt8),(8:UInt8),(8:UInt8),(8:UInt8),(8:UInt8),(8:UInt8),(8:UInt8),(8:UInt8),(8:UInt8),(8:UInt8),(8:UInt8),(8:UInt8),(8:UInt8),(8:UInt8),(8:UInt8),(8:UInt8),(8:UInt8),(8:UInt8),(8:UInt8),(8:UInt8),(8:UInt8),(8:UInt8),(8:UInt8),(8:UInt8),(8:UInt8),(8:UInt8),(8:UInt8),(8:UInt8),(8:UInt8),(8:UInt8),(8:UInt8),(8:UInt8),(8:UInt8),(8:UInt8),(8:UInt8),(8:UInt8),(8:UInt8),(8:UInt8),(8:UInt8),(8:UInt8),(8:UInt8),(8:UInt8),(8:UInt8),(8:UInt8),(8:UInt8),(8:UInt8),(8:UInt8),(8:UInt8),(8:UInt8),(8:UInt8),(8:UInt8)])).getD (u8.wrap (((↑n:Int).fdiv ((2:Int)^(32:Nat))).fdiv ((2:Int)^(8:Nat)))).toNat (0:UInt8)).toNat:Int))) false)] (SS.mk [] [] true w [])))
   (.need ((0:Int)<=u8.wrap ((↑n:Int).fdiv ((2:Int)^(32:Nat)))/\u8.wrap ((↑n:Int).fdiv ((2:Int)^(32:Nat)))<(↑(256:Nat):Int))
   (.leaf .ret [(.int .i64 (i64.wrap ((32:Int)+i64.wrap (↑((([(0:UInt8),(1:UInt8),(2:UInt8),(2:UInt8),(3:UInt8),(3:UInt8),(3:UInt8),(3:UInt8),(4:UInt8),(4:UInt8),(4:UInt8),(4:UInt8),(4:UInt8),(4:UInt8),(4:UInt8),(4:UInt8),(5:UInt8),(5:UInt8),(5:UInt8),(5:UInt8),(5:UInt8),(5:UInt8),(5:UInt8),(5:UInt8),(5:UInt8),(5:UInt8),(5:UInt8),(5:UInt8),(5:UInt8),(5:UInt8),(5:UInt8),(5:UInt8),(6:UInt8),(6:UInt8),(6:UInt8),(6:UInt8),(6:UInt8),(6:UInt8),(6:UInt8),(6:UInt8),(6:UInt8),(6:UInt8),(6:UInt8),(6:UInt8),(6:UInt8),(6:UInt8),(6:UInt8),(6:UInt8),(6:UInt8),(6:UInt8),(6:UInt8),(6:UInt8),(6:UInt8),(6:UInt8),(6:UInt8),(6:UInt8),(6:UInt8),(6:UInt8),(6:UInt8),(6:UInt8),(6:UInt8),(6:UInt8),(6:UInt8),(6:UInt8)].append [(7:UInt8),(7:UInt8),(7:UInt8),(7:UInt8),(7:UInt8),(7:UInt8),(7:UInt8),(7:UInt8),(7:UInt8),(7:UInt8),(7:UInt8),(7:UInt8),(7:UInt8),(7:UInt8),(7:UInt8),(7:UInt8),(7:UInt8),(7:UInt8),(7:UInt8),(7:UInt8),(7:UInt8),(7:UInt8),(7:UInt8),(7:UInt8),(7:UInt8),(7:UInt8),(7:UInt8),(7:UInt8),(7:UInt8),(7:UInt8),(7:UInt8),(7:UInt8),(7:UInt8),(7:UInt8),(7:UInt8),(7:UInt8),(7:UInt8),(7:UInt8),(7:UInt8),(7:UInt8),(7:UInt8),(7:UInt8),(7:UInt8),(7:UInt8),(7:UInt8),(7:UInt8),(7:UInt8),(7:UInt8),(7:UInt8),(7:UInt8),(7:UInt8),(7:UInt8),(7:UInt8),(7:UInt8),(7:UInt8),(7:UInt8),(7:UInt8),(7:UInt8),(7:UInt8),(7:UInt8),(7:UInt8),(7:UInt8),(7:UInt8),(7:UInt8)]).append ([(8:UInt8),(8:UInt8),(8:UInt8),(8:UInt8),(8:UInt8),(8:UInt8),(8:UInt8),(8:UInt8),(8:UInt8),(8:UInt8),(8:UInt8),(8:UInt8),(8:UInt8),(8:UInt8),(8:UInt8),(8:UInt8),(8:UInt8),(8:UInt8),(8:UInt8),(8:UInt8),(8:UInt8),(8:UInt8),(8:UInt8),(8:UInt8),(8:UInt8),(8:UInt8),(8:UInt8),(8:UInt8),(8:UInt8),(8:UInt8),(8:UInt8),(8:UInt8),(8:UInt8),(8:UInt8),(8:UInt8),(8:UInt8),(8:UInt8),(8:UInt8),(8:UInt8),(8:UInt8),(8:UInt8),(8:UInt8),(8:UInt8),(8:UInt8),(8:UInt8),(8:UInt8),(8:UInt8),(8:UInt8),(8:UInt8),(8:UInt8),(8:UInt8),(8:UInt8),(8:UInt8),(8:UInt8),(8:UInt8),(8:UInt8),(8:UInt8),(8:UInt8),(8:UInt8),(8:UInt8),(8:UInt8),(8:UInt8),(8:UInt8),(8:UInt8)].append [(8:UInt8),(8:UInt8),(8:UInt8),(8:UInt8),(8:UInt8),(8:UInt8),(8:UInt8),(8:UInt8),(8:UInt8),(8:UInt8),(8:UInt8),(8:UInt8),(8:UInt8),(8:UInt8),(8:UInt8),(8:UInt8),(8:UInt8),(8:UInt8),(8:UInt8),(8:UInt8),(8:UInt8),(8:UInt8),(8:UInt8),(8:UInt8),(8:UInt8),(8:UInt8),(8:UInt8),(8:UInt8),(8:UInt8),(8:UInt8),(8:UInt8),(8:UInt8),(8:UInt8),(8:UInt8),(8:UInt8),(8:UInt8),(8:UInt8),(8:UInt8),(8:UInt8),(8:UInt8),(8:UInt8),(8:UInt8),(8:UInt8),(8:UInt8),(8:UInt8),(8:UInt8),(8:UInt8),(8:UInt8),(8:UInt8),(8:UInt8),(8:UInt8),(8:UInt8),(8:UInt8),(8:UInt8),(8:UInt8),(8:UInt8),(8:UInt8),(8:UInt8),(8:UInt8),(8:UInt8),(8:UInt8),(8:UInt8),(8:UInt8),(8:UInt8)])).getD (u8.wrap ((↑n:Int).fdiv ((2:Int)^(32:Nat)))).toNat (0:UInt8)).toNat:Int))) false)] (SS.mk [] [] true w [])))))
  (.split (decide ((↑n:Int) ≥ (65536:Int)))
  (.split (decide ((↑n:Int).fdiv ((2:Int)^(16:Nat)) ≥ (256:Int)))
   (.need ((0:Int)<=u8.wrap (((↑n:Int).fdiv ((2:Int)^(16:Nat))).fdiv ((2:Int)^(8:Nat)))/\u8.wrap (((↑n:Int).fdiv ((2:Int)^(16:Nat))).fdiv ((2:Int)^(8:Nat)))<(↑(256:Nat):Int))
   (.leaf .ret [(.int .i64 (i64.wrap (i64.wrap (i64.wrap ((0:Int)+(16:Int))+(8:Int))+i64.wrap (↑((([(0:UInt8),(1:UInt8),(2:UInt8),(2:UInt8),(3:UInt8),(3:UInt8),(3:UInt8),(3:UInt8),(4:UInt8),(4:UInt8),(4:UInt8),(4:UInt8),(4:UInt8),(4:UInt8),(4:UInt8),(4:UInt8),(5:UInt8),(5:UInt8),(5:UInt8),(5:UInt8),(5:UInt8),(5:UInt8),(5:UInt8),(5:UInt8),(5:UInt8),(5:UInt8),(5:UInt8),(5:UInt8),(5:UInt8),(5:UInt8),(5:UInt8),(5:UInt8),(6:UInt8),(6:UInt8),(6:UInt8),(6:UInt8),(6:UInt8),(6:UInt8),(6:UInt8),(6:UInt8),(6:UInt8),(6:UInt8),(6:UInt8),(6:UInt8),(6:UInt8),(6:UInt8),(6:UInt8),(6:UInt8),(6:UInt8),(6:UInt8),(6:UInt8),(6:UInt8),(6:UInt8),(6:UInt8),(6:UInt8),(6:UInt8),(6:UInt8),(6:UInt8),(6:UInt8),(6:UInt8),(6:UInt8),(6:UInt8),(6:UInt8),(6:UInt8)].append [(7:UInt8),(7:UInt8),(7:UInt8),(7:UInt8),(7:UInt8),(7:UInt8),(7:UInt8),(7:UInt8),(7:UInt8),(7:UInt8),(7:UInt8),(7:UInt8),(7:UInt8),(7:UInt8),(7:UInt8),(7:UInt8),(7:UInt8),(7:UInt8),(7:UInt8),(7:UInt8),(7:UInt8),(7:UInt8),(7:UInt8),(7:UInt8),(7:UInt8),(7:UInt8),(7:UInt8),(7:UInt8),(7:UInt8),(7:UInt8),(7:UInt8),(7:UInt8),(7:UInt8),(7:UInt8),(7:UInt8),(7:UInt8),(7:UInt8),(7:UInt8),(7:UInt8),(7:UInt8),(7:UInt8),(7:UInt8),(7:UInt8),(7:UInt8),(7:UInt8),(7:UInt8),(7:UInt8),(7:UInt8),(7:UInt8),(7:UInt8),(7:UInt8),(7:UInt8),(7:UInt8),(7:UInt8),(7:UInt8),(7:UInt8),(7:UInt8),(7:UInt8),(7:UInt8),(7:UInt8),(7:UInt8),(7:UInt8),(7:UInt8),(7:UInt8)]).append ([(8:UInt8),(8:UInt8),(8:UInt8),(8:UInt8),(8:UInt8),(8:UInt8),(8:UInt8),(8:UInt8),(8:UInt8),(8:UInt8),(8:UInt8),(8:UInt8),(8:UInt8),(8:UInt8),(8:UInt8),(8:UInt8),(8:UInt8),(8:UInt8),(8:UInt8),(8:UInt8),(8:UInt8),(8:UInt8),(8:UInt8),(8:UInt8),(8:UInt8),(8:UInt8),(8:UInt8),(8:UInt8),(8:UInt8),(8:UInt8),(8:UInt8),(8:UInt8),(8:UInt8),(8:UInt8),(8:UInt8),(8:UInt8),(8:UInt8),(8:UInt8),(8:UInt8),(8:UInt8),(8:UInt8),(8:UInt8),(8:UInt8),(8:UInt8),(8:UInt8),(8:UInt8),(8:UInt8),(8:UInt8),(8:UInt8),(8:UInt8),(8:UInt8),(8:UInt8),(8:UInt8),(8:UInt8),(8:UInt8),(8:UInt8),(8:UInt8),(8:UInt8),(8:UInt8),(8:UInt8),(8:UInt8),(8:UInt8),(8:UInt8),(8:UInt8)].append [(8:UInt8),(8:UInt8),(8:UInt8),(8:UInt8),(8:UInt8),(8:UInt8),(8:UInt8),(8:UInt8),(8:UInt8),(8:UInt8),(8:UInt8),(8:UInt8),(8:UInt8),(8:UInt8),(8:UInt8),(8:UInt8),(8:UInt8),(8:UInt8),(8:UInt8),(8:UInt8),(8:UInt8),(8:UInt8),(8:UInt8),(8:UInt8),(8:UInt8),(8:UInt8),(8:UInt8),(8:UInt8),(8:UInt8),(8:UInt8),(8:UInt8),(8:UInt8),(8:UInt8),(8:UInt8),(8:UInt8),(8:UInt8),(8:UInt8),(8:UInt8),(8:UInt8),(8:UInt8),(8:UInt8),(8:UInt8),(8:UInt8),(8:UInt8),(8:UInt8),(8:UInt8),(8:UInt8),(8:UInt8),(8:UInt8),(8:UInt8),(8:UInt8),(8:UInt8),(8:UInt8),(8:UInt8),(8:UInt8),(8:UInt8),(8:UInt8),(8:UInt8),(8:UInt8),(8:UInt8),(8:UInt8),(8:UInt8),(8:UInt8),(8:UInt8)])).getD (u8.wrap (((↑n:Int).fdiv ((2:Int)^(16:Nat))).fdiv ((2:Int)^(8:Nat)))).toNat (0:UInt8)).toNat:Int))) false)] (SS.mk [] [] true w [])))
   (.need ((0:Int)<=u8.wrap ((↑n:Int).fdiv ((2:Int)^(16:Nat)))/\u8.wrap ((↑n:Int).fdiv ((2:Int)^(16:Nat)))<(↑(256:Nat):Int))
   (.leaf .ret [(.int .i64 (i64.wrap (i64.wrap ((0:Int)+(16:Int))+i64.wrap (↑((([(0:UInt8),(1:UInt8),(2:UInt8),(2:UInt8),(3:UInt8),(3:UInt8),(3:UInt8),(3:UInt8),(4:UInt8),(4:UInt8),(4:UInt8),(4:UInt8),(4:UInt8),(4:UInt8),(4:UInt8),(4:UInt8),(5:UInt8),(5:UInt8),(5:UInt8),(5:UInt8),(5:UInt8),(5:UInt8),(5:UInt8),(5:UInt8),(5:UInt8),(5:UInt8),(5:UInt8),(5:UInt8),(5:UInt8),(5:UInt8),(5:UInt8),(5:UInt8),(6:UInt8),(6:UInt8),(6:UInt8),(6:UInt8),(6:UInt8),(6:UInt8),(6:UInt8),(6:UInt8),(6:UInt8),(6:UInt8),(6:UInt8),(6:UInt8),(6:UInt8),(6:UInt8),(6:UInt8),(6:UInt8),(6:UInt8),(6:UInt8),(6:UInt8),(6:UInt8),(6:UInt8),(6:UInt8),(6:UInt8),(6:UInt8),(6:UInt8),(6:UInt8),(6:UInt8),(6:UInt8),(6:UInt8),(6:UInt8),(6:UInt8),(6:UInt8)].append [(7:UInt8),(7:UInt8),(7:UInt8),(7:UInt8),(7:UInt8),(7:UInt8),(7:UInt8),(7:UInt8),(7:UInt8),(7:UInt8),(7:UInt8),(7:UInt8),(7:UInt8),(7:UInt8),(7:UInt8),(7:UInt8),(7:UInt8),(7:UInt8),(7:UInt8),(7:UInt8),(7:UInt8),(7:UInt8),(7:UInt8),(7:UInt8),(7:UInt8),(7:UInt8),(7:UInt8),(7:UInt8),(7:UInt8),(7:UInt8),(7:UInt8),(7:UInt8),(7:UInt8),(7:UInt8),(7:UInt8),(7:UInt8),(7:UInt8),(7:UInt8),(7:UInt8),(7:UInt8),(7:UInt8),(7:UInt8),(7:UInt8),(7:UInt8),(7:UInt8),(7:UInt8),(7:UInt8),(7:UInt8),(7:UInt8),(7:UInt8),(7:UInt8),(7:UInt8),(7:UInt8),(7:UInt8),(7:UInt8),(7:UInt8),(7:UInt8),(7:UInt8),(7:UInt8),(7:UInt8),(7:UInt8),(7:UInt8),(7:UInt8),(7:UInt8)]).append ([(8:UInt8),(8:UInt8),(8:UInt8),(8:UInt8),(8:UInt8),(8:UInt8),(8:UInt8),(8:UInt8),(8:UInt8),(8:UInt8),(8:UInt8),(8:UInt8),(8:UInt8),(8:UInt8),(8:UInt8),(8:UInt8),(8:UInt8),(8:UInt8),(8:UInt8),(8:UInt8),(8:UInt8),(8:UInt8),(8:UInt8),(8:UInt8),(8:UInt8),(8:UInt8),(8:UInt8),(8:UInt8),(8:UInt8),(8:UInt8),(8:UInt8),(8:UInt8),(8:UInt8),(8:UInt8),(8:UInt8),(8:UInt8),(8:UInt8),(8:UInt8),(8:UInt8),(8:UInt8),(8:UInt8),(8:UInt8),(8:UInt8),(8:UInt8),(8:UInt8),(8:UInt8),(8:UInt8),(8:UInt8),(8:UInt8),(8:UInt8),(8:UInt8),(8:UInt8),(8:UInt8),(8:UInt8),(8:UInt8),(8:UInt8),(8:UInt8),(8:UInt8),(8:UInt8),(8:UInt8),(8:UInt8),(8:UInt8),(8:UInt8),(8:UInt8)].append [(8:UInt8),(8:UInt8),(8:UInt8),(8:UInt8),(8:UInt8),(8:UInt8),(8:UInt8),(8:UInt8),(8:UInt8),(8:UInt8),(8:UInt8),(8:UInt8),(8:UInt8),(8:UInt8),(8:UInt8),(8:UInt8),(8:UInt8),(8:UInt8),(8:UInt8),(8:UInt8),(8:UInt8),(8:UInt8),(8:UInt8),(8:UInt8),(8:UInt8),(8:UInt8),(8:UInt8),(8:UInt8),(8:UInt8),(8:UInt8),(8:UInt8),(8:UInt8),(8:UInt8),(8:UInt8),(8:UInt8),(8:UInt8),(8:UInt8),(8:UInt8),(8:UInt8),(8:UInt8),(8:UInt8),(8:UInt8),(8:UInt8),(8:UInt8),(8:UInt8),(8:UInt8),(8:UInt8),(8:UInt8),(8:UInt8),(8:UInt8),(8:UInt8),(8:UInt8),(8:UInt8),(8:UInt8),(8:UInt8),(8:UInt8),(8:UInt8),(8:UInt8),(8:UInt8),(8:UInt8),(8:UInt8),(8:UInt8),(8:UInt8),(8:UInt8)])).getD (u8.wrap ((↑n:Int).fdiv ((2:Int)^(16:Nat)))).toNat (0:UInt8)).toNat:Int))) false)] (SS.mk [] [] true w []))))
  (.split (decide ((↑n:Int) ≥ (256:Int)))
   (.need ((0:Int)<=u8.wrap ((↑n:Int).fdiv ((2:Int)^(8:Nat)))/\u8.wrap ((↑n:Int).fdiv ((2:Int)^(8:Nat)))<(↑(256:Nat):Int))
   (.leaf .ret [(.int .i64 (i64.wrap (i64.wrap ((0:Int)+(8:Int))+i64.wrap (↑((([(0:UInt8),(1:UInt8),(2:UInt8),(2:UInt8),(3:UInt8),(3:UInt8),(3:UInt8),(3:UInt8),(4:UInt8),(4:UInt8),(4:UInt8),(4:UInt8),(4:UInt8),(4:UInt8),(4:UInt8),(4:UInt8),(5:UInt8),(5:UInt8),(5:UInt8),(5:UInt8),(5:UInt8),(5:UInt8),(5:UInt8),(5:UInt8),(5:UInt8),(5:UInt8),(5:UInt8),(5:UInt8),(5:UInt8),(5:UInt8),(5:UInt8),(5:UInt8),(6:UInt8),(6:UInt8),(6:UInt8),(6:UInt8),(6:UInt8),(6:UInt8),(6:UInt8),(6:UInt8),(6:UInt8),(6:UInt8),(6:UInt8),(6:UInt8),(6:UInt8),(6:UInt8),(6:UInt8),(6:UInt8),(6:UInt8),(6:UInt8),(6:UInt8),(6:UInt8),(6:UInt8),(6:UInt8),(6:UInt8),(6:UInt8),(6:UInt8),(6:UInt8),(6:UInt8),(6:UInt8),(6:UInt8),(6:UInt8),(6:UInt8),(6:UInt8)].append [(7:UInt8),(7:UInt8),(7:UInt8),(7:UInt8),(7:UInt8),(7:UInt8),(7:UInt8),(7:UInt8),(7:UInt8),(7:UInt8),(7:UInt8),(7:UInt8),(7:UInt8),(7:UInt8),(7:UInt8),(7:UInt8),(7:UInt8),(7:UInt8),(7:UInt8),(7:UInt8),(7:UInt8),(7:UInt8),(7:UInt8),(7:UInt8),(7:UInt8),(7:UInt8),(7:UInt8),(7:UInt8),(7:UInt8),(7:UInt8),(7:UInt8),(7:UInt8),(7:UInt8),(7:UInt8),(7:UInt8),(7:UInt8),(7:UInt8),(7:UInt8),(7:UInt8),(7:UInt8),(7:UInt8),(7:UInt8),(7:UInt8),(7:UInt8),(7:UInt8),(7:UInt8),(7:UInt8),(7:UInt8),(7:UInt8),(7:UInt8),(7:UInt8),(7:UInt8),(7:UInt8),(7:UInt8),(7:UInt8),(7:UInt8),(7:UInt8),(7:UInt8),(7:UInt8),(7:UInt8),(7:UInt8),(7:UInt8),(7:UInt8),(7:UInt8)]).append ([(8:UInt8),(8:UInt8),(8:UInt8),(8:UInt8),(8:UInt8),(8:UInt8),(8:UInt8),(8:UInt8),(8:UInt8),(8:UInt8),(8:UInt8),(8:UInt8),(8:UInt8),(8:UInt8),(8:UInt8),(8:UInt8),(8:UInt8),(8:UInt8),(8:UInt8),(8:UInt8),(8:UInt8),(8:UInt8),(8:UInt8),(8:UInt8),(8:UInt8),(8:UInt8),(8:UInt8),(8:UInt8),(8:UInt8),(8:UInt8),(8:UInt8),(8:UInt8),(8:UInt8),(8:UInt8),(8:UInt8),(8:UInt8),(8:UInt8),(8:UInt8),(8:UInt8),(8:UInt8),(8:UInt8),(8:UInt8),(8:UInt8),(8:UInt8),(8:UInt8),(8:UInt8),(8:UInt8),(8:UInt8),(8:UInt8),(8:UInt8),(8:UInt8),(8:UInt8),(8:UInt8),(8:UInt8),(8:UInt8),(8:UInt8),(8:UInt8),(8:UInt8),(8:UInt8),(8:UInt8),(8:UInt8),(8:UInt8),(8:UInt8),(8:UInt8)].append [(8:UInt8),(8:UInt8),(8:UInt8),(8:UInt8),(8:UInt8),(8:UInt8),(8:UInt8),(8:UInt8),(8:UInt8),(8:UInt8),(8:UInt8),(8:UInt8),(8:UInt8),(8:UInt8),(8:UInt8),(8:UInt8),(8:UInt8),(8:UInt8),(8:UInt8),(8:UInt8),(8:UInt8),(8:UInt8),(8:UInt8),(8:UInt8),(8:UInt8),(8:UInt8),(8:UInt8),(8:UInt8),(8:UInt8),(8:UInt8),(8:UInt8),(8:UInt8),(8:UInt8),(8:UInt8),(8:UInt8),(8:UInt8),(8:UInt8),(8:UInt8),(8:UInt8),(8:UInt8),(8:UInt8),(8:UInt8),(8:UInt8),(8:UInt8),(8:UInt8),(8:UInt8),(8:UInt8),(8:UInt8),(8:UInt8),(8:UInt8),(8:UInt8),(8:UInt8),(8:UInt8),(8:UInt8),(8:UInt8),(8:UInt8),(8:UInt8),(8:UInt8),(8:UInt8),(8:UInt8),(8:UInt8),(8:UInt8),(8:UInt8),(8:UInt8)])).getD (u8.wrap ((↑n:Int).fdiv ((2:Int)^(8:Nat)))).toNat (0:UInt8)).toNat:Int))) false)] (SS.mk [] [] true w [])))
   (.need ((0:Int)<=u8.wrap (↑n:Int)/\u8.wrap (↑n:Int)<(↑(256:Nat):Int))
   (.leaf .ret [(.int .i64 (i64.wrap ((0:Int)+i64.wrap (↑((([(0:UInt8),(1:UInt8),(2:UInt8),(2:UInt8),(3:UInt8),(3:UInt8),(3:UInt8),(3:UInt8),(4:UInt8),(4:UInt8),(4:UInt8),(4:UInt8),(4:UInt8),(4:UInt8),(4:UInt8),(4:UInt8),(5:UInt8),(5:UInt8),(5:UInt8),(5:UInt8),(5:UInt8),(5:UInt8),(5:UInt8),(5:UInt8),(5:UInt8),(5:UInt8),(5:UInt8),(5:UInt8),(5:UInt8),(5:UInt8),(5:UInt8),(5:UInt8),(6:UInt8),(6:UInt8),(6:UInt8),(6:UInt8),(6:UInt8),(6:UInt8),(6:UInt8),(6:UInt8),(6:UInt8),(6:UInt8),(6:UInt8),(6:UInt8),(6:UInt8),(6:UInt8),(6:UInt8),(6:UInt8),(6:UInt8),(6:UInt8),(6:UInt8),(6:UInt8),(6:UInt8),(6:UInt8),(6:UInt8),(6:UInt8),(6:UInt8),(6:UInt8),(6:UInt8),(6:UInt8),(6:UInt8),(6:UInt8),(6:UInt8),(6:UInt8)].append [(7:UInt8),(7:UInt8),(7:UInt8),(7:UInt8),(7:UInt8),(7:UInt8),(7:UInt8),(7:UInt8),(7:UInt8),(7:UInt8),(7:UInt8),(7:UInt8),(7:UInt8),(7:UInt8),(7:UInt8),(7:UInt8),(7:UInt8),(7:UInt8),(7:UInt8),(7:UInt8),(7:UInt8),(7:UInt8),(7:UInt8),(7:UInt8),(7:UInt8),(7:UInt8),(7:UInt8),(7:UInt8),(7:UInt8),(7:UInt8),(7:UInt8),(7:UInt8),(7:UInt8),(7:UInt8),(7:UInt8),(7:UInt8),(7:UInt8),(7:UInt8),(7:UInt8),(7:UInt8),(7:UInt8),(7:UInt8),(7:UInt8),(7:UInt8),(7:UInt8),(7:UInt8),(7:UInt8),(7:UInt8),(7:UInt8),(7:UInt8),(7:UInt8),(7:UInt8),(7:UInt8),(7:UInt8),(7:UInt8),(7:UInt8),(7:UInt8),(7:UInt8),(7:UInt8),(7:UInt8),(7:UInt8),(7:UInt8),(7:UInt8),(7:UInt8)]).append ([(8:UInt8),(8:UInt8),(8:UInt8),(8:UInt8),(8:UInt8),(8:UInt8),(8:UInt8),(8:UInt8),(8:UInt8),(8:UInt8),(8:UInt8),(8:UInt8),(8:UInt8),(8:UInt8),(8:UInt8),(8:UInt8),(8:UInt8),(8:UInt8),(8:UInt8),(8:UInt8),(8:UInt8),(8:UInt8),(8:UInt8),(8:UInt8),(8:UInt8),(8:UInt8),(8:UInt8),(8:UInt8),(8:UInt8),(8:UInt8),(8:UInt8),(8:UInt8),(8:UInt8),(8:UInt8),(8:UInt8),(8:UInt8),(8:UInt8),(8:UInt8),(8:UInt8),(8:UInt8),(8:UInt8),(8:UInt8),(8:UInt8),(8:UInt8),(8:UInt8),(8:UInt8),(8:UInt8),(8:UInt8),(8:UInt8),(8:UInt8),(8:UInt8),(8:UInt8),(8:UInt8),(8:UInt8),(8:UInt8),(8:UInt8),(8:UInt8),(8:UInt8),(8:UInt8),(8:UInt8),(8:UInt8),(8:UInt8),(8:UInt8),(8:UInt8)].append [(8:UInt8),(8:UInt8),(8:UInt8),(8:UInt8),(8:UInt8),(8:UInt8),(8:UInt8),(8:UInt8),(8:UInt8),(8:UInt8),(8:UInt8),(8:UInt8),(8:UInt8),(8:UInt8),(8:UInt8),(8:UInt8),(8:UInt8),(8:UInt8),(8:UInt8),(8:UInt8),(8:UInt8),(8:UInt8),(8:UInt8),(8:UInt8),(8:UInt8),(8:UInt8),(8:UInt8),(8:UInt8),(8:UInt8),(8:UInt8),(8:UInt8),(8:UInt8),(8:UInt8),(8:UInt8),(8:UInt8),(8:UInt8),(8:UInt8),(8:UInt8),(8:UInt8),(8:UInt8),(8:UInt8),(8:UInt8),(8:UInt8),(8:UInt8),(8:UInt8),(8:UInt8),(8:UInt8),(8:UInt8),(8:UInt8),(8:UInt8),(8:UInt8),(8:UInt8),(8:UInt8),(8:UInt8),(8:UInt8),(8:UInt8),(8:UInt8),(8:UInt8),(8:UInt8),(8:UInt8),(8:UInt8),(8:UInt8),(8:UInt8),(8:UInt8)])).getD (u8.wrap (↑n:Int)).toNat (0:UInt8)).toNat:Int))) false)] (SS.mk [] [] true w [])))))):=by kernel_rfl
theorem Ma(n:Nat)(w:World):al Tryz.prog DB 200 89 [.int .u64 n false] (SS.at w) =
 (.hc 136 [(.int .u64 ((↑n:Int)) false)] (SS.mk [] [] true w []) (bD) fun x0 w0 b0=>
 (.split (decide ((↑x0:Int).tmod (7:Int) > (0:Int)))
  (.leaf .ret [(.int .i64 (i64.wrap (i64.wrap ((↑x0:Int).tdiv (7:Int))+(1:Int))) false)] (SS.mk [] [] true w0 b0))
  (.split (i64.wrap ((↑x0:Int).tdiv (7:Int)) == (0:Int))
  (.leaf .ret [(.int .i64 (i64.wrap (i64.wrap ((↑x0:Int).tdiv (7:Int))+(1:Int))) false)] (SS.mk [] [] true w0 b0))
  (.leaf .ret [(.int .i64 (i64.wrap ((↑x0:Int).tdiv (7:Int))) false)] (SS.mk [] [] true w0 b0))))):=by kernel_rfl
noncomputable abbrev BU(x0:(Hook.X (bD)))(n:Nat):List SV:=([(.slc 0 0 ((↑x0:Int).toNat) ((↑x0:Int).toNat) false false),(.int .u64 ((↑n:Int)) false),(.tup []),(.tup []),(.int .i64 0 true),(.int .i64 0 true)]++List.replicate 19 az)
theorem Mm(n:Nat)(w:World):al Tryz.prog F2 200 69 [.int .u64 n false] (SS.at w) =
(.hc 89 [(.int .u64 ((↑n:Int)) false)] (SS.mk [] [] true w []) (bD) fun x0 w0 b0=>(.need ((0:Int)<=(↑x0:Int)/\(↑x0:Int)<=(↑x0:Int)/\(↑(1:Nat):Int)*(↑x0:Int)<=(2:Int)^48/\(↑x0:Int)<(2:Int)^63) (.loop 90 (av Tryz.prog 90 3) (BU x0 n) (SS.mk [(.ints .u8 (List.replicate (↑x0:Int).toNat (0:Int)) 5 0 0)] [] true w0 b0) (LoopHook.X (mu)) (LoopHook.out (mu) (BU x0 n) (SS.mk [(.ints .u8 (List.replicate (↑x0:Int).toNat (0:Int)) 5 0 0)] [] true w0 b0)) (fun x1 w1 b1=>(.need ((0:Int)<=(↑x1.fst.i:Int)/\(↑x1.fst.i:Int)<(↑x1.fst.r:Int)) (.need (0+(↑x1.fst.i:Int).toNat*1<x1.fst.l.length) (.need (an 0 0 (0+(↑x1.fst.i:Int).toNat*1) 1=true) (.need ((0:Int)<=i64.wrap ((↑x1.fst.i:Int)+(1:Int))/\i64.wrap ((↑x1.fst.i:Int)+(1:Int))<=(↑(↑x0:Int).toNat:Int)) (.leaf .ret [(.slc 0 (if(↑x0:Int).toNat=0 then 0 else 0) ((i64.wrap ((↑x1.fst.i:Int)+(1:Int))).toNat-0) ((↑x0:Int).toNat-0) false false)] (SS.mk [(.ints .u8 (x1.fst.l.set (0+(↑x1.fst.i:Int).toNat*1) (u8.wrap (↑x1.fst.x:Int))) 5 0 0)] [] true w1 b1))))))) (LoopHook.Y (mu)) (LoopHook.out' (mu) (BU x0 n) (SS.mk [(.ints .u8 (List.replicate (↑x0:Int).toNat (0:Int)) 5 0 0)] [] true w0 b0)) (fun x1 w1 b1=>(.bad "slice: no integer"))))):=by kernel_rfl
theorem Ra(n:Nat)(w:World):(by have h:=Mm n w;unfold BU at h;exact type_of% h):=Mm n w
theorem LR(z:UX)(bs:List Nat)(w:World)(g:Nat->Value):aO Tryz.prog ar 200 90 (av Tryz.prog 90 3) (ay ((xv .normal).zip (yu z)) g 25 0) (fun e a s=>.leaf e (fG xv e a) s) (SS.mk (dZ z) [] true w bs) =
 (.split (decide ((↑z.x:Int) ≥ (128:Int)))
  (.need ((0:Int)<=(↑z.i:Int)/\(↑z.i:Int)<(↑z.r:Int))
  (.need ((0:Nat)+(↑z.i:Int).toNat*(1:Nat)<z.l.length)
  (.need (an (0:Nat) (0:Nat) ((0:Nat)+(↑z.i:Int).toNat*(1:Nat)) (1:Nat)=true)
  (.leaf .normal [(.slc 0 0 z.r z.r false false),(.int .u64 ((↑z.x:Int).fdiv ((2:Int)^(7:Nat))) false),(.int .i64 (i64.wrap ((↑z.i:Int)+(1:Int))) false)] (SS.mk [(.ints .u8 (z.l.set ((0:Nat)+(↑z.i:Int).toNat*(1:Nat)) (u8.wrap (↑(BitVec.ofInt (8:Nat) (u8.wrap (↑z.x:Int)) |||BitVec.ofInt (8:Nat) (128:Int)).toNat:Int))) 5 0 0)] [] true w bs)))))
  (.leaf (.exit 0) [(.slc 0 0 z.r z.r false false),(.int .u64 ((↑z.x:Int)) false),(.int .i64 ((↑z.i:Int)) false)] (SS.mk [(.ints .u8 z.l 5 0 0)] [] true w bs))):=by kernel_rfl
def yS(R:Nat->Prop)(v:Value)(_:World):Prop:=∃r:Nat,v=.int .i64 (r:Int)/\R r
theorem sO(a:Nat):(a:Int).fdiv ((2:Int)^(32:Nat))=((a/4294967296:Nat):Int):=(Int.ofNat_fdiv a 4294967296).symm
theorem sN(a:Nat):(a:Int).fdiv ((2:Int)^(16:Nat))=((a/65536:Nat):Int):=(Int.ofNat_fdiv a 65536).symm
theorem d8(a:Nat):(a:Int).fdiv ((2:Int)^(8:Nat))=((a/256:Nat):Int):=(Int.ofNat_fdiv a 256).symm
theorem d7(a:Nat):(a:Int).fdiv ((2:Int)^(7:Nat))=((a/128:Nat):Int):=(Int.ofNat_fdiv a 128).symm
theorem fL{m:Nat}(h:m<256):u8.wrap (m:Int)=m:=by
 simp[IntKind.wrap,IntKind.bits,IntKind.signed]
 omega
theorem mK(n:Int):0<=u8.wrap n/\u8.wrap n<256:=by
 have:u8.wrap n=n%256:=by
  simp[IntKind.wrap,IntKind.bits,IntKind.signed]
 omega
theorem jK{w:World}{s:SS}(hf:Fine w s){n c m:Nat}{C X:Int}{tab:List UInt8}(hC:C=c)(hX:X=m)(hm:m<256)(hn:n/2^c=m)(hc:c<=56)
  (htab:((List.range 256).all fun k=>decide (k<2^(tab.getD k 0).toNat/\(tab.getD k 0).toNat<=8))=true) :
  (T.need (0<=u8.wrap X/\u8.wrap X<((256:Nat):Int)) (.leaf .ret [.int .i64 (i64.wrap (C+i64.wrap ((tab.getD (u8.wrap X).toNat 0).toNat:Int))) false] s)).holds
   (c8 Tryz.prog (bH fun v w'=>yS (fun r=>n<2^r/\r<=64) v w'/\Below w.heap.size w w')):=by
 subst hC hX
 rw[fL hm]
 rw[List.all_eq_true]at htab
 have h1:=of_decide_eq_true (htab m (List.mem_range.2 hm))
 refine aa (by omega) (aQ hf fun β w' _ _=>⟨c+(tab.getD m 0).toNat,?_,?_,by omega⟩)
 ·show Value.int .i64 (i64.wrap (_+i64.wrap ((tab.getD m 0).toNat:Int)))=_
  rw[aq (n:=((tab.getD m 0).toNat:Int)) (by omega) (by omega),aq (by omega) (by omega)]
  simp
 ·rw[Nat.pow_add]
  have h2:n<2^c*(m+1):=by
   have:=Nat.lt_mul_div_succ n (show 0<2^c from Nat.pow_pos (by omega))
   rw[hn]at this
   exact this
  exact Nat.lt_of_lt_of_le h2 (Nat.mul_le_mul_left _ (by omega))
theorem F8(n:Nat)(w:World)(hn:n<2^64):Calls Tryz.prog 136 #[.int .u64 n] w (bB (yS fun r=>n<2^r/\r<=64) w):=by
 refine aF (hk:=ar) (n:=200) (args:=[.int .u64 n false]) ⟨trivial,trivial⟩ ?_
 rw[Mb]
 refine ae (fun h1=>?_) (fun h1=>?_) <;> simp only[decide_eq_true_eq,decide_eq_false_iff_not]at h1
 ·refine ae (fun h2=>?_) (fun h2=>?_) <;> simp only[decide_eq_true_eq,decide_eq_false_iff_not,sO]at h2
  ·refine ae (fun h3=>?_) (fun h3=>?_) <;> simp only[decide_eq_true_eq,decide_eq_false_iff_not,sO,sN]at h3
   ·exact jK (Fine.start _ _) (c:=56) (m:=n/4294967296/65536/256) (by decide) (by simp only[sO,sN,d8]) (by omega) (by omega) (by omega) (by decide +kernel)
   ·exact jK (Fine.start _ _) (c:=48) (m:=n/4294967296/65536) (by decide) (by simp only[sO,sN,d8]) (by omega) (by omega) (by omega) (by decide +kernel)
  ·refine ae (fun h3=>?_) (fun h3=>?_) <;> simp only[decide_eq_true_eq,decide_eq_false_iff_not,sO,sN]at h3
   ·exact jK (Fine.start _ _) (c:=40) (m:=n/4294967296/256) (by decide) (by simp only[sO,sN,d8]) (by omega) (by omega) (by omega) (by decide +kernel)
   ·exact jK (Fine.start _ _) (c:=32) (m:=n/4294967296) (by decide) (by simp only[sO,sN,d8]) (by omega) (by omega) (by omega) (by decide +kernel)
 ·refine ae (fun h2=>?_) (fun h2=>?_) <;> simp only[decide_eq_true_eq,decide_eq_false_iff_not]at h2
  ·refine ae (fun h3=>?_) (fun h3=>?_) <;> simp only[decide_eq_true_eq,decide_eq_false_iff_not,sN]at h3
   ·exact jK (Fine.start _ _) (c:=24) (m:=n/65536/256) (by decide) (by simp only[sO,sN,d8]) (by omega) (by omega) (by omega) (by decide +kernel)
   ·exact jK (Fine.start _ _) (c:=16) (m:=n/65536) (by decide) (by simp only[sO,sN,d8]) (by omega) (by omega) (by omega) (by decide +kernel)
  ·refine ae (fun h3=>?_) (fun h3=>?_) <;> simp only[decide_eq_true_eq,decide_eq_false_iff_not]at h3
   ·exact jK (Fine.start _ _) (c:=8) (m:=n/256) (by decide) (by simp only[sO,sN,d8]) (by omega) (by omega) (by omega) (by decide +kernel)
   ·exact jK (Fine.start _ _) (c:=0) (m:=n) (by decide) rfl (by omega) (by omega) (by omega) (by decide +kernel)
theorem mt{Q:SE->List Value->World->Prop}{s:SS}{w:World}{f:FuncId}{args:List SV}{a0:List SV}{s0:SS}{k:Nat->World->List Nat->T}(R:Nat->Prop)(hf:Fine w s)(hs0:s0.objs=s.objs)
  (hc:∀β w0,Below w.heap.size w w0->Calls Tryz.prog f (af β args).toArray w0 (bB (yS R) w0))
  (hk:∀r w' bs,R r->Below w.heap.size w w'->(∀b∈bs,w.heap.size<=b)->(k r w' bs).holds (c8 Tryz.prog Q)) :
  (T.call f args s (Hook.X bD) (Hook.out bD a0 s0) k).holds (c8 Tryz.prog Q):=by
 refine ff (Γ:=c8 Tryz.prog Q) (R:=fun x _ _=>R x) hf (fun x=>⟨hs0,trivial⟩) (fun β w0 hst ho hb=>?_) (fun x w0 w' bs _ hr _ hb hbs=>hk x w' bs hr hb hbs)
 refine(hc β w0 hb).mono ?_
 rintro e w' ⟨v,rfl,⟨b,rfl,hr⟩,hb'⟩
 exact⟨b,rfl,hb',hr⟩
theorem yw(n:Nat)(w:World)(hn:n<2^64):Calls Tryz.prog 89 #[.int .u64 n] w (bB (yS fun r=>n<128^r/\1<=r/\r<=10) w):=by
 refine aF (hk:=DB) (n:=200) (args:=[.int .u64 n false]) ⟨trivial,trivial⟩ ?_
 rw[Ma]
 refine mt (fun r=>n<2^r/\r<=64) (Fine.start _ _) rfl (fun β w0 _=>F8 n w0 hn) ?_
 rintro x w1 bs ⟨hx,hx6⟩ hb hbs
 have hp:∀r,x<=7*r->n<128^r:=fun r hr=>by
  have:(128:Nat)^r=2^(7*r):=by rw[Nat.pow_mul]
  rw[this]
  exact Nat.lt_of_lt_of_le hx (Nat.pow_le_pow_right (by omega) hr)
 have e1:((x:Int).tmod 7)=((x%7:Nat):Int):=rfl
 have e2:((x:Int).tdiv 7)=((x/7:Nat):Int):=rfl
 rw[e1,e2,aq (n:=((x/7:Nat):Int)) (by omega) (by omega),aq (n:=((x/7:Nat):Int)+1) (by omega) (by omega)]
 refine ae (fun h1=>?_) (fun h1=>ae (fun h2=>?_) (fun h2=>?_))
 ·exact aQ (Fine.mk' hb hbs) fun β w' _ _=>⟨x/7+1,rfl,hp _ (by omega),by omega,by omega⟩
 ·exact aQ (Fine.mk' hb hbs) fun β w' _ _=>⟨x/7+1,rfl,hp _ (by omega),by omega,by omega⟩
 ·simp at h1 h2
  exact aQ (Fine.mk' hb hbs) fun β w' _ _=>⟨x/7,rfl,hp _ (by omega),by omega,by omega⟩
def uv(n:Nat):List UInt8:=if h:n<128 then[UInt8.ofNat n] else UInt8.ofNat (n%128+128) :: uv (n/128)
termination_by n
decreasing_by omega
theorem bO{n:Nat}(h:n<128):uv n=[UInt8.ofNat n]:=by rw[uv,dif_pos h]
theorem cx{n:Nat}(h:¬n<128):uv n=UInt8.ofNat (n%128+128) :: uv (n/128):=by rw[uv,dif_neg h]
theorem G8:∀m:Fin 256,u8.wrap (((BitVec.ofInt 8 ((m.val:Nat):Int) |||BitVec.ofInt 8 (128:Int)).toNat:Nat):Int)=((m.val%128+128:Nat):Int):=by decide +kernel
theorem rE(x:Nat):u8.wrap (x:Int)=((x%256:Nat):Int):=by
 simp[IntKind.wrap,IntKind.bits,IntKind.signed]
theorem eW(l:List Int)(i:Nat)(v:Int)(h:i<l.length):(l.set i v).take (i+1)=l.take i++[v]:=by
 rw[List.take_add_one,List.getElem?_set_self h,List.take_set_of_le (Nat.le_refl _)]
 rfl
theorem iP:∀(k n:Nat),n<128^(k+1)->(uv n).length<=k+1
 |0,n,h=>by rw[bO (by simpa using h)];simp
 |k+1,n,h=>by
  by_cases h1:n<128
  ·rw[bO h1];simp
  ·rw[cx h1,List.length_cons]
   have:=iP k (n/128) (Nat.div_lt_of_lt_mul (by rw[Nat.pow_succ,Nat.mul_comm]at h;exact h))
   omega
theorem C0(n:Nat)(w:World)(hn:n<2^64):Calls Tryz.prog 69 #[.int .u64 n] w (bB (fun v w'=>∃A k c,v=.slice A k c/\k<=c/\Bts w' w'.heap.size A k (uv n)/\Fresh w A) w):=by
 refine aF (hk:=F2) (n:=200) (args:=[.int .u64 n false]) ⟨trivial,trivial⟩ ?_
 rw[Ra]
 refine mt (fun r=>n<128^r/\1<=r/\r<=10) (Fine.start _ _) rfl (fun β w0 _=>yw n w0 hn) ?_
 rintro r w1 bs ⟨hr1,hr2,hr3⟩ hb hbs
 refine aa ⟨by omega,by omega,by omega,by omega⟩ ?_
 refine jg (w:=w) (Fine.mk' hb hbs) rfl 1 rfl xv yu dZ (fun z=>z.r-z.i) (fun _ z _=>z.r=r/\z.l.length=r/\z.i<r/\z.x<128^(r-z.i)/\(∀v∈z.l,0<=v/\v<256)/\((z.l.take z.i).map fun v=>UInt8.ofNat v.toNat)++uv z.x=uv n)
  (fun _ z _=>z.r=r/\z.l.length=r/\z.i<r/\z.x<128/\(∀v∈z.l,0<=v/\v<256)/\((z.l.take z.i).map fun v=>UInt8.ofNat v.toNat)++uv z.x=uv n) (fun _ _ _=>False) (fun _=>ar) 200 (by simp) (by simp[xv]) (by simp[xv]) (fun _=>⟨by simp[SV.ok],trivial,trivial,trivial⟩) (fun _=>⟨rfl,by simp[dZ,SObj.ok]⟩)
  rfl rfl (by simp) (by simp) (fun _=>⟨⟨by simp[SV.ok],trivial,trivial,trivial⟩,rfl,by simp[dZ,SObj.ok]⟩) (fun _=>⟨trivial,rfl,by simp[dZ,SObj.ok]⟩) ?_ ?_ ?_ ?_
 ·rintro β w0 z w2 g hb0 ⟨rfl,hl,hi,hx,hv,hu⟩ hk hge
  refine ah (LR z (ac β 1) w2 g) ?_
  have hkf:KFine (ac β 1) w0 (SS.mk (dZ z) [] true w2 (ac β 1)):=⟨rfl,hk,fun b hb=>.inl hb⟩
  refine ae (fun h128=>?_) (fun h128=>?_)
  ·simp only[decide_eq_true_eq]at h128
   have h1:z.i+1<z.r:=by
    rcases Nat.lt_or_ge (z.i+1) z.r with h |h
    ·exact h
    ·have:z.r-z.i=1:=by omega
     rw[this]at hx
     omega
   refine aa ⟨by omega,by omega⟩ (aa (by simp;omega) (aa (by simp[an]) ?_))
   refine aJ ⟨rfl,hk,fun b hb=>.inl hb⟩ fun β' w' hst hk'=>?_
   refine⟨⟨z.x/128,z.i+1,z.r,_⟩,?_,?_,hst.objsAt rfl (by simp[dZ,SObj.ok]),⟨rfl,by simp[hl],h1,?_,?_,?_⟩,hk'⟩
   ·show z.r-(z.i+1)<z.r-z.i
    omega
   ·rw[d7,aq (by omega) (by omega)]
    have:=hst.base 0 (by show 0<1;omega)
    simp only[yu,af,SV.den]
    rw[this]
    rfl
   ·have h2:z.r-z.i=(z.r-(z.i+1))+1:=by omega
    rw[h2,Nat.pow_succ]at hx
    exact Nat.div_lt_of_lt_mul (by rw[Nat.mul_comm];exact hx)
   ·intro v hv'
    rcases List.mem_or_eq_of_mem_set hv' with h |h
    ·exact hv v h
    ·rw[h];exact mK _
   ·have e1:(0:Nat)+(z.i:Int).toNat*1=z.i:=by simp
    have e2:=G8 ⟨z.x%256,Nat.mod_lt _ (by omega)⟩
    dsimp only at e2 ⊢
    rw[e1,rE z.x,e2,eW _ _ _ (by omega),List.map_append,List.append_assoc,<- hu]
    congr 1
    rw[cx (n:=z.x) (by omega)]
    simp only[List.map_cons,List.map_nil,List.cons_append,List.nil_append,Int.toNat_natCast]
    rw[show z.x%256%128=z.x%128 by omega]
  ·simp only[decide_eq_false_iff_not]at h128
   refine aJ ⟨rfl,hk,fun b hb=>.inl hb⟩ fun β' w' hst hk'=>⟨.inl ⟨z,rfl,?_,hst.objsAt rfl (by simp[dZ,SObj.ok]),rfl,hl,hi,by omega,hv,hu⟩,hk'⟩
   have:=hst.base 0 (by show 0<1;omega)
   simp only[yu,af,SV.den]
   rw[this]
 ·intro β w0 hst hb0
  refine⟨⟨n,0,r,List.replicate r 0⟩,rfl,?_,rfl,by simp,by show 0<r;omega,by simpa using hr1,by simp,by simp⟩
  intro i o hi
  exact hst.at_ i o (by simpa [dZ] using hi)
 ·rintro w0 z w' ⟨rfl,hl,hi,hx,hv,hu⟩ hb0 hb1 g bs' hbs'
  dsimp only
  refine aa ⟨by omega,by omega⟩ (aa (by simp;omega) (aa (by simp[an]) (aa (by show(0:Int)<=i64.wrap ((z.i:Int)+1)/\_;rw[aq (by omega) (by omega)];omega) ?_)))
  refine aQ (Fine.mk' hb1 hbs') fun β w2 hst hb2=>?_
  have h0:=hst.at_ 0 _ rfl
  have hlt:=hst.lt 0 (by simp[SS.n])
  have e1:(i64.wrap ((z.i:Int)+1)).toNat-0=z.i+1:=by rw[aq (by omega) (by omega)];omega
  have hbt:=da (k:=z.i+1) h0 ?_ (by simp;omega) hlt
  ·have e2:(0:Nat)+(z.i:Int).toNat*1=z.i:=by simp
   rw[e2,eW _ _ _ (by omega),List.map_append,rE]at hbt
   have e3:((z.l.take z.i).map fun v=>UInt8.ofNat v.toNat)++[((z.x%256:Nat):Int)].map (fun v=>UInt8.ofNat v.toNat)=uv n:=by
    rw[<- hu,bO hx]
    simp only[List.map_cons,List.map_nil,Int.toNat_natCast]
    rw[Nat.mod_eq_of_lt (show z.x<256 by omega)]
   rw[e3]at hbt
   refine⟨some ⟨β 0,0,none⟩,z.i+1,z.r,?_,by omega,hbt,fun a ha=>?_⟩
   ·rw[e1]
    simp[SV.den]
   ·cases ha
    exact(Fine.mk' hb1 hbs').new (hst.old rfl) 0 (by simp[SS.n])
  ·intro v hv'
   rcases List.mem_or_eq_of_mem_set hv' with h |h
   ·exact hv v h
   ·rw[h];exact mK _
 ·rintro w0 z w' h
  exact h.elim
end
section
open Go Go.Rx Go.RowKit
def Lr:SE->List Nat
 | .normal=>[8,9,10]
 | .ret=>[2]
 |_=>[]
def K8:LoopHook:=cl 18 Unit .ret [2] (fun _=>[.bool false true]) Unit (.exit 0) [] (fun _=>[])
def qR:Hooks:={ calls:=fun _=>none,loops:=fun f k=>if f=21/\k=5 then some K8 else none }
noncomputable abbrev BR(A:Option Addr)(n c:Nat):List SV:=([(.xs A n c),(.tup []),(.bool false true),(.tup []),(.tup []),(.xs A n c),(.int .i64 ((↑n:Int)) false),(.bool false true),(.xs A n c),(.int .i64 ((↑n:Int)) false),(.int .i64 0 true)]++List.replicate 7 az)
theorem Pl(A:Option Addr)(n c:Nat)(w:World):al Tryz.prog qR 1000 21 [.xs A n c] (SS.at w) =
(.split (decide ((↑n:Int) > (2147483647:Int))) (.leaf .ret [(.bool false true)] (SS.mk [] [] true w [])) (.loop 21 (av Tryz.prog 21 5) (BR A n c) (SS.mk [] [] true w []) (LoopHook.X (K8)) (LoopHook.out (K8) (BR A n c) (SS.mk [] [] true w [])) (fun x0 w0 b0=>(.leaf .ret [(.bool false true)] (SS.mk [] [] true w0 b0))) (LoopHook.Y (K8)) (LoopHook.out' (K8) (BR A n c) (SS.mk [] [] true w [])) (fun x0 w0 b0=>(.leaf .ret [(.bool true true)] (SS.mk [] [] true w0 b0))))):=by kernel_rfl
theorem t5(A:Option Addr)(n c:Nat)(w:World):(by have h:=Pl A n c w;unfold BR at h;exact type_of% h):=Pl A n c w
noncomputable abbrev yI(w:World)(A:Option Addr)(i:Nat):SObj:=(.cells [(.int .i64 (aj w (((A.getD default).add ((↑i:Int).toNat*2)).add 0)) false),(.xs (sA w (((A.getD default).add ((↑i:Int).toNat*2)).add 1)) (pt w (((A.getD default).add ((↑i:Int).toNat*2)).add 1)) (xo w (((A.getD default).add ((↑i:Int).toNat*2)).add 1)))] 2 31 0 0)
theorem Pi(A:Option Addr)(n c i:Nat)(w:World)(g:Nat->Value):aO Tryz.prog ar 1000 21 (av Tryz.prog 21 5) (ay ((Lr .normal).zip [.xs A n c,.int .i64 n false,.int .i64 i false]) g 18 0) (fun e a s=>.leaf e (fG Lr e a) s) (SS.at w) =
(.split (decide ((↑i:Int)<(↑n:Int))) (.need ((0:Int)<=(↑i:Int)/\(↑i:Int)<(↑n:Int)) (.need (A.isSome=true) (.need (canRead w [] ((A.getD default).add ((↑i:Int).toNat*2)) [SV.int i64 (aj w (((A.getD default).add ((↑i:Int).toNat*2)).add 0)) false,SV.xs (sA w (((A.getD default).add ((↑i:Int).toNat*2)).add 1)) (pt w (((A.getD default).add ((↑i:Int).toNat*2)).add 1)) (xo w (((A.getD default).add ((↑i:Int).toNat*2)).add 1))]) (.split (decide ((↑(pt w (((A.getD default).add ((↑i:Int).toNat*2)).add 1)):Int) > (2147483647:Int))) (.leaf .ret [(.bool false true)] (SS.mk [(yI w A i),(yI w A i)] [] true w [])) (.leaf .normal [(.xs A n c),(.int .i64 ((↑n:Int)) false),(.int .i64 (i64.wrap ((↑i:Int)+(1:Int))) false)] (SS.mk [(yI w A i),(yI w A i)] [] true w [])))))) (.leaf (.exit 0) [] (SS.mk [] [] true w []))):=by kernel_rfl
theorem r5(A:Option Addr)(n c i:Nat)(w:World)(g:Nat->Value):(by have h:=Pi A n c i w g;unfold yI at h;exact type_of% h):=Pi A n c i w g
end
section
open Go Go.Rx Go.RowKit
structure PX where
 name:ByteArray
 cd:Int
 size:Int
 path:Bool
 ok:Bool
def bi:Hook:={ X:=PX,out:=fun _ s x=>(.tup [.agg [.str x.name false,.int .i64 x.cd false,.int .i64 x.size false,.bool x.path false,.one (.slice none 0 0) rfl],.bool x.ok false],s.objs) }
def Kz:Hooks:={ calls:=fun f=>if f=14 then some bi else if f=37∨f=38 then some bx else none,loops:=fun f k=>none }
noncomputable abbrev bJ(code:Int)(w:World)(k0_:ByteArray)(k1_:Int):T:=(.leaf .ret [(.tup [(.agg [(.str k0_ true),(.int .i64 code false),(.int .i64 k1_ true),(.bool (code == (400:Int)) false),(.one (.slice none 0 0) rfl)]),(.bool true true)])] (SS.mk [(.cells [(.str k0_ true),(.int .i64 code false),(.int .i64 k1_ true),(.bool (code == (400:Int)) false),(.one (.slice none 0 0) rfl)] 5 34 0 0)] [] true w []))
noncomputable abbrev FD:List SV:=[(.str (ByteArray.mk #[]) true),(.int .i64 0 true),(.int .i64 0 true),(.bool false true),(.one (.slice none 0 0) rfl)]
theorem Me(code:Int)(w:World):al Tryz.prog ar 1000 14 [.int .i64 code false] (SS.at w) =
(.split (code == (4:Int)) (bJ code w (ByteArray.mk #[105,112,52]) 32) (.split (code == (6:Int)) (bJ code w (ByteArray.mk #[116,99,112]) 16) (.split (code == (33:Int)) (bJ code w (ByteArray.mk #[100,99,99,112]) 16) (.split (code == (41:Int)) (bJ code w (ByteArray.mk #[105,112,54]) 128) (.split (code == (42:Int)) (bJ code w (ByteArray.mk #[105,112,54,122,111,110,101]) (-1)) (.split (code == (43:Int)) (bJ code w (ByteArray.mk #[105,112,99,105,100,114]) 8) (.split (code == (53:Int)) (bJ code w (ByteArray.mk #[100,110,115]) (-1)) (.split (code == (54:Int)) (bJ code w (ByteArray.mk #[100,110,115,52]) (-1)) (.split (code == (55:Int)) (bJ code w (ByteArray.mk #[100,110,115,54]) (-1)) (.split (code == (56:Int)) (bJ code w (ByteArray.mk #[100,110,115,97,100,100,114]) (-1)) (.split (code == (132:Int)) (bJ code w (ByteArray.mk #[115,99,116,112]) 16) (.split (code == (273:Int)) (bJ code w (ByteArray.mk #[117,100,112]) 16) (.split (code == (276:Int)) (bJ code w (ByteArray.mk #[112,50,112,45,119,101,98,114,116,99,45,100,105,114,101,99,116]) 0) (.split (code == (280:Int)) (bJ code w (ByteArray.mk #[119,101,98,114,116,99,45,100,105,114,101,99,116]) 0) (.split (code == (281:Int)) (bJ code w (ByteArray.mk #[119,101,98,114,116,99]) 0) (.split (code == (290:Int)) (bJ code w (ByteArray.mk #[112,50,112,45,99,105,114,99,117,105,116]) 0) (.split (code == (301:Int)) (bJ code w (ByteArray.mk #[117,100,116]) 0) (.split (code == (302:Int)) (bJ code w (ByteArray.mk #[117,116,112]) 0) (.split (code == (400:Int)) (bJ code w (ByteArray.mk #[117,110,105,120]) (-1)) (.split (code == (421:Int)) (bJ code w (ByteArray.mk #[112,50,112]) (-1)) (.split (code == (443:Int)) (bJ code w (ByteArray.mk #[104,116,116,112,115]) 0) (.split (code == (444:Int)) (bJ code w (ByteArray.mk #[111,110,105,111,110]) 96) (.split (code == (445:Int)) (bJ code w (ByteArray.mk #[111,110,105,111,110,51]) 296) (.split (code == (446:Int)) (bJ code w (ByteArray.mk #[103,97,114,108,105,99,54,52]) (-1)) (.split (code == (447:Int)) (bJ code w (ByteArray.mk #[103,97,114,108,105,99,51,50]) (-1)) (.split (code == (448:Int)) (bJ code w (ByteArray.mk #[116,108,115]) 0) (.split (code == (449:Int)) (bJ code w (ByteArray.mk #[115,110,105]) (-1)) (.split (code == (454:Int)) (bJ code w (ByteArray.mk #[110,111,105,115,101]) 0) (.split (code == (460:Int)) (bJ code w (ByteArray.mk #[113,117,105,99]) 0) (.split (code == (461:Int)) (bJ code w (ByteArray.mk #[113,117,105,99,45,118,49]) 0) (.split (code == (465:Int)) (bJ code w (ByteArray.mk #[119,101,98,116,114,97,110,115,112,111,114,116]) 0) (.split (code == (466:Int)) (bJ code w (ByteArray.mk #[99,101,114,116,104,97,115,104]) (-1)) (.split (code == (477:Int)) (bJ code w (ByteArray.mk #[119,115]) 0) (.split (code == (478:Int)) (bJ code w (ByteArray.mk #[119,115,115]) 0) (.split (code == (480:Int)) (bJ code w (ByteArray.mk #[104,116,116,112]) 0) (.split (code == (481:Int)) (bJ code w (ByteArray.mk #[104,116,116,112,45,112,97,116,104]) (-1)) (.split (code == (777:Int)) (bJ code w (ByteArray.mk #[109,101,109,111,114,121]) 64) (.split (code == (7367777:Int)) (bJ code w (ByteArray.mk #[112,108,97,105,110,116,101,120,116,118,50]) 0) (.leaf .ret [(.tup [(.agg FD),(.bool false true)])] (SS.mk [(.cells FD 5 34 0 0)] [] true w [])))))))))))))))))))))))))))))))))))))))):=by kernel_rfl
theorem Q3(code:Int)(w:World):(by have h:=Me code w;unfold FD bJ at h;exact type_of% h):=Me code w
noncomputable abbrev k8(code:Int)(A:Option Addr)(n c:Nat)(x0:(Hook.X (bi)))(w0:World)(b0:List Nat):SS:=(SS.mk [(.cells [(.int .i64 code false),(.xs A n c)] 2 31 0 0),(.cells [(.str x0.name false),(.int .i64 x0.cd false),(.int .i64 x0.size false),(.bool x0.path false),(.one (.slice none 0 0) rfl)] 5 34 0 0)] [] true w0 b0)
noncomputable abbrev tC(w0:World)(b0:List Nat)(A:Option Addr)(n:Nat)(code:Int)(c:Nat)(x0:(Hook.X (bi)))(k0_:Nat):T:=(.need (canBytes w0 b0 A n) (.call k0_ [(.str (bytesAt w0 A n) false)] (k8 code A n c x0 w0 b0) (Hook.X (bx)) (Hook.out (bx) [(.str (bytesAt w0 A n) false)] (k8 code A n c x0 w0 b0)) fun x1 w1 b1=>(.leaf .ret [(.bool x1 false)] (k8 code A n c x0 w1 b1))))
theorem Md(code:Int)(A:Option Addr)(n c:Nat)(w:World):al Tryz.prog Kz 1000 13 [.agg [.int .i64 code false,.xs A n c]] (SS.at w) =
(.hc 14 [(.int .i64 code false)] (SS.mk [(.cells [(.int .i64 code false),(.xs A n c)] 2 31 0 0)] [] true w []) (bi) fun x0 w0 b0=>(.split (!x0.ok) (.leaf .ret [(.bool false true)] (k8 code A n c x0 w0 b0)) (.split (decide (x0.size ≥ (0:Int))) (.split ((↑n:Int) == i64.wrap (x0.size.tdiv (8:Int))) (.split (code != (444:Int)) (.leaf .ret [(.bool (code != (445:Int)) false)] (k8 code A n c x0 w0 b0)) (.leaf .ret [(.bool false true)] (k8 code A n c x0 w0 b0))) (.leaf .ret [(.bool false true)] (k8 code A n c x0 w0 b0))) (.split (code == (400:Int)) (tC w0 b0 A n code c x0 37) (.split (code == (42:Int)) (tC w0 b0 A n code c x0 38) (.split (decide (code ≥ (53:Int))) (.split (decide (code<=(56:Int))) (tC w0 b0 A n code c x0 38) (.split (code == (449:Int)) (tC w0 b0 A n code c x0 38) (.leaf .ret [(.bool false true)] (k8 code A n c x0 w0 b0)))) (.split (code == (449:Int)) (tC w0 b0 A n code c x0 38) (.leaf .ret [(.bool false true)] (k8 code A n c x0 w0 b0))))))))):=by kernel_rfl
theorem Q0(code:Int)(A:Option Addr)(n c:Nat)(w:World):(by have h:=Md code A n c w;unfold tC k8 at h;exact type_of% h):=Md code A n c w
def Kd:SE->List Nat
 | .normal=>[0]
 | .ret=>[2]
 |_=>[]
def C9(s:ByteArray):SE->List Nat
 | .normal=>[0,3]
 | .ret=>[]
 |_=>[0,3]
def D1:LoopHook:=cl 32 Bool .ret [2] (fun b=>[.bool b false]) Unit (.exit 0) [] (fun _=>[])
def xM(s:ByteArray):LoopHook:=cl 32 Nat (.exit 2) [0,3] (fun n=>[.str s false,.int .i64 n false]) Unit .ret [] (fun _=>[])
def KA:Hooks:={ calls:=fun f=>none,loops:=fun f k=>if k=2 then some D1 else none }
def GS(s:ByteArray):Hooks:={ calls:=fun f=>if f=38 then some bx else none,loops:=fun f k=>some (xM s) }
noncomputable abbrev BT(s:ByteArray):List SV:=([(.str s false),(.tup []),(.bool false true)]++List.replicate 29 az)
theorem Mf(s:ByteArray)(w:World):al Tryz.prog KA 1000 37 [.str s false] (SS.at w) =
(.loop 37 (av Tryz.prog 37 2) (BT s) (SS.mk [] [] true w []) (LoopHook.X (D1)) (LoopHook.out (D1) (BT s) (SS.mk [] [] true w [])) (fun x0 w0 b0=>(.leaf .ret [(.bool x0.fst false)] (SS.mk [] [] true w0 b0))) (LoopHook.Y (D1)) (LoopHook.out' (D1) (BT s) (SS.mk [] [] true w [])) (fun x0 w0 b0=>(.leaf .ret [(.bool false true)] (SS.mk [] [] true w0 b0)))):=by kernel_rfl
theorem Q4(s:ByteArray)(w:World):(by have h:=Mf s w;unfold BT at h;exact type_of% h):=Mf s w
noncomputable abbrev BS(s:ByteArray)(g:Nat->Value):List SV:=[(.str s false),(.raw (g 1)),(.raw (g 2)),(.int .i64 1 true),(.str s false),(.int .i64 ((↑s.size:Int)) false),(.bool true true),(.str s false),(.int .u8 ((↑(s.data.toList.getD 0 (0:UInt8)).toNat:Int)) false),(.bool false true),(.raw (g 10)),(.raw (g 11)),(.raw (g 12)),(.raw (g 13)),(.raw (g 14)),(.raw (g 15)),(.raw (g 16)),(.raw (g 17)),(.raw (g 18)),(.raw (g 19)),(.raw (g 20)),(.raw (g 21)),(.raw (g 22)),(.raw (g 23)),(.raw (g 24)),(.raw (g 25)),(.raw (g 26)),(.raw (g 27)),(.raw (g 28)),(.raw (g 29)),(.raw (g 30)),(.raw (g 31))]
theorem LU(s:ByteArray)(w:World)(g:Nat->Value):aO Tryz.prog (GS s) 1000 37 (av Tryz.prog 37 2) (ay ((Kd .normal).zip [.str s false]) g 32 0) (fun e a s=>.leaf e (fG Kd e a) s) (SS.at w) =
(.split (decide ((↑s.size:Int) > (0:Int))) (.need ((0:Int)<=(0:Int)/\(0:Int)<(↑s.size:Int)) (.split ((↑(s.data.toList.getD 0 (0:UInt8)).toNat:Int) != (47:Int)) (.leaf .ret [(.bool false true)] (SS.mk [] [] true w [])) (.loop 37 (av Tryz.prog 37 6) (BS s g) (SS.mk [] [] true w []) (LoopHook.X (xM s)) (LoopHook.out (xM s) (BS s g) (SS.mk [] [] true w [])) (fun x0 w0 b0=>(.need ((0:Int)<=(↑x0.fst:Int)/\(↑x0.fst:Int)<=(↑s.size:Int)) (.need ((0:Int)<=(1:Int)/\(1:Int)<=(↑(↑x0.fst:Int).toNat:Int)) (.hc 38 [(.str (s.extract 1 (↑x0.fst:Int).toNat) false)] (SS.mk [] [] true w0 b0) (bx) fun x1 w1 b1=>(.split (!x1) (.leaf .ret [(.bool false true)] (SS.mk [] [] true w1 b1)) (.need ((0:Int)<=(↑x0.fst:Int)/\(↑x0.fst:Int)<=(↑s.size:Int)) (.split ((s.extract (↑x0.fst:Int).toNat s.size).toList == (ByteArray.mk #[]).toList) (.leaf .ret [(.bool true true)] (SS.mk [] [] true w1 b1)) (.leaf .normal [(.str (s.extract (↑x0.fst:Int).toNat s.size) false)] (SS.mk [] [] true w1 b1))))))))) (LoopHook.Y (xM s)) (LoopHook.out' (xM s) (BS s g) (SS.mk [] [] true w [])) (fun x0 w0 b0=>(.leaf .ret [(.raw (x0.snd 2))] (SS.mk [] [] true w0 b0)))))) (.leaf (.exit 0) [] (SS.mk [] [] true w []))):=by kernel_rfl
theorem QO(s:ByteArray)(w:World)(g:Nat->Value):(by have h:=LU s w g;unfold BS at h;exact type_of% h):=LU s w g
theorem N9(s:ByteArray)(n:Nat)(w:World)(g:Nat->Value):aO Tryz.prog ar 1000 37 (av Tryz.prog 37 6) (ay ((C9 s .normal).zip [.str s false,.int .i64 n false]) g 32 0) (fun e a t=>.leaf e (fG (C9 s) e a) t) (SS.at w) =
 (.split (decide ((↑n:Int)<(↑s.size:Int)))
  (.need ((0:Int)<=(↑n:Int)/\(↑n:Int)<(↑s.size:Int))
  (.split ((↑(s.data.toList.getD (↑n:Int).toNat (0:UInt8)).toNat:Int) != (47:Int))
  (.leaf .normal [(.str s false),(.int .i64 (i64.wrap ((↑n:Int)+(1:Int))) false)] (SS.mk [] [] true w []))
  (.leaf (.exit 2) [(.str s false),(.int .i64 ((↑n:Int)) false)] (SS.mk [] [] true w []))))
  (.leaf (.exit 2) [(.str s false),(.int .i64 ((↑n:Int)) false)] (SS.mk [] [] true w []))):=by kernel_rfl
def bc:List Int:=[4,6,33,41,42,43,53,54,55,56,132,273,276,280,281,290,301,302,400,421,443,444,445,446,447,448,449,454,460,461,465,466,477,478,480,481,777,7367777]
end
section
open Go Go.Rx Go.RowKit
structure PS where
 name:List UInt8
 vc:List UInt8
 size:Int
 path:Bool
 tr:Value
instance:Inhabited PS:=⟨⟨[],[],0,false,.nilIface⟩⟩
def dq(a b:FuncId)(c:Value):Value:=.iface 147 (.agg #[.func (.func a) #[] #[],.func (.func b) #[] #[],c])
def LH:List (Nat×PS):=[
 (4,⟨[105,112,52],[4],32,false,dq 163 164 .nilFunc⟩),
 (6,⟨[116,99,112],[6],16,false,dq 165 166 .nilFunc⟩),
 (33,⟨[100,99,99,112],[33],16,false,dq 165 166 .nilFunc⟩),
 (41,⟨[105,112,54],[41],128,false,dq 170 171 .nilFunc⟩),
 (42,⟨[105,112,54,122,111,110,101],[42],-1,false,dq 172 173 (.func (.func 174) #[] #[])⟩),
 (43,⟨[105,112,99,105,100,114],[43],8,false,dq 175 176 (.func (.func 177) #[] #[])⟩),
 (53,⟨[100,110,115],[53],-1,false,dq 167 168 (.func (.func 169) #[] #[])⟩),
 (54,⟨[100,110,115,52],[54],-1,false,dq 167 168 (.func (.func 169) #[] #[])⟩),
 (55,⟨[100,110,115,54],[55],-1,false,dq 167 168 (.func (.func 169) #[] #[])⟩),
 (56,⟨[100,110,115,97,100,100,114],[56],-1,false,dq 167 168 (.func (.func 169) #[] #[])⟩),
 (132,⟨[115,99,116,112],[132,1],16,false,dq 165 166 .nilFunc⟩),
 (273,⟨[117,100,112],[145,2],16,false,dq 165 166 .nilFunc⟩),
 (276,⟨[112,50,112,45,119,101,98,114,116,99,45,100,105,114,101,99,116],[148,2],0,false,.nilIface⟩),
 (280,⟨[119,101,98,114,116,99,45,100,105,114,101,99,116],[152,2],0,false,.nilIface⟩),
 (281,⟨[119,101,98,114,116,99],[153,2],0,false,.nilIface⟩),
 (290,⟨[112,50,112,45,99,105,114,99,117,105,116],[162,2],0,false,.nilIface⟩),
 (301,⟨[117,100,116],[173,2],0,false,.nilIface⟩),
 (302,⟨[117,116,112],[174,2],0,false,.nilIface⟩),
 (400,⟨[117,110,105,120],[144,3],-1,true,dq 199 200 (.func (.func 201) #[] #[])⟩),
 (421,⟨[112,50,112],[165,3],-1,false,dq 196 197 (.func (.func 198) #[] #[])⟩),
 (443,⟨[104,116,116,112,115],[187,3],0,false,.nilIface⟩),
 (444,⟨[111,110,105,111,110],[188,3],96,false,dq 178 179 (.func (.func 180) #[] #[])⟩),
 (445,⟨[111,110,105,111,110,51],[189,3],296,false,dq 181 182 (.func (.func 183) #[] #[])⟩),
 (446,⟨[103,97,114,108,105,99,54,52],[190,3],-1,false,dq 184 185 (.func (.func 186) #[] #[])⟩),
 (447,⟨[103,97,114,108,105,99,51,50],[191,3],-1,false,dq 187 188 (.func (.func 189) #[] #[])⟩),
 (448,⟨[116,108,115],[192,3],0,false,.nilIface⟩),
 (449,⟨[115,110,105],[193,3],-1,false,dq 167 168 (.func (.func 169) #[] #[])⟩),
 (454,⟨[110,111,105,115,101],[198,3],0,false,.nilIface⟩),
 (460,⟨[113,117,105,99],[204,3],0,false,.nilIface⟩),
 (461,⟨[113,117,105,99,45,118,49],[205,3],0,false,.nilIface⟩),
 (465,⟨[119,101,98,116,114,97,110,115,112,111,114,116],[209,3],0,false,.nilIface⟩),
 (466,⟨[99,101,114,116,104,97,115,104],[210,3],-1,false,dq 190 191 (.func (.func 192) #[] #[])⟩),
 (477,⟨[119,115],[221,3],0,false,.nilIface⟩),
 (478,⟨[119,115,115],[222,3],0,false,.nilIface⟩),
 (480,⟨[104,116,116,112],[224,3],0,false,.nilIface⟩),
 (481,⟨[104,116,116,112,45,112,97,116,104],[225,3],-1,false,dq 193 194 (.func (.func 195) #[] #[])⟩),
 (777,⟨[109,101,109,111,114,121],[137,6],64,false,dq 202 203 (.func (.func 204) #[] #[])⟩),
 (7367777,⟨[112,108,97,105,110,116,101,120,116,118,50],[225,216,193,3],0,false,.nilIface⟩)]
def ai(k:Int):PS:=(LH.lookup k.toNat).getD default
noncomputable abbrev cu(k0_:ByteArray)(k1_:Int)(k2_:Nat)(k3_:Int)(k4_ k5_:Nat):List SV:=[(.str k0_ true),(.int .i64 k1_ true),(.slc 2 0 k2_ k2_ true true),(.int .i64 k3_ true),(.bool false true),(.ifc 147 (.agg [(.fn (.func k4_) [] []),(.fn (.func k5_) [] []),(.one .nilFunc rfl)]))]
noncomputable abbrev wL(w:World):T:=(.leaf .ret [(.agg (cu (ByteArray.mk #[105,112,52]) 4 1 32 163 164))] (SS.mk [(.cells (cu (ByteArray.mk #[105,112,52]) 4 1 32 163 164) 6 88 0 0),(.cells (cu (ByteArray.mk #[105,112,52]) 4 1 32 163 164) 6 88 0 0),(.cells [(.int .u8 4 true)] 1 5 0 0)] [] true w []))
theorem Pe(w:World):al Tryz.prog ar 3000 84 [.int .i64 4 true] (SS.at w) =
(wL w):=by kernel_rfl
theorem p4(w:World):(by have h:=Pe w;unfold wL cu at h;exact type_of% h):=Pe w
noncomputable abbrev wU(w:World):T:=(.leaf .ret [(.agg (cu (ByteArray.mk #[116,99,112]) 6 1 16 165 166))] (SS.mk [(.cells (cu (ByteArray.mk #[116,99,112]) 6 1 16 165 166) 6 88 0 0),(.cells (cu (ByteArray.mk #[116,99,112]) 6 1 16 165 166) 6 88 0 0),(.cells [(.int .u8 6 true)] 1 5 0 0)] [] true w []))
theorem Pf(w:World):al Tryz.prog ar 3000 84 [.int .i64 6 true] (SS.at w) =
(wU w):=by kernel_rfl
theorem p6(w:World):(by have h:=Pf w;unfold wU cu at h;exact type_of% h):=Pf w
noncomputable abbrev wJ(w:World):T:=(.leaf .ret [(.agg (cu (ByteArray.mk #[100,99,99,112]) 33 1 16 165 166))] (SS.mk [(.cells (cu (ByteArray.mk #[100,99,99,112]) 33 1 16 165 166) 6 88 0 0),(.cells (cu (ByteArray.mk #[100,99,99,112]) 33 1 16 165 166) 6 88 0 0),(.cells [(.int .u8 33 true)] 1 5 0 0)] [] true w []))
theorem Lx(w:World):al Tryz.prog ar 3000 84 [.int .i64 33 true] (SS.at w) =
(wJ w):=by kernel_rfl
theorem Qy(w:World):(by have h:=Lx w;unfold wJ cu at h;exact type_of% h):=Lx w
noncomputable abbrev wK(w:World):T:=(.leaf .ret [(.agg (cu (ByteArray.mk #[105,112,54]) 41 1 128 170 171))] (SS.mk [(.cells (cu (ByteArray.mk #[105,112,54]) 41 1 128 170 171) 6 88 0 0),(.cells (cu (ByteArray.mk #[105,112,54]) 41 1 128 170 171) 6 88 0 0),(.cells [(.int .u8 41 true)] 1 5 0 0)] [] true w []))
theorem Ly(w:World):al Tryz.prog ar 3000 84 [.int .i64 41 true] (SS.at w) =
(wK w):=by kernel_rfl
theorem Qz(w:World):(by have h:=Ly w;unfold wK cu at h;exact type_of% h):=Ly w
noncomputable abbrev aI(k0_:ByteArray)(k1_:Int)(k2_:Nat)(k3_:Int)(k4_ k5_ k6_:Nat):List SV:=[(.str k0_ true),(.int .i64 k1_ true),(.slc 2 0 k2_ k2_ true true),(.int .i64 k3_ true),(.bool false true),(.ifc 147 (.agg [(.fn (.func k4_) [] []),(.fn (.func k5_) [] []),(.fn (.func k6_) [] [])]))]
noncomputable abbrev BW(w:World):T:=(.leaf .ret [(.agg (aI (ByteArray.mk #[105,112,54,122,111,110,101]) 42 1 (-1) 172 173 174))] (SS.mk [(.cells (aI (ByteArray.mk #[105,112,54,122,111,110,101]) 42 1 (-1) 172 173 174) 6 88 0 0),(.cells (aI (ByteArray.mk #[105,112,54,122,111,110,101]) 42 1 (-1) 172 173 174) 6 88 0 0),(.cells [(.int .u8 42 true)] 1 5 0 0)] [] true w []))
theorem Lz(w:World):al Tryz.prog ar 3000 84 [.int .i64 42 true] (SS.at w) =
(BW w):=by kernel_rfl
theorem QA(w:World):(by have h:=Lz w;unfold BW aI at h;exact type_of% h):=Lz w
noncomputable abbrev wF(w:World):T:=(.leaf .ret [(.agg (aI (ByteArray.mk #[105,112,99,105,100,114]) 43 1 8 175 176 177))] (SS.mk [(.cells (aI (ByteArray.mk #[105,112,99,105,100,114]) 43 1 8 175 176 177) 6 88 0 0),(.cells (aI (ByteArray.mk #[105,112,99,105,100,114]) 43 1 8 175 176 177) 6 88 0 0),(.cells [(.int .u8 43 true)] 1 5 0 0)] [] true w []))
theorem LA(w:World):al Tryz.prog ar 3000 84 [.int .i64 43 true] (SS.at w) =
(wF w):=by kernel_rfl
theorem QB(w:World):(by have h:=LA w;unfold wF aI at h;exact type_of% h):=LA w
noncomputable abbrev wI(w:World):T:=(.leaf .ret [(.agg (aI (ByteArray.mk #[100,110,115]) 53 1 (-1) 167 168 169))] (SS.mk [(.cells (aI (ByteArray.mk #[100,110,115]) 53 1 (-1) 167 168 169) 6 88 0 0),(.cells (aI (ByteArray.mk #[100,110,115]) 53 1 (-1) 167 168 169) 6 88 0 0),(.cells [(.int .u8 53 true)] 1 5 0 0)] [] true w []))
theorem LB(w:World):al Tryz.prog ar 3000 84 [.int .i64 53 true] (SS.at w) =
(wI w):=by kernel_rfl
theorem QC(w:World):(by have h:=LB w;unfold wI aI at h;exact type_of% h):=LB w
noncomputable abbrev wG(w:World):T:=(.leaf .ret [(.agg (aI (ByteArray.mk #[100,110,115,52]) 54 1 (-1) 167 168 169))] (SS.mk [(.cells (aI (ByteArray.mk #[100,110,115,52]) 54 1 (-1) 167 168 169) 6 88 0 0),(.cells (aI (ByteArray.mk #[100,110,115,52]) 54 1 (-1) 167 168 169) 6 88 0 0),(.cells [(.int .u8 54 true)] 1 5 0 0)] [] true w []))
theorem LC(w:World):al Tryz.prog ar 3000 84 [.int .i64 54 true] (SS.at w) =
(wG w):=by kernel_rfl
theorem QD(w:World):(by have h:=LC w;unfold wG aI at h;exact type_of% h):=LC w
noncomputable abbrev wH(w:World):T:=(.leaf .ret [(.agg (aI (ByteArray.mk #[100,110,115,54]) 55 1 (-1) 167 168 169))] (SS.mk [(.cells (aI (ByteArray.mk #[100,110,115,54]) 55 1 (-1) 167 168 169) 6 88 0 0),(.cells (aI (ByteArray.mk #[100,110,115,54]) 55 1 (-1) 167 168 169) 6 88 0 0),(.cells [(.int .u8 55 true)] 1 5 0 0)] [] true w []))
theorem LD(w:World):al Tryz.prog ar 3000 84 [.int .i64 55 true] (SS.at w) =
(wH w):=by kernel_rfl
theorem QE(w:World):(by have h:=LD w;unfold wH aI at h;exact type_of% h):=LD w
noncomputable abbrev BX(w:World):T:=(.leaf .ret [(.agg (aI (ByteArray.mk #[100,110,115,97,100,100,114]) 56 1 (-1) 167 168 169))] (SS.mk [(.cells (aI (ByteArray.mk #[100,110,115,97,100,100,114]) 56 1 (-1) 167 168 169) 6 88 0 0),(.cells (aI (ByteArray.mk #[100,110,115,97,100,100,114]) 56 1 (-1) 167 168 169) 6 88 0 0),(.cells [(.int .u8 56 true)] 1 5 0 0)] [] true w []))
theorem LF(w:World):al Tryz.prog ar 3000 84 [.int .i64 56 true] (SS.at w) =
(BX w):=by kernel_rfl
theorem QF(w:World):(by have h:=LF w;unfold BX aI at h;exact type_of% h):=LF w
noncomputable abbrev bL(k0_ k1_:Int):SObj:=(.cells [(.int .u8 k0_ true),(.int .u8 k1_ true)] 2 5 0 0)
noncomputable abbrev wV(w:World):T:=(.leaf .ret [(.agg (cu (ByteArray.mk #[115,99,116,112]) 132 2 16 165 166))] (SS.mk [(.cells (cu (ByteArray.mk #[115,99,116,112]) 132 2 16 165 166) 6 88 0 0),(.cells (cu (ByteArray.mk #[115,99,116,112]) 132 2 16 165 166) 6 88 0 0),(bL 132 1)] [] true w []))
theorem G9(w:World):al Tryz.prog ar 3000 84 [.int .i64 132 true] (SS.at w) =
(wV w):=by kernel_rfl
theorem M6(w:World):(by have h:=G9 w;unfold wV bL cu at h;exact type_of% h):=G9 w
noncomputable abbrev wW(w:World):T:=(.leaf .ret [(.agg (cu (ByteArray.mk #[117,100,112]) 273 2 16 165 166))] (SS.mk [(.cells (cu (ByteArray.mk #[117,100,112]) 273 2 16 165 166) 6 88 0 0),(.cells (cu (ByteArray.mk #[117,100,112]) 273 2 16 165 166) 6 88 0 0),(bL 145 2)] [] true w []))
theorem Ha(w:World):al Tryz.prog ar 3000 84 [.int .i64 273 true] (SS.at w) =
(wW w):=by kernel_rfl
theorem M7(w:World):(by have h:=Ha w;unfold wW bL cu at h;exact type_of% h):=Ha w
noncomputable abbrev ba(w:World)(k0_:ByteArray)(k1_ k2_ k3_:Int):T:=(.leaf .ret [(.agg [(.str k0_ true),(.int .i64 k1_ true),(.slc 2 0 2 2 true true),(.int .i64 0 true),(.bool false true),(.one .nilIface rfl)])] (SS.mk [(.cells [(.str k0_ true),(.int .i64 k1_ true),(.slc 2 0 2 2 true true),(.int .i64 0 true),(.bool false true),(.one .nilIface rfl)] 6 88 0 0),(.cells [(.str k0_ true),(.int .i64 k1_ true),(.slc 2 0 2 2 true true),(.int .i64 0 true),(.bool false true),(.one .nilIface rfl)] 6 88 0 0),(.cells [(.int .u8 k2_ true),(.int .u8 k3_ true)] 2 5 0 0)] [] true w []))
theorem Hb(w:World):al Tryz.prog ar 3000 84 [.int .i64 276 true] (SS.at w) =
(ba w (ByteArray.mk #[112,50,112,45,119,101,98,114,116,99,45,100,105,114,101,99,116]) 276 148 2):=by kernel_rfl
theorem M8(w:World):(by have h:=Hb w;unfold ba at h;exact type_of% h):=Hb w
theorem Hc(w:World):al Tryz.prog ar 3000 84 [.int .i64 280 true] (SS.at w) =
(ba w (ByteArray.mk #[119,101,98,114,116,99,45,100,105,114,101,99,116]) 280 152 2):=by kernel_rfl
theorem M9(w:World):(by have h:=Hc w;unfold ba at h;exact type_of% h):=Hc w
theorem Hd(w:World):al Tryz.prog ar 3000 84 [.int .i64 281 true] (SS.at w) =
(ba w (ByteArray.mk #[119,101,98,114,116,99]) 281 153 2):=by kernel_rfl
theorem Na(w:World):(by have h:=Hd w;unfold ba at h;exact type_of% h):=Hd w
theorem He(w:World):al Tryz.prog ar 3000 84 [.int .i64 290 true] (SS.at w) =
(ba w (ByteArray.mk #[112,50,112,45,99,105,114,99,117,105,116]) 290 162 2):=by kernel_rfl
theorem Nb(w:World):(by have h:=He w;unfold ba at h;exact type_of% h):=He w
theorem Hf(w:World):al Tryz.prog ar 3000 84 [.int .i64 301 true] (SS.at w) =
(ba w (ByteArray.mk #[117,100,116]) 301 173 2):=by kernel_rfl
theorem Nc(w:World):(by have h:=Hf w;unfold ba at h;exact type_of% h):=Hf w
theorem Hg(w:World):al Tryz.prog ar 3000 84 [.int .i64 302 true] (SS.at w) =
(ba w (ByteArray.mk #[117,116,112]) 302 174 2):=by kernel_rfl
theorem Nd(w:World):(by have h:=Hg w;unfold ba at h;exact type_of% h):=Hg w
noncomputable abbrev ph:List SV:=[(.str (ByteArray.mk #[117,110,105,120]) true),(.int .i64 400 true),(.slc 2 0 2 2 true true),(.int .i64 (-1) true),(.bool true true),(.ifc 147 (.agg [(.fn (.func 199) [] []),(.fn (.func 200) [] []),(.fn (.func 201) [] [])]))]
theorem Hh(w:World):al Tryz.prog ar 3000 84 [.int .i64 400 true] (SS.at w) =
(.leaf .ret [(.agg ph)] (SS.mk [(.cells ph 6 88 0 0),(.cells ph 6 88 0 0),(bL 144 3)] [] true w [])):=by kernel_rfl
theorem Nf(w:World):(by have h:=Hh w;unfold bL ph at h;exact type_of% h):=Hh w
noncomputable abbrev wT(w:World):T:=(.leaf .ret [(.agg (aI (ByteArray.mk #[112,50,112]) 421 2 (-1) 196 197 198))] (SS.mk [(.cells (aI (ByteArray.mk #[112,50,112]) 421 2 (-1) 196 197 198) 6 88 0 0),(.cells (aI (ByteArray.mk #[112,50,112]) 421 2 (-1) 196 197 198) 6 88 0 0),(bL 165 3)] [] true w []))
theorem Hi(w:World):al Tryz.prog ar 3000 84 [.int .i64 421 true] (SS.at w) =
(wT w):=by kernel_rfl
theorem Ng(w:World):(by have h:=Hi w;unfold wT bL aI at h;exact type_of% h):=Hi w
theorem Hj(w:World):al Tryz.prog ar 3000 84 [.int .i64 443 true] (SS.at w) =
(ba w (ByteArray.mk #[104,116,116,112,115]) 443 187 3):=by kernel_rfl
theorem Nh(w:World):(by have h:=Hj w;unfold ba at h;exact type_of% h):=Hj w
noncomputable abbrev wR(w:World):T:=(.leaf .ret [(.agg (aI (ByteArray.mk #[111,110,105,111,110]) 444 2 96 178 179 180))] (SS.mk [(.cells (aI (ByteArray.mk #[111,110,105,111,110]) 444 2 96 178 179 180) 6 88 0 0),(.cells (aI (ByteArray.mk #[111,110,105,111,110]) 444 2 96 178 179 180) 6 88 0 0),(bL 188 3)] [] true w []))
theorem Hk(w:World):al Tryz.prog ar 3000 84 [.int .i64 444 true] (SS.at w) =
(wR w):=by kernel_rfl
theorem Ni(w:World):(by have h:=Hk w;unfold wR bL aI at h;exact type_of% h):=Hk w
noncomputable abbrev wP(w:World):T:=(.leaf .ret [(.agg (aI (ByteArray.mk #[111,110,105,111,110,51]) 445 2 296 181 182 183))] (SS.mk [(.cells (aI (ByteArray.mk #[111,110,105,111,110,51]) 445 2 296 181 182 183) 6 88 0 0),(.cells (aI (ByteArray.mk #[111,110,105,111,110,51]) 445 2 296 181 182 183) 6 88 0 0),(bL 189 3)] [] true w []))
theorem Hl(w:World):al Tryz.prog ar 3000 84 [.int .i64 445 true] (SS.at w) =
(wP w):=by kernel_rfl
theorem Nj(w:World):(by have h:=Hl w;unfold wP bL aI at h;exact type_of% h):=Hl w
noncomputable abbrev wN(w:World):T:=(.leaf .ret [(.agg (aI (ByteArray.mk #[103,97,114,108,105,99,54,52]) 446 2 (-1) 184 185 186))] (SS.mk [(.cells (aI (ByteArray.mk #[103,97,114,108,105,99,54,52]) 446 2 (-1) 184 185 186) 6 88 0 0),(.cells (aI (ByteArray.mk #[103,97,114,108,105,99,54,52]) 446 2 (-1) 184 185 186) 6 88 0 0),(bL 190 3)] [] true w []))
theorem Hm(w:World):al Tryz.prog ar 3000 84 [.int .i64 446 true] (SS.at w) =
(wN w):=by kernel_rfl
theorem Nk(w:World):(by have h:=Hm w;unfold wN bL aI at h;exact type_of% h):=Hm w
noncomputable abbrev wO(w:World):T:=(.leaf .ret [(.agg (aI (ByteArray.mk #[103,97,114,108,105,99,51,50]) 447 2 (-1) 187 188 189))] (SS.mk [(.cells (aI (ByteArray.mk #[103,97,114,108,105,99,51,50]) 447 2 (-1) 187 188 189) 6 88 0 0),(.cells (aI (ByteArray.mk #[103,97,114,108,105,99,51,50]) 447 2 (-1) 187 188 189) 6 88 0 0),(bL 191 3)] [] true w []))
theorem Hn(w:World):al Tryz.prog ar 3000 84 [.int .i64 447 true] (SS.at w) =
(wO w):=by kernel_rfl
theorem Nl(w:World):(by have h:=Hn w;unfold wO bL aI at h;exact type_of% h):=Hn w
theorem Ho(w:World):al Tryz.prog ar 3000 84 [.int .i64 448 true] (SS.at w) =
(ba w (ByteArray.mk #[116,108,115]) 448 192 3):=by kernel_rfl
theorem Nn(w:World):(by have h:=Ho w;unfold ba at h;exact type_of% h):=Ho w
noncomputable abbrev wS(w:World):T:=(.leaf .ret [(.agg (aI (ByteArray.mk #[115,110,105]) 449 2 (-1) 167 168 169))] (SS.mk [(.cells (aI (ByteArray.mk #[115,110,105]) 449 2 (-1) 167 168 169) 6 88 0 0),(.cells (aI (ByteArray.mk #[115,110,105]) 449 2 (-1) 167 168 169) 6 88 0 0),(bL 193 3)] [] true w []))
theorem Hp(w:World):al Tryz.prog ar 3000 84 [.int .i64 449 true] (SS.at w) =
(wS w):=by kernel_rfl
theorem Np(w:World):(by have h:=Hp w;unfold wS bL aI at h;exact type_of% h):=Hp w
theorem Hq(w:World):al Tryz.prog ar 3000 84 [.int .i64 454 true] (SS.at w) =
(ba w (ByteArray.mk #[110,111,105,115,101]) 454 198 3):=by kernel_rfl
theorem Nq(w:World):(by have h:=Hq w;unfold ba at h;exact type_of% h):=Hq w
theorem Hr(w:World):al Tryz.prog ar 3000 84 [.int .i64 460 true] (SS.at w) =
(ba w (ByteArray.mk #[113,117,105,99]) 460 204 3):=by kernel_rfl
theorem Nr(w:World):(by have h:=Hr w;unfold ba at h;exact type_of% h):=Hr w
theorem Hs(w:World):al Tryz.prog ar 3000 84 [.int .i64 461 true] (SS.at w) =
(ba w (ByteArray.mk #[113,117,105,99,45,118,49]) 461 205 3):=by kernel_rfl
theorem Ns(w:World):(by have h:=Hs w;unfold ba at h;exact type_of% h):=Hs w
theorem Ht(w:World):al Tryz.prog ar 3000 84 [.int .i64 465 true] (SS.at w) =
(ba w (ByteArray.mk #[119,101,98,116,114,97,110,115,112,111,114,116]) 465 209 3):=by kernel_rfl
theorem Nt(w:World):(by have h:=Ht w;unfold ba at h;exact type_of% h):=Ht w
noncomputable abbrev wM(w:World):T:=(.leaf .ret [(.agg (aI (ByteArray.mk #[99,101,114,116,104,97,115,104]) 466 2 (-1) 190 191 192))] (SS.mk [(.cells (aI (ByteArray.mk #[99,101,114,116,104,97,115,104]) 466 2 (-1) 190 191 192) 6 88 0 0),(.cells (aI (ByteArray.mk #[99,101,114,116,104,97,115,104]) 466 2 (-1) 190 191 192) 6 88 0 0),(bL 210 3)] [] true w []))
theorem Hu(w:World):al Tryz.prog ar 3000 84 [.int .i64 466 true] (SS.at w) =
(wM w):=by kernel_rfl
theorem Nu(w:World):(by have h:=Hu w;unfold wM bL aI at h;exact type_of% h):=Hu w
theorem Hv(w:World):al Tryz.prog ar 3000 84 [.int .i64 477 true] (SS.at w) =
(ba w (ByteArray.mk #[119,115]) 477 221 3):=by kernel_rfl
theorem Nv(w:World):(by have h:=Hv w;unfold ba at h;exact type_of% h):=Hv w
theorem Hw(w:World):al Tryz.prog ar 3000 84 [.int .i64 478 true] (SS.at w) =
(ba w (ByteArray.mk #[119,115,115]) 478 222 3):=by kernel_rfl
theorem Nw(w:World):(by have h:=Hw w;unfold ba at h;exact type_of% h):=Hw w
theorem Hx(w:World):al Tryz.prog ar 3000 84 [.int .i64 480 true] (SS.at w) =
(ba w (ByteArray.mk #[104,116,116,112]) 480 224 3):=by kernel_rfl
theorem Nx(w:World):(by have h:=Hx w;unfold ba at h;exact type_of% h):=Hx w
noncomputable abbrev kc:ByteArray:=(ByteArray.mk #[104,116,116,112,45,112,97,116,104])
theorem Hy(w:World):al Tryz.prog ar 3000 84 [.int .i64 481 true] (SS.at w) =
(.leaf .ret [(.agg (aI kc 481 2 (-1) 193 194 195))] (SS.mk [(.cells (aI kc 481 2 (-1) 193 194 195) 6 88 0 0),(.cells (aI kc 481 2 (-1) 193 194 195) 6 88 0 0),(bL 225 3)] [] true w [])):=by kernel_rfl
theorem Ny(w:World):(by have h:=Hy w;unfold kc bL aI at h;exact type_of% h):=Hy w
noncomputable abbrev wQ(w:World):T:=(.leaf .ret [(.agg (aI (ByteArray.mk #[109,101,109,111,114,121]) 777 2 64 202 203 204))] (SS.mk [(.cells (aI (ByteArray.mk #[109,101,109,111,114,121]) 777 2 64 202 203 204) 6 88 0 0),(.cells (aI (ByteArray.mk #[109,101,109,111,114,121]) 777 2 64 202 203 204) 6 88 0 0),(bL 137 6)] [] true w []))
theorem Hz(w:World):al Tryz.prog ar 3000 84 [.int .i64 777 true] (SS.at w) =
(wQ w):=by kernel_rfl
theorem Nz(w:World):(by have h:=Hz w;unfold wQ bL aI at h;exact type_of% h):=Hz w
noncomputable abbrev yJ:List SV:=[(.str (ByteArray.mk #[112,108,97,105,110,116,101,120,116,118,50]) true),(.int .i64 7367777 true),(.slc 2 0 4 4 true true),(.int .i64 0 true),(.bool false true),(.one .nilIface rfl)]
noncomputable abbrev BV(w:World):T:=(.leaf .ret [(.agg yJ)] (SS.mk [(.cells yJ 6 88 0 0),(.cells yJ 6 88 0 0),(.cells [(.int .u8 225 true),(.int .u8 216 true),(.int .u8 193 true),(.int .u8 3 true)] 4 5 0 0)] [] true w []))
theorem tc(w:World):al Tryz.prog ar 3000 84 [.int .i64 7367777 true] (SS.at w) =
(BV w):=by kernel_rfl
theorem Et(w:World):(by have h:=tc w;unfold BV yJ at h;exact type_of% h):=tc w
theorem Pg(w:World):al Tryz.prog ar 3000 88 [.str ⟨#[105,112,52]⟩ true] (SS.at w) =
(wL w):=by kernel_rfl
theorem q4(w:World):(by have h:=Pg w;unfold wL cu at h;exact type_of% h):=Pg w
theorem Ph(w:World):al Tryz.prog ar 3000 88 [.str ⟨#[116,99,112]⟩ true] (SS.at w) =
(wU w):=by kernel_rfl
theorem q6(w:World):(by have h:=Ph w;unfold wU cu at h;exact type_of% h):=Ph w
theorem LJ(w:World):al Tryz.prog ar 3000 88 [.str ⟨#[100,99,99,112]⟩ true] (SS.at w) =
(wJ w):=by kernel_rfl
theorem QG(w:World):(by have h:=LJ w;unfold wJ cu at h;exact type_of% h):=LJ w
theorem LK(w:World):al Tryz.prog ar 3000 88 [.str ⟨#[105,112,54]⟩ true] (SS.at w) =
(wK w):=by kernel_rfl
theorem QH(w:World):(by have h:=LK w;unfold wK cu at h;exact type_of% h):=LK w
theorem LL(w:World):al Tryz.prog ar 3000 88 [.str ⟨#[105,112,54,122,111,110,101]⟩ true] (SS.at w) =
(BW w):=by kernel_rfl
theorem QI(w:World):(by have h:=LL w;unfold BW aI at h;exact type_of% h):=LL w
theorem LM(w:World):al Tryz.prog ar 3000 88 [.str ⟨#[105,112,99,105,100,114]⟩ true] (SS.at w) =
(wF w):=by kernel_rfl
theorem QJ(w:World):(by have h:=LM w;unfold wF aI at h;exact type_of% h):=LM w
theorem LN(w:World):al Tryz.prog ar 3000 88 [.str ⟨#[100,110,115]⟩ true] (SS.at w) =
(wI w):=by kernel_rfl
theorem QK(w:World):(by have h:=LN w;unfold wI aI at h;exact type_of% h):=LN w
theorem LO(w:World):al Tryz.prog ar 3000 88 [.str ⟨#[100,110,115,52]⟩ true] (SS.at w) =
(wG w):=by kernel_rfl
theorem QL(w:World):(by have h:=LO w;unfold wG aI at h;exact type_of% h):=LO w
theorem LP(w:World):al Tryz.prog ar 3000 88 [.str ⟨#[100,110,115,54]⟩ true] (SS.at w) =
(wH w):=by kernel_rfl
theorem QM(w:World):(by have h:=LP w;unfold wH aI at h;exact type_of% h):=LP w
theorem LQ(w:World):al Tryz.prog ar 3000 88 [.str ⟨#[100,110,115,97,100,100,114]⟩ true] (SS.at w) =
(BX w):=by kernel_rfl
theorem QN(w:World):(by have h:=LQ w;unfold BX aI at h;exact type_of% h):=LQ w
theorem HB(w:World):al Tryz.prog ar 3000 88 [.str ⟨#[115,99,116,112]⟩ true] (SS.at w) =
(wV w):=by kernel_rfl
theorem NA(w:World):(by have h:=HB w;unfold wV bL cu at h;exact type_of% h):=HB w
theorem HC(w:World):al Tryz.prog ar 3000 88 [.str ⟨#[117,100,112]⟩ true] (SS.at w) =
(wW w):=by kernel_rfl
theorem NB(w:World):(by have h:=HC w;unfold wW bL cu at h;exact type_of% h):=HC w
theorem HD(w:World):al Tryz.prog ar 3000 88 [.str ⟨#[112,50,112,45,119,101,98,114,116,99,45,100,105,114,101,99,116]⟩ true] (SS.at w) =
(ba w (ByteArray.mk #[112,50,112,45,119,101,98,114,116,99,45,100,105,114,101,99,116]) 276 148 2):=by kernel_rfl
theorem ND(w:World):(by have h:=HD w;unfold ba at h;exact type_of% h):=HD w
theorem HE(w:World):al Tryz.prog ar 3000 88 [.str ⟨#[119,101,98,114,116,99,45,100,105,114,101,99,116]⟩ true] (SS.at w) =
(ba w (ByteArray.mk #[119,101,98,114,116,99,45,100,105,114,101,99,116]) 280 152 2):=by kernel_rfl
theorem NF(w:World):(by have h:=HE w;unfold ba at h;exact type_of% h):=HE w
theorem HF(w:World):al Tryz.prog ar 3000 88 [.str ⟨#[119,101,98,114,116,99]⟩ true] (SS.at w) =
(ba w (ByteArray.mk #[119,101,98,114,116,99]) 281 153 2):=by kernel_rfl
theorem NG(w:World):(by have h:=HF w;unfold ba at h;exact type_of% h):=HF w
theorem HG(w:World):al Tryz.prog ar 3000 88 [.str ⟨#[112,50,112,45,99,105,114,99,117,105,116]⟩ true] (SS.at w) =
(ba w (ByteArray.mk #[112,50,112,45,99,105,114,99,117,105,116]) 290 162 2):=by kernel_rfl
theorem NH(w:World):(by have h:=HG w;unfold ba at h;exact type_of% h):=HG w
theorem HH(w:World):al Tryz.prog ar 3000 88 [.str ⟨#[117,100,116]⟩ true] (SS.at w) =
(ba w (ByteArray.mk #[117,100,116]) 301 173 2):=by kernel_rfl
theorem NI(w:World):(by have h:=HH w;unfold ba at h;exact type_of% h):=HH w
theorem HI(w:World):al Tryz.prog ar 3000 88 [.str ⟨#[117,116,112]⟩ true] (SS.at w) =
(ba w (ByteArray.mk #[117,116,112]) 302 174 2):=by kernel_rfl
theorem NJ(w:World):(by have h:=HI w;unfold ba at h;exact type_of% h):=HI w
theorem HJ(w:World):al Tryz.prog ar 3000 88 [.str ⟨#[117,110,105,120]⟩ true] (SS.at w) =
(.leaf .ret [(.agg ph)] (SS.mk [(.cells ph 6 88 0 0),(.cells ph 6 88 0 0),(bL 144 3)] [] true w [])):=by kernel_rfl
theorem NK(w:World):(by have h:=HJ w;unfold bL ph at h;exact type_of% h):=HJ w
theorem HK(w:World):al Tryz.prog ar 3000 88 [.str ⟨#[112,50,112]⟩ true] (SS.at w) =
(wT w):=by kernel_rfl
theorem NL(w:World):(by have h:=HK w;unfold wT bL aI at h;exact type_of% h):=HK w
theorem HL(w:World):al Tryz.prog ar 3000 88 [.str ⟨#[104,116,116,112,115]⟩ true] (SS.at w) =
(ba w (ByteArray.mk #[104,116,116,112,115]) 443 187 3):=by kernel_rfl
theorem NM(w:World):(by have h:=HL w;unfold ba at h;exact type_of% h):=HL w
theorem HM(w:World):al Tryz.prog ar 3000 88 [.str ⟨#[111,110,105,111,110]⟩ true] (SS.at w) =
(wR w):=by kernel_rfl
theorem NN(w:World):(by have h:=HM w;unfold wR bL aI at h;exact type_of% h):=HM w
theorem HN(w:World):al Tryz.prog ar 3000 88 [.str ⟨#[111,110,105,111,110,51]⟩ true] (SS.at w) =
(wP w):=by kernel_rfl
theorem NP(w:World):(by have h:=HN w;unfold wP bL aI at h;exact type_of% h):=HN w
theorem HO(w:World):al Tryz.prog ar 3000 88 [.str ⟨#[103,97,114,108,105,99,54,52]⟩ true] (SS.at w) =
(wN w):=by kernel_rfl
theorem NR(w:World):(by have h:=HO w;unfold wN bL aI at h;exact type_of% h):=HO w
theorem HP(w:World):al Tryz.prog ar 3000 88 [.str ⟨#[103,97,114,108,105,99,51,50]⟩ true] (SS.at w) =
(wO w):=by kernel_rfl
theorem NS(w:World):(by have h:=HP w;unfold wO bL aI at h;exact type_of% h):=HP w
theorem HQ(w:World):al Tryz.prog ar 3000 88 [.str ⟨#[116,108,115]⟩ true] (SS.at w) =
(ba w (ByteArray.mk #[116,108,115]) 448 192 3):=by kernel_rfl
theorem NT(w:World):(by have h:=HQ w;unfold ba at h;exact type_of% h):=HQ w
theorem HR(w:World):al Tryz.prog ar 3000 88 [.str ⟨#[115,110,105]⟩ true] (SS.at w) =
(wS w):=by kernel_rfl
theorem NU(w:World):(by have h:=HR w;unfold wS bL aI at h;exact type_of% h):=HR w
theorem HS(w:World):al Tryz.prog ar 3000 88 [.str ⟨#[110,111,105,115,101]⟩ true] (SS.at w) =
(ba w (ByteArray.mk #[110,111,105,115,101]) 454 198 3):=by kernel_rfl
theorem NV(w:World):(by have h:=HS w;unfold ba at h;exact type_of% h):=HS w
theorem HT(w:World):al Tryz.prog ar 3000 88 [.str ⟨#[113,117,105,99]⟩ true] (SS.at w) =
(ba w (ByteArray.mk #[113,117,105,99]) 460 204 3):=by kernel_rfl
theorem NW(w:World):(by have h:=HT w;unfold ba at h;exact type_of% h):=HT w
theorem HU(w:World):al Tryz.prog ar 3000 88 [.str ⟨#[113,117,105,99,45,118,49]⟩ true] (SS.at w) =
(ba w (ByteArray.mk #[113,117,105,99,45,118,49]) 461 205 3):=by kernel_rfl
theorem NX(w:World):(by have h:=HU w;unfold ba at h;exact type_of% h):=HU w
theorem HV(w:World):al Tryz.prog ar 3000 88 [.str ⟨#[119,101,98,116,114,97,110,115,112,111,114,116]⟩ true] (SS.at w) =
(ba w (ByteArray.mk #[119,101,98,116,114,97,110,115,112,111,114,116]) 465 209 3):=by kernel_rfl
theorem NY(w:World):(by have h:=HV w;unfold ba at h;exact type_of% h):=HV w
theorem HW(w:World):al Tryz.prog ar 3000 88 [.str ⟨#[99,101,114,116,104,97,115,104]⟩ true] (SS.at w) =
(wM w):=by kernel_rfl
theorem NZ(w:World):(by have h:=HW w;unfold wM bL aI at h;exact type_of% h):=HW w
theorem HY(w:World):al Tryz.prog ar 3000 88 [.str ⟨#[119,115]⟩ true] (SS.at w) =
(ba w (ByteArray.mk #[119,115]) 477 221 3):=by kernel_rfl
theorem N0(w:World):(by have h:=HY w;unfold ba at h;exact type_of% h):=HY w
theorem HZ(w:World):al Tryz.prog ar 3000 88 [.str ⟨#[119,115,115]⟩ true] (SS.at w) =
(ba w (ByteArray.mk #[119,115,115]) 478 222 3):=by kernel_rfl
theorem N3(w:World):(by have h:=HZ w;unfold ba at h;exact type_of% h):=HZ w
theorem H0(w:World):al Tryz.prog ar 3000 88 [.str ⟨#[104,116,116,112]⟩ true] (SS.at w) =
(ba w (ByteArray.mk #[104,116,116,112]) 480 224 3):=by kernel_rfl
theorem N4(w:World):(by have h:=H0 w;unfold ba at h;exact type_of% h):=H0 w
theorem H1(w:World):al Tryz.prog ar 3000 88 [.str ⟨#[104,116,116,112,45,112,97,116,104]⟩ true] (SS.at w) =
(.leaf .ret [(.agg (aI kc 481 2 (-1) 193 194 195))] (SS.mk [(.cells (aI kc 481 2 (-1) 193 194 195) 6 88 0 0),(.cells (aI kc 481 2 (-1) 193 194 195) 6 88 0 0),(bL 225 3)] [] true w [])):=by kernel_rfl
theorem N5(w:World):(by have h:=H1 w;unfold kc bL aI at h;exact type_of% h):=H1 w
theorem H2(w:World):al Tryz.prog ar 3000 88 [.str ⟨#[109,101,109,111,114,121]⟩ true] (SS.at w) =
(wQ w):=by kernel_rfl
theorem N6(w:World):(by have h:=H2 w;unfold wQ bL aI at h;exact type_of% h):=H2 w
theorem tg(w:World):al Tryz.prog ar 3000 88 [.str ⟨#[112,108,97,105,110,116,101,120,116,118,50]⟩ true] (SS.at w) =
(BV w):=by kernel_rfl
theorem Ey(w:World):(by have h:=tg w;unfold BV yJ at h;exact type_of% h):=tg w
structure PV where
 name:ByteArray
 A:Option Addr
 n:Nat
 c:Nat
 size:Int
 path:Bool
 tr:{ v:Value // v.oneCell'=true }
def PV.val(x:PV)(k:Int):Value:=.agg #[.string x.name,.int .i64 k,.slice x.A x.n x.c,.int .i64 x.size,.bool x.path,x.tr.1]
structure PV.Is (x:PV) (k:Int):Prop where
 name:x.name=⟨(ai k).name.toArray⟩
 size:x.size=(ai k).size
 path:x.path=(ai k).path
 tr:x.tr.1=(ai k).tr
 cap:x.n<=x.c
def J9(k:Int)(w:World)(v:Value)(w':World):Prop:=∃x:PV,v=x.val k/\x.Is k/\Fresh w x.A/\Bts w' w'.heap.size x.A x.n (ai k).vc
theorem ap{w:World}{k size:Int}{nm:ByteArray}{b:Bool}{tr:SV}{vc:List UInt8}{o0 o1:SObj}{cs:List SV}{n m:Nat}(hone:(tr.den id).oneCell'=true)(htr:∀β,tr.den β=(ai k).tr)
  (hnm:nm=⟨(ai k).name.toArray⟩) (hvc:(ai k).vc=vc) (hsz:size=(ai k).size) (hp:b=(ai k).path) (hcs:cs=vc.map fun x=>SV.int .u8 (x.toNat:Int) true) (hlen:n=vc.length/\m=vc.length) :
  (T.leaf .ret [.agg [.str nm true,.int .i64 k true,.slc 2 0 n n true true,.int .i64 size true,.bool b true,tr]] (SS.mk [o0,o1,.cells cs m 5 0 0] [] true w [])).holds (c8 Tryz.prog (bH fun v w'=>J9 k w v w'/\Below w.heap.size w w')):=by
 subst hcs hnm hsz hp
 refine aQ (Fine.start _ _) fun β w' hst hb=>⟨⟨_,some ⟨β 2,0,none⟩,n,n,_,_,⟨tr.den id,hone⟩⟩,?_,⟨rfl,rfl,rfl,htr id,Nat.le_refl _⟩,?_,?_⟩
 ·simp only[SV.den,af,PV.val];rw[htr β,htr id]
 ·intro a ha
  cases ha
  exact(Fine.start w _).new (hst.old rfl) 2 (by simp[SS.n])
 ·obtain⟨rest,h1,h2⟩:=hst.at_ 2 _ rfl
  have hr:rest=[]:=List.eq_nil_of_length_eq_zero (by simp at h2;omega)
  subst hr
  have e1:af β (vc.map fun x=>SV.int .u8 (x.toNat:Int) true)++[]=(vc.map fun x=>(x.toNat:Int)).map (Value.int .u8):=by
   rw[List.append_nil,cJ]
   simp[SV.den]
  rw[e1]at h1
  have hbt:=da (k:=n) h1 (by
   intro v hv
   obtain⟨x,_,rfl⟩:=List.mem_map.1 hv
   have:=x.toNat_lt
   omega) (by simp;omega) (hst.lt 2 (by simp[SS.n]))
  have e2:(((vc.map fun x:UInt8=>(x.toNat:Int)).take n).map fun v=>UInt8.ofNat v.toNat)=vc:=by
   rw[List.take_of_length_le (by simp;omega),List.map_map]
   refine(List.map_congr_left (g:=id) fun x _=>?_).trans (List.map_id vc)
   simp
  rw[e2]at hbt
  rw[hvc]
  exact hbt
theorem AZ(k:Int)(hk:k∈bc)(w:World):Calls Tryz.prog 84 #[.int .i64 k] w (bB (J9 k w) w):=by
 refine aF (hk:=ar) (n:=3000) (args:=[.int .i64 k true]) ⟨trivial,trivial⟩ ?_
 simp only[bc,List.mem_cons,List.not_mem_nil,or_false]at hk
 rcases hk with rfl |rfl |rfl |rfl |rfl |rfl |rfl |rfl |rfl |rfl |rfl |rfl |rfl |rfl |rfl |rfl |rfl |rfl |rfl |rfl |rfl |rfl |rfl |rfl |rfl |rfl |rfl |rfl |rfl |rfl |rfl |rfl |rfl |rfl |rfl |rfl |rfl |rfl
 ·rw[p4];exact ap (vc:=[4]) rfl (fun _=>rfl) rfl rfl rfl rfl rfl ⟨rfl,rfl⟩
 ·rw[p6];exact ap (vc:=[6]) rfl (fun _=>rfl) rfl rfl rfl rfl rfl ⟨rfl,rfl⟩
 ·rw[Qy];exact ap (vc:=[33]) rfl (fun _=>rfl) rfl rfl rfl rfl rfl ⟨rfl,rfl⟩
 ·rw[Qz];exact ap (vc:=[41]) rfl (fun _=>rfl) rfl rfl rfl rfl rfl ⟨rfl,rfl⟩
 ·rw[QA];exact ap (vc:=[42]) rfl (fun _=>rfl) rfl rfl rfl rfl rfl ⟨rfl,rfl⟩
 ·rw[QB];exact ap (vc:=[43]) rfl (fun _=>rfl) rfl rfl rfl rfl rfl ⟨rfl,rfl⟩
 ·rw[QC];exact ap (vc:=[53]) rfl (fun _=>rfl) rfl rfl rfl rfl rfl ⟨rfl,rfl⟩
 ·rw[QD];exact ap (vc:=[54]) rfl (fun _=>rfl) rfl rfl rfl rfl rfl ⟨rfl,rfl⟩
 ·rw[QE];exact ap (vc:=[55]) rfl (fun _=>rfl) rfl rfl rfl rfl rfl ⟨rfl,rfl⟩
 ·rw[QF];exact ap (vc:=[56]) rfl (fun _=>rfl) rfl rfl rfl rfl rfl ⟨rfl,rfl⟩
 ·rw[M6];exact ap (vc:=[132,1]) rfl (fun _=>rfl) rfl rfl rfl rfl rfl ⟨rfl,rfl⟩
 ·rw[M7];exact ap (vc:=[145,2]) rfl (fun _=>rfl) rfl rfl rfl rfl rfl ⟨rfl,rfl⟩
 ·rw[M8];exact ap (vc:=[148,2]) rfl (fun _=>rfl) rfl rfl rfl rfl rfl ⟨rfl,rfl⟩
 ·rw[M9];exact ap (vc:=[152,2]) rfl (fun _=>rfl) rfl rfl rfl rfl rfl ⟨rfl,rfl⟩
 ·rw[Na];exact ap (vc:=[153,2]) rfl (fun _=>rfl) rfl rfl rfl rfl rfl ⟨rfl,rfl⟩
 ·rw[Nb];exact ap (vc:=[162,2]) rfl (fun _=>rfl) rfl rfl rfl rfl rfl ⟨rfl,rfl⟩
 ·rw[Nc];exact ap (vc:=[173,2]) rfl (fun _=>rfl) rfl rfl rfl rfl rfl ⟨rfl,rfl⟩
 ·rw[Nd];exact ap (vc:=[174,2]) rfl (fun _=>rfl) rfl rfl rfl rfl rfl ⟨rfl,rfl⟩
 ·rw[Nf];exact ap (vc:=[144,3]) rfl (fun _=>rfl) rfl rfl rfl rfl rfl ⟨rfl,rfl⟩
 ·rw[Ng];exact ap (vc:=[165,3]) rfl (fun _=>rfl) rfl rfl rfl rfl rfl ⟨rfl,rfl⟩
 ·rw[Nh];exact ap (vc:=[187,3]) rfl (fun _=>rfl) rfl rfl rfl rfl rfl ⟨rfl,rfl⟩
 ·rw[Ni];exact ap (vc:=[188,3]) rfl (fun _=>rfl) rfl rfl rfl rfl rfl ⟨rfl,rfl⟩
 ·rw[Nj];exact ap (vc:=[189,3]) rfl (fun _=>rfl) rfl rfl rfl rfl rfl ⟨rfl,rfl⟩
 ·rw[Nk];exact ap (vc:=[190,3]) rfl (fun _=>rfl) rfl rfl rfl rfl rfl ⟨rfl,rfl⟩
 ·rw[Nl];exact ap (vc:=[191,3]) rfl (fun _=>rfl) rfl rfl rfl rfl rfl ⟨rfl,rfl⟩
 ·rw[Nn];exact ap (vc:=[192,3]) rfl (fun _=>rfl) rfl rfl rfl rfl rfl ⟨rfl,rfl⟩
 ·rw[Np];exact ap (vc:=[193,3]) rfl (fun _=>rfl) rfl rfl rfl rfl rfl ⟨rfl,rfl⟩
 ·rw[Nq];exact ap (vc:=[198,3]) rfl (fun _=>rfl) rfl rfl rfl rfl rfl ⟨rfl,rfl⟩
 ·rw[Nr];exact ap (vc:=[204,3]) rfl (fun _=>rfl) rfl rfl rfl rfl rfl ⟨rfl,rfl⟩
 ·rw[Ns];exact ap (vc:=[205,3]) rfl (fun _=>rfl) rfl rfl rfl rfl rfl ⟨rfl,rfl⟩
 ·rw[Nt];exact ap (vc:=[209,3]) rfl (fun _=>rfl) rfl rfl rfl rfl rfl ⟨rfl,rfl⟩
 ·rw[Nu];exact ap (vc:=[210,3]) rfl (fun _=>rfl) rfl rfl rfl rfl rfl ⟨rfl,rfl⟩
 ·rw[Nv];exact ap (vc:=[221,3]) rfl (fun _=>rfl) rfl rfl rfl rfl rfl ⟨rfl,rfl⟩
 ·rw[Nw];exact ap (vc:=[222,3]) rfl (fun _=>rfl) rfl rfl rfl rfl rfl ⟨rfl,rfl⟩
 ·rw[Nx];exact ap (vc:=[224,3]) rfl (fun _=>rfl) rfl rfl rfl rfl rfl ⟨rfl,rfl⟩
 ·rw[Ny];exact ap (vc:=[225,3]) rfl (fun _=>rfl) rfl rfl rfl rfl rfl ⟨rfl,rfl⟩
 ·rw[Nz];exact ap (vc:=[137,6]) rfl (fun _=>rfl) rfl rfl rfl rfl rfl ⟨rfl,rfl⟩
 ·rw[Et];exact ap (vc:=[225,216,193,3]) rfl (fun _=>rfl) rfl rfl rfl rfl rfl ⟨rfl,rfl⟩
theorem Gf(k:Int)(hk:k∈bc)(w:World):Calls Tryz.prog 88 #[.string ⟨(ai k).name.toArray⟩] w (bB (J9 k w) w):=by
 simp only[bc,List.mem_cons,List.not_mem_nil,or_false]at hk
 rcases hk with rfl |rfl |rfl |rfl |rfl |rfl |rfl |rfl |rfl |rfl |rfl |rfl |rfl |rfl |rfl |rfl |rfl |rfl |rfl |rfl |rfl |rfl |rfl |rfl |rfl |rfl |rfl |rfl |rfl |rfl |rfl |rfl |rfl |rfl |rfl |rfl |rfl |rfl
 ·refine aF (hk:=ar) (n:=3000) (args:=[.str ⟨#[105,112,52]⟩ true]) ⟨trivial,trivial⟩ ?_;rw[q4];exact ap (vc:=[4]) rfl (fun _=>rfl) rfl rfl rfl rfl rfl ⟨rfl,rfl⟩
 ·refine aF (hk:=ar) (n:=3000) (args:=[.str ⟨#[116,99,112]⟩ true]) ⟨trivial,trivial⟩ ?_;rw[q6];exact ap (vc:=[6]) rfl (fun _=>rfl) rfl rfl rfl rfl rfl ⟨rfl,rfl⟩
 ·refine aF (hk:=ar) (n:=3000) (args:=[.str ⟨#[100,99,99,112]⟩ true]) ⟨trivial,trivial⟩ ?_;rw[QG];exact ap (vc:=[33]) rfl (fun _=>rfl) rfl rfl rfl rfl rfl ⟨rfl,rfl⟩
 ·refine aF (hk:=ar) (n:=3000) (args:=[.str ⟨#[105,112,54]⟩ true]) ⟨trivial,trivial⟩ ?_;rw[QH];exact ap (vc:=[41]) rfl (fun _=>rfl) rfl rfl rfl rfl rfl ⟨rfl,rfl⟩
 ·refine aF (hk:=ar) (n:=3000) (args:=[.str ⟨#[105,112,54,122,111,110,101]⟩ true]) ⟨trivial,trivial⟩ ?_;rw[QI];exact ap (vc:=[42]) rfl (fun _=>rfl) rfl rfl rfl rfl rfl ⟨rfl,rfl⟩
 ·refine aF (hk:=ar) (n:=3000) (args:=[.str ⟨#[105,112,99,105,100,114]⟩ true]) ⟨trivial,trivial⟩ ?_;rw[QJ];exact ap (vc:=[43]) rfl (fun _=>rfl) rfl rfl rfl rfl rfl ⟨rfl,rfl⟩
 ·refine aF (hk:=ar) (n:=3000) (args:=[.str ⟨#[100,110,115]⟩ true]) ⟨trivial,trivial⟩ ?_;rw[QK];exact ap (vc:=[53]) rfl (fun _=>rfl) rfl rfl rfl rfl rfl ⟨rfl,rfl⟩
 ·refine aF (hk:=ar) (n:=3000) (args:=[.str ⟨#[100,110,115,52]⟩ true]) ⟨trivial,trivial⟩ ?_;rw[QL];exact ap (vc:=[54]) rfl (fun _=>rfl) rfl rfl rfl rfl rfl ⟨rfl,rfl⟩
 ·refine aF (hk:=ar) (n:=3000) (args:=[.str ⟨#[100,110,115,54]⟩ true]) ⟨trivial,trivial⟩ ?_;rw[QM];exact ap (vc:=[55]) rfl (fun _=>rfl) rfl rfl rfl rfl rfl ⟨rfl,rfl⟩
 ·refine aF (hk:=ar) (n:=3000) (args:=[.str ⟨#[100,110,115,97,100,100,114]⟩ true]) ⟨trivial,trivial⟩ ?_;rw[QN];exact ap (vc:=[56]) rfl (fun _=>rfl) rfl rfl rfl rfl rfl ⟨rfl,rfl⟩
 ·refine aF (hk:=ar) (n:=3000) (args:=[.str ⟨#[115,99,116,112]⟩ true]) ⟨trivial,trivial⟩ ?_;rw[NA];exact ap (vc:=[132,1]) rfl (fun _=>rfl) rfl rfl rfl rfl rfl ⟨rfl,rfl⟩
 ·refine aF (hk:=ar) (n:=3000) (args:=[.str ⟨#[117,100,112]⟩ true]) ⟨trivial,trivial⟩ ?_;rw[NB];exact ap (vc:=[145,2]) rfl (fun _=>rfl) rfl rfl rfl rfl rfl ⟨rfl,rfl⟩
 ·refine aF (hk:=ar) (n:=3000) (args:=[.str ⟨#[112,50,112,45,119,101,98,114,116,99,45,100,105,114,101,99,116]⟩ true]) ⟨trivial,trivial⟩ ?_;rw[ND];exact ap (vc:=[148,2]) rfl (fun _=>rfl) rfl rfl rfl rfl rfl ⟨rfl,rfl⟩
 ·refine aF (hk:=ar) (n:=3000) (args:=[.str ⟨#[119,101,98,114,116,99,45,100,105,114,101,99,116]⟩ true]) ⟨trivial,trivial⟩ ?_;rw[NF];exact ap (vc:=[152,2]) rfl (fun _=>rfl) rfl rfl rfl rfl rfl ⟨rfl,rfl⟩
 ·refine aF (hk:=ar) (n:=3000) (args:=[.str ⟨#[119,101,98,114,116,99]⟩ true]) ⟨trivial,trivial⟩ ?_;rw[NG];exact ap (vc:=[153,2]) rfl (fun _=>rfl) rfl rfl rfl rfl rfl ⟨rfl,rfl⟩
 ·refine aF (hk:=ar) (n:=3000) (args:=[.str ⟨#[112,50,112,45,99,105,114,99,117,105,116]⟩ true]) ⟨trivial,trivial⟩ ?_;rw[NH];exact ap (vc:=[162,2]) rfl (fun _=>rfl) rfl rfl rfl rfl rfl ⟨rfl,rfl⟩
 ·refine aF (hk:=ar) (n:=3000) (args:=[.str ⟨#[117,100,116]⟩ true]) ⟨trivial,trivial⟩ ?_;rw[NI];exact ap (vc:=[173,2]) rfl (fun _=>rfl) rfl rfl rfl rfl rfl ⟨rfl,rfl⟩
 ·refine aF (hk:=ar) (n:=3000) (args:=[.str ⟨#[117,116,112]⟩ true]) ⟨trivial,trivial⟩ ?_;rw[NJ];exact ap (vc:=[174,2]) rfl (fun _=>rfl) rfl rfl rfl rfl rfl ⟨rfl,rfl⟩
 ·refine aF (hk:=ar) (n:=3000) (args:=[.str ⟨#[117,110,105,120]⟩ true]) ⟨trivial,trivial⟩ ?_;rw[NK];exact ap (vc:=[144,3]) rfl (fun _=>rfl) rfl rfl rfl rfl rfl ⟨rfl,rfl⟩
 ·refine aF (hk:=ar) (n:=3000) (args:=[.str ⟨#[112,50,112]⟩ true]) ⟨trivial,trivial⟩ ?_;rw[NL];exact ap (vc:=[165,3]) rfl (fun _=>rfl) rfl rfl rfl rfl rfl ⟨rfl,rfl⟩
 ·refine aF (hk:=ar) (n:=3000) (args:=[.str ⟨#[104,116,116,112,115]⟩ true]) ⟨trivial,trivial⟩ ?_;rw[NM];exact ap (vc:=[187,3]) rfl (fun _=>rfl) rfl rfl rfl rfl rfl ⟨rfl,rfl⟩
 ·refine aF (hk:=ar) (n:=3000) (args:=[.str ⟨#[111,110,105,111,110]⟩ true]) ⟨trivial,trivial⟩ ?_;rw[NN];exact ap (vc:=[188,3]) rfl (fun _=>rfl) rfl rfl rfl rfl rfl ⟨rfl,rfl⟩
 ·refine aF (hk:=ar) (n:=3000) (args:=[.str ⟨#[111,110,105,111,110,51]⟩ true]) ⟨trivial,trivial⟩ ?_;rw[NP];exact ap (vc:=[189,3]) rfl (fun _=>rfl) rfl rfl rfl rfl rfl ⟨rfl,rfl⟩
 ·refine aF (hk:=ar) (n:=3000) (args:=[.str ⟨#[103,97,114,108,105,99,54,52]⟩ true]) ⟨trivial,trivial⟩ ?_;rw[NR];exact ap (vc:=[190,3]) rfl (fun _=>rfl) rfl rfl rfl rfl rfl ⟨rfl,rfl⟩
 ·refine aF (hk:=ar) (n:=3000) (args:=[.str ⟨#[103,97,114,108,105,99,51,50]⟩ true]) ⟨trivial,trivial⟩ ?_;rw[NS];exact ap (vc:=[191,3]) rfl (fun _=>rfl) rfl rfl rfl rfl rfl ⟨rfl,rfl⟩
 ·refine aF (hk:=ar) (n:=3000) (args:=[.str ⟨#[116,108,115]⟩ true]) ⟨trivial,trivial⟩ ?_;rw[NT];exact ap (vc:=[192,3]) rfl (fun _=>rfl) rfl rfl rfl rfl rfl ⟨rfl,rfl⟩
 ·refine aF (hk:=ar) (n:=3000) (args:=[.str ⟨#[115,110,105]⟩ true]) ⟨trivial,trivial⟩ ?_;rw[NU];exact ap (vc:=[193,3]) rfl (fun _=>rfl) rfl rfl rfl rfl rfl ⟨rfl,rfl⟩
 ·refine aF (hk:=ar) (n:=3000) (args:=[.str ⟨#[110,111,105,115,101]⟩ true]) ⟨trivial,trivial⟩ ?_;rw[NV];exact ap (vc:=[198,3]) rfl (fun _=>rfl) rfl rfl rfl rfl rfl ⟨rfl,rfl⟩
 ·refine aF (hk:=ar) (n:=3000) (args:=[.str ⟨#[113,117,105,99]⟩ true]) ⟨trivial,trivial⟩ ?_;rw[NW];exact ap (vc:=[204,3]) rfl (fun _=>rfl) rfl rfl rfl rfl rfl ⟨rfl,rfl⟩
 ·refine aF (hk:=ar) (n:=3000) (args:=[.str ⟨#[113,117,105,99,45,118,49]⟩ true]) ⟨trivial,trivial⟩ ?_;rw[NX];exact ap (vc:=[205,3]) rfl (fun _=>rfl) rfl rfl rfl rfl rfl ⟨rfl,rfl⟩
 ·refine aF (hk:=ar) (n:=3000) (args:=[.str ⟨#[119,101,98,116,114,97,110,115,112,111,114,116]⟩ true]) ⟨trivial,trivial⟩ ?_;rw[NY];exact ap (vc:=[209,3]) rfl (fun _=>rfl) rfl rfl rfl rfl rfl ⟨rfl,rfl⟩
 ·refine aF (hk:=ar) (n:=3000) (args:=[.str ⟨#[99,101,114,116,104,97,115,104]⟩ true]) ⟨trivial,trivial⟩ ?_;rw[NZ];exact ap (vc:=[210,3]) rfl (fun _=>rfl) rfl rfl rfl rfl rfl ⟨rfl,rfl⟩
 ·refine aF (hk:=ar) (n:=3000) (args:=[.str ⟨#[119,115]⟩ true]) ⟨trivial,trivial⟩ ?_;rw[N0];exact ap (vc:=[221,3]) rfl (fun _=>rfl) rfl rfl rfl rfl rfl ⟨rfl,rfl⟩
 ·refine aF (hk:=ar) (n:=3000) (args:=[.str ⟨#[119,115,115]⟩ true]) ⟨trivial,trivial⟩ ?_;rw[N3];exact ap (vc:=[222,3]) rfl (fun _=>rfl) rfl rfl rfl rfl rfl ⟨rfl,rfl⟩
 ·refine aF (hk:=ar) (n:=3000) (args:=[.str ⟨#[104,116,116,112]⟩ true]) ⟨trivial,trivial⟩ ?_;rw[N4];exact ap (vc:=[224,3]) rfl (fun _=>rfl) rfl rfl rfl rfl rfl ⟨rfl,rfl⟩
 ·refine aF (hk:=ar) (n:=3000) (args:=[.str ⟨#[104,116,116,112,45,112,97,116,104]⟩ true]) ⟨trivial,trivial⟩ ?_;rw[N5];exact ap (vc:=[225,3]) rfl (fun _=>rfl) rfl rfl rfl rfl rfl ⟨rfl,rfl⟩
 ·refine aF (hk:=ar) (n:=3000) (args:=[.str ⟨#[109,101,109,111,114,121]⟩ true]) ⟨trivial,trivial⟩ ?_;rw[N6];exact ap (vc:=[137,6]) rfl (fun _=>rfl) rfl rfl rfl rfl rfl ⟨rfl,rfl⟩
 ·refine aF (hk:=ar) (n:=3000) (args:=[.str ⟨#[112,108,97,105,110,116,101,120,116,118,50]⟩ true]) ⟨trivial,trivial⟩ ?_;rw[Ey];exact ap (vc:=[225,216,193,3]) rfl (fun _=>rfl) rfl rfl rfl rfl rfl ⟨rfl,rfl⟩
theorem dh:∀k∈bc,1<=(ai k).vc.length/\(ai k).vc.length<=16:=by decide
end
section
open Go Go.Rx Go.RowKit
def I6(args:List SV):SV:=
 match args with
 |v :: _=>v
 |[]=>.tup []
@[reducible] def bh:Hook:={ X:=PV,out:=fun args s x=>(.agg [.str x.name false,I6 args,.xs x.A x.n x.c,.int .i64 x.size false,.bool x.path false,.one x.tr.1 x.tr.2],s.objs) }
structure UV where
 A:Option Addr
 k:Nat
 c:Nat
@[reducible] def bn:Hook:={ X:=UV,out:=fun _ s x=>(.xs x.A x.k x.c,s.objs) }
@[reducible] def bv:Hook:={ X:=Addr,out:=fun _ s x=>(.xp x,s.objs) }
def F1:Hooks:={ calls:=fun f=>if f=84 then some bh else none,loops:=fun _ _=>none }
def KB:Hooks:={ calls:=fun f=>if f=67 then some bh else if f=85 then some bv else if f=69 then some bn else none,loops:=fun _ _=>none }
noncomputable abbrev sx(x0:(Hook.X (bh)))(k:Int):List SV:=[(.str x0.name false),(.int .i64 k false),(.xs x0.A x0.n x0.c),(.int .i64 x0.size false),(.bool x0.path false),(.one (x0.tr).1 (x0.tr).2)]
noncomputable abbrev cf(x0:(Hook.X (bh)))(k:Int):SObj:=(.cells (sx x0 k) 6 88 0 0)
noncomputable abbrev FF(w:World):SS:=(SS.mk [(.cells [(.str (ByteArray.mk #[]) true),(.int .i64 0 true),(.one (.slice none 0 0) rfl),(.int .i64 0 true),(.bool false true),(.one .nilIface rfl)] 6 88 0 0)] [] true w [])
theorem Ml(k:Int)(w:World):al Tryz.prog F1 200 67 [.int .i64 k false] (SS.at w) =
(.hc 84 [(.int .i64 k false)] (FF w) (bh) fun x0 w0 b0=>(.leaf .ret [(.agg (sx x0 k))] (SS.mk [(cf x0 k)] [] true w0 b0))):=by kernel_rfl
theorem Q9(k:Int)(w:World):(by have h:=Ml k w;unfold FF cf sx at h;exact type_of% h):=Ml k w
theorem Mo(k:Int)(w:World):al Tryz.prog F1 200 85 [.int .i64 k false] (SS.at w) =
(.hc 84 [(.int .i64 k false)] (SS.mk [] [] true w []) (bh) fun x0 w0 b0=>(.split (k == (0:Int)) (.leaf .ret [(.one (.pointer none) rfl)] (SS.mk [(cf x0 k)] [] true w0 b0)) (.leaf .ret [(.ptr 0 0)] (SS.mk [(cf x0 k)] [] true w0 b0)))):=by kernel_rfl
theorem Rb(k:Int)(w:World):(by have h:=Mo k w;unfold cf sx at h;exact type_of% h):=Mo k w
noncomputable abbrev dF:List Value:=(af id (di 0 [SV.int u8 (0:Int) true]))
noncomputable abbrev bo:List Value:=(List.drop 0 dF)
noncomputable abbrev cw:List SV:=[(.str (ByteArray.mk #[]) true),(.one (.pointer none) rfl),(.int .i64 0 true)]
noncomputable abbrev bP(w0:World)(x0:(Hook.X (bh))):List Value:=(af id (di 0 [SV.int u8 (0:Int) true])++valsAt w0 x0.A x0.n)
noncomputable abbrev jm(w0:World)(x0:(Hook.X (bh)))(w1:World)(x1:(Hook.X (bn))):List Value:=(af id (di 0 [SV.int u8 (0:Int) true])++valsAt w0 x0.A x0.n++valsAt w1 x1.A x1.k)
noncomputable abbrev nh(x0:(Hook.X (bh)))(x1:(Hook.X (bn))):SV:=(.int .i64 ((↑(0+x0.n+x1.k):Int)) false)
noncomputable abbrev tE(w0:World)(x0:(Hook.X (bh)))(w1:World)(x1:(Hook.X (bn)))(A:Option Addr)(n:Nat):List Value:=(af id (di 0 [SV.int u8 (0:Int) true])++valsAt w0 x0.A x0.n++valsAt w1 x1.A x1.k++valsAt w1 A n)
noncomputable abbrev tF(w0:World)(x0:(Hook.X (bh)))(A:Option Addr)(n:Nat):List Value:=(af id (di 0 [SV.int u8 (0:Int) true])++valsAt w0 x0.A x0.n++valsAt w0 A n)
noncomputable abbrev yK(x0:(Hook.X (bh))):SV:=(.int .i64 ((↑(0+x0.n):Int)) false)
noncomputable abbrev AK(n:Nat):SV:=(.int .u64 (u64.wrap (↑n:Int)) false)
noncomputable abbrev bG(k:Int)(A:Option Addr)(n c:Nat):SObj:=(.cells [(.int .i64 k false),(.xs A n c)] 2 31 0 0)
noncomputable abbrev wX(x0:(Hook.X (bh)))(x2:(Hook.X (bn)))(n:Nat)(w0 w2:World)(A:Option Addr)(x5:(Hook.X (bv))):List SV:=[(.str (bytesOf (List.map aM (List.take (0+x0.n+x2.k+n) (List.drop 0 (List.take ((0+x0.n+x2.k)*1) (List.drop 0 (List.take ((0+x0.n)*1) (List.drop 0 (List.take 0 bo++valsAt w0 x0.A x0.n))++valsAt w2 x2.A x2.k))++valsAt w2 A n))))) false),(.xp x5),(nh x0 x2)]
noncomputable abbrev wY(x0:(Hook.X (bh)))(x1:(Hook.X (bn)))(n:Nat)(w0 w1:World)(A:Option Addr)(x4:(Hook.X (bv))):List SV:=[(.str (bytesOf (List.map aM (List.take (0+x0.n+x1.k+n) (List.drop 0 (List.take ((0+x0.n+x1.k)*1) (List.drop 0 (List.take ((0+x0.n)*1) (List.drop 0 (bP w0 x0))++valsAt w1 x1.A x1.k))++valsAt w1 A n))))) false),(.xp x4),(nh x0 x1)]
noncomputable abbrev wZ(x0:(Hook.X (bh)))(x2:(Hook.X (bn)))(n:Nat)(w0 w2:World)(A:Option Addr)(x4:(Hook.X (bv))):List SV:=[(.str (bytesOf (List.map aM (List.take (0+x0.n+x2.k+n) (List.drop 0 (List.take ((0+x0.n+x2.k)*1) (List.drop 0 (List.take 0 bo++valsAt w0 x0.A x0.n++valsAt w2 x2.A x2.k))++valsAt w2 A n))))) false),(.xp x4),(nh x0 x2)]
noncomputable abbrev xc(x0:(Hook.X (bh)))(x2:(Hook.X (bn)))(n:Nat)(w0 w2:World)(A:Option Addr)(x4:(Hook.X (bv))):List SV:=[(.str (bytesOf (List.map aM (List.take (0+x0.n+x2.k+n) (List.drop 0 (List.take ((0+x0.n)*1) (List.drop 0 (List.take 0 bo++valsAt w0 x0.A x0.n))++valsAt w2 x2.A x2.k++valsAt w2 A n))))) false),(.xp x4),(nh x0 x2)]
noncomputable abbrev xd(x0:(Hook.X (bh)))(n:Nat)(w0:World)(A:Option Addr)(x3:(Hook.X (bv))):List SV:=[(.str (bytesOf (List.map aM (List.take (0+x0.n+n) (List.drop 0 (List.take ((0+x0.n)*1) (List.drop 0 (List.take 0 bo++valsAt w0 x0.A x0.n))++valsAt w0 A n))))) false),(.xp x3),(yK x0)]
noncomputable abbrev xe(x0:(Hook.X (bh)))(x1:(Hook.X (bn)))(n:Nat)(w0 w1:World)(A:Option Addr)(x3:(Hook.X (bv))):List SV:=[(.str (bytesOf (List.map aM (List.take (0+x0.n+x1.k+n) (List.drop 0 (List.take ((0+x0.n)*1) (List.drop 0 (bP w0 x0))++valsAt w1 x1.A x1.k++valsAt w1 A n))))) false),(.xp x3),(nh x0 x1)]
noncomputable abbrev xf(x0:(Hook.X (bh)))(n:Nat)(w0:World)(A:Option Addr)(x2:(Hook.X (bv))):List SV:=[(.str (bytesOf (List.map aM (List.take (0+x0.n+n) (List.drop 0 (List.take ((0+x0.n)*1) (List.drop 0 (bP w0 x0))++valsAt w0 A n))))) false),(.xp x2),(yK x0)]
noncomputable abbrev xg(x0:(Hook.X (bh)))(x1:(Hook.X (bn)))(n:Nat)(w0 w1:World)(A:Option Addr)(x3:(Hook.X (bv))):List SV:=[(.str (bytesOf (List.map aM (List.take (0+x0.n+x1.k+n) (List.drop 0 (List.take ((0+x0.n+x1.k)*1) (List.drop 0 (jm w0 x0 w1 x1))++valsAt w1 A n))))) false),(.xp x3),(nh x0 x1)]
noncomputable abbrev xh(x0:(Hook.X (bh)))(x2:(Hook.X (bn)))(n:Nat)(w0 w2:World)(A:Option Addr)(x3:(Hook.X (bv))):List SV:=[(.str (bytesOf (List.map aM (List.take (0+x0.n+x2.k+n) (List.drop 0 (List.take 0 bo++valsAt w0 x0.A x0.n++valsAt w2 x2.A x2.k++valsAt w2 A n))))) false),(.xp x3),(nh x0 x2)]
noncomputable abbrev xi(x0:(Hook.X (bh)))(n:Nat)(w0:World)(A:Option Addr)(x2:(Hook.X (bv))):List SV:=[(.str (bytesOf (List.map aM (List.take (0+x0.n+n) (List.drop 0 (List.take 0 bo++valsAt w0 x0.A x0.n++valsAt w0 A n))))) false),(.xp x2),(yK x0)]
noncomputable abbrev kd(w0:World)(x0:(Hook.X (bh)))(c1:Nat):SObj:=(.vals (List.take 0 bo++valsAt w0 x0.A x0.n) (c1*1) 5 0 0)
noncomputable abbrev FG(k:Int)(A:Option Addr)(n c:Nat)(x0:(Hook.X (bh)))(w0 w1:World)(x1:(Hook.X (bn)))(c2 c3:Nat)(b1:List Nat):SS:=(SS.mk [(bG k A n c),(.cells cw 3 64 0 0),(cf x0 k),(.vals (bP w0 x0) 0 5 0 0),(.vals (List.take ((0+x0.n)*1) (List.drop 0 (bP w0 x0))++valsAt w1 x1.A x1.k) (c2*1) 5 0 0),(.vals (List.take ((0+x0.n+x1.k)*1) (List.drop 0 (List.take ((0+x0.n)*1) (List.drop 0 (bP w0 x0))++valsAt w1 x1.A x1.k))++valsAt w1 A n) (c3*1) 5 0 0),(.cells cw 3 64 0 0)] [] true w1 b1)
noncomputable abbrev FH(k:Int)(A:Option Addr)(n c:Nat)(x0:(Hook.X (bh)))(w0 w2:World)(x2:(Hook.X (bn)))(c1 c3:Nat)(b2:List Nat):SS:=(SS.mk [(bG k A n c),(.cells cw 3 64 0 0),(cf x0 k),(.vals dF 0 5 0 0),(.vals (List.take 0 bo++valsAt w0 x0.A x0.n++valsAt w2 x2.A x2.k) (c1*1) 5 0 0),(.vals (List.take ((0+x0.n+x2.k)*1) (List.drop 0 (List.take 0 bo++valsAt w0 x0.A x0.n++valsAt w2 x2.A x2.k))++valsAt w2 A n) (c3*1) 5 0 0),(.cells cw 3 64 0 0)] [] true w2 b2)
noncomputable abbrev xj(x0:(Hook.X (bh)))(n:Nat)(w0:World)(A:Option Addr)(x1:(Hook.X (bv))):List SV:=[(.str (bytesOf (List.map aM (List.take (0+x0.n+n) (List.drop 0 (tF w0 x0 A n))))) false),(.xp x1),(yK x0)]
noncomputable abbrev xk(x0:(Hook.X (bh)))(x1:(Hook.X (bn)))(n:Nat)(w0 w1:World)(A:Option Addr)(x2:(Hook.X (bv))):List SV:=[(.str (bytesOf (List.map aM (List.take (0+x0.n+x1.k+n) (List.drop 0 (tE w0 x0 w1 x1 A n))))) false),(.xp x2),(nh x0 x1)]
noncomputable abbrev FI(k:Int)(A:Option Addr)(n c:Nat)(x0:(Hook.X (bh)))(w0:World)(c1:Nat)(b0:List Nat):SS:=(SS.mk [(bG k A n c),(.cells cw 3 64 0 0),(cf x0 k),(.vals (bP w0 x0) 0 5 0 0),(.vals (List.take ((0+x0.n)*1) (List.drop 0 (bP w0 x0))++valsAt w0 A n) (c1*1) 5 0 0),(.cells cw 3 64 0 0)] [] true w0 b0)
noncomputable abbrev FJ(k:Int)(A:Option Addr)(n c:Nat)(x0:(Hook.X (bh)))(w0:World)(c1:Nat)(w2:World)(x2:(Hook.X (bn)))(c3 c4:Nat)(b2:List Nat):SS:=(SS.mk [(bG k A n c),(.cells cw 3 64 0 0),(cf x0 k),(.vals dF 0 5 0 0),(kd w0 x0 c1),(.vals (List.take ((0+x0.n)*1) (List.drop 0 (List.take 0 bo++valsAt w0 x0.A x0.n))++valsAt w2 x2.A x2.k) (c3*1) 5 0 0),(.vals (List.take ((0+x0.n+x2.k)*1) (List.drop 0 (List.take ((0+x0.n)*1) (List.drop 0 (List.take 0 bo++valsAt w0 x0.A x0.n))++valsAt w2 x2.A x2.k))++valsAt w2 A n) (c4*1) 5 0 0),(.cells cw 3 64 0 0)] [] true w2 b2)
noncomputable abbrev AL(x0:(Hook.X (bh)))(w0:World)(A:Option Addr)(n c2:Nat):SObj:=(.vals (List.take ((0+x0.n)*1) (List.drop 0 (List.take 0 bo++valsAt w0 x0.A x0.n))++valsAt w0 A n) (c2*1) 5 0 0)
noncomputable abbrev AM(x0:(Hook.X (bh)))(w0 w2:World)(x2:(Hook.X (bn)))(A:Option Addr)(n c3:Nat):SObj:=(.vals (List.take ((0+x0.n)*1) (List.drop 0 (List.take 0 bo++valsAt w0 x0.A x0.n))++valsAt w2 x2.A x2.k++valsAt w2 A n) (c3*1) 5 0 0)
theorem Mj(k:Int)(A:Option Addr)(n c:Nat)(w:World):al Tryz.prog KB 500 39 [.agg [.int .i64 k false,.xs A n c]] (SS.at w) =
(.hc 67 [(.int .i64 k false)] (SS.mk [(bG k A n c),(.cells cw 3 64 0 0)] [] true w []) (bh) fun x0 w0 b0=>(.split (k == (0:Int)) (.need (canBytes w0 b0 A n) (.hc 85 [(.int .i64 k false)] (SS.mk [(bG k A n c),(.cells cw 3 64 0 0),(cf x0 k),(.cells cw 3 64 0 0)] [] true w0 b0) (bv) fun x1 w1 b1=>(.leaf .ret [(.agg [(.str (bytesAt w0 A n) false),(.xp x1),(.int .i64 0 true)])] (SS.mk [(bG k A n c),(.cells [(.str (bytesAt w0 A n) false),(.xp x1),(.int .i64 0 true)] 3 64 0 0),(cf x0 k),(.cells [(.str (bytesAt w0 A n) false),(.xp x1),(.int .i64 0 true)] 3 64 0 0)] [] true w1 b1)))) (.need (canBytes w0 b0 x0.A x0.n) (.split (decide (0+x0.n<=0)) (.need (0=0/\0+(valsAt w0 x0.A x0.n).length<=0/\an 0 0 0 (valsAt w0 x0.A x0.n).length=true) (.split (decide (x0.size<(0:Int))) (.hc 69 [(AK n)] (SS.mk [(bG k A n c),(.cells cw 3 64 0 0),(cf x0 k),(.vals (bP w0 x0) 0 5 0 0)] [] true w0 b0) (bn) fun x1 w1 b1=>(.need (canBytes w1 b1 x1.A x1.k) (.split (decide (0+x0.n+x1.k<=0)) (.need (0+(0+x0.n)*1=(bP w0 x0).length/\(bP w0 x0).length+(valsAt w1 x1.A x1.k).length<=0/\an 0 0 (bP w0 x0).length (valsAt w1 x1.A x1.k).length=true) (.need (canBytes w1 b1 A n) (.split (decide (0+x0.n+x1.k+n<=0)) (.need (0+(0+x0.n+x1.k)*1=(jm w0 x0 w1 x1).length/\(jm w0 x0 w1 x1).length+(valsAt w1 A n).length<=0/\an 0 0 (jm w0 x0 w1 x1).length (valsAt w1 A n).length=true) (.need (k=k) (.need (0+(0+x0.n+x1.k+n)<=(tE w0 x0 w1 x1 A n).length/\ci (List.take (0+x0.n+x1.k+n) (List.drop 0 (tE w0 x0 w1 x1 A n)))) (.hc 85 [(.int .i64 k false)] (SS.mk [(bG k A n c),(.cells cw 3 64 0 0),(cf x0 k),(.vals (tE w0 x0 w1 x1 A n) 0 5 0 0),(.cells cw 3 64 0 0)] [] true w1 b1) (bv) fun x2 w2 b2=>(.leaf .ret [(.agg (xk x0 x1 n w0 w1 A x2))] (SS.mk [(bG k A n c),(.cells (xk x0 x1 n w0 w1 A x2) 3 64 0 0),(cf x0 k),(.vals (tE w0 x0 w1 x1 A n) 0 5 0 0),(.cells (xk x0 x1 n w0 w1 A x2) 3 64 0 0)] [] true w2 b2)))))) (.need (0+(0+x0.n+x1.k)*1<=(jm w0 x0 w1 x1).length/\Builtin.nextslicecap (0+x0.n+x1.k+n) 0*1<=281474976710656/\(↑(0+x0.n+x1.k+n):Int)<=i64.max) (.choose (.appendCap (0+x0.n+x1.k+n) 0 5) fun c2=>(.need (k=k) (.need (0+(0+x0.n+x1.k+n)<=(List.take ((0+x0.n+x1.k)*1) (List.drop 0 (jm w0 x0 w1 x1))++valsAt w1 A n).length/\ci (List.take (0+x0.n+x1.k+n) (List.drop 0 (List.take ((0+x0.n+x1.k)*1) (List.drop 0 (jm w0 x0 w1 x1))++valsAt w1 A n)))) (.hc 85 [(.int .i64 k false)] (SS.mk [(bG k A n c),(.cells cw 3 64 0 0),(cf x0 k),(.vals (jm w0 x0 w1 x1) 0 5 0 0),(.vals (List.take ((0+x0.n+x1.k)*1) (List.drop 0 (jm w0 x0 w1 x1))++valsAt w1 A n) (c2*1) 5 0 0),(.cells cw 3 64 0 0)] [] true w1 b1) (bv) fun x3 w3 b3=>(.leaf .ret [(.agg (xg x0 x1 n w0 w1 A x3))] (SS.mk [(bG k A n c),(.cells (xg x0 x1 n w0 w1 A x3) 3 64 0 0),(cf x0 k),(.vals (jm w0 x0 w1 x1) 0 5 0 0),(.vals (List.take ((0+x0.n+x1.k)*1) (List.drop 0 (jm w0 x0 w1 x1))++valsAt w1 A n) (c2*1) 5 0 0),(.cells (xg x0 x1 n w0 w1 A x3) 3 64 0 0)] [] true w3 b3)))))))))) (.need (0+(0+x0.n)*1<=(bP w0 x0).length/\Builtin.nextslicecap (0+x0.n+x1.k) 0*1<=281474976710656/\(↑(0+x0.n+x1.k):Int)<=i64.max) (.choose (.appendCap (0+x0.n+x1.k) 0 5) fun c2=>(.need (canBytes w1 b1 A n) (.split (decide (0+x0.n+x1.k+n<=c2)) (.need (0+(0+x0.n+x1.k)*1=(List.take ((0+x0.n)*1) (List.drop 0 (bP w0 x0))++valsAt w1 x1.A x1.k).length/\(List.take ((0+x0.n)*1) (List.drop 0 (bP w0 x0))++valsAt w1 x1.A x1.k).length+(valsAt w1 A n).length<=c2*1/\an 0 0 (List.take ((0+x0.n)*1) (List.drop 0 (bP w0 x0))++valsAt w1 x1.A x1.k).length (valsAt w1 A n).length=true) (.need (k=k) (.need (0+(0+x0.n+x1.k+n)<=(List.take ((0+x0.n)*1) (List.drop 0 (bP w0 x0))++valsAt w1 x1.A x1.k++valsAt w1 A n).length/\ci (List.take (0+x0.n+x1.k+n) (List.drop 0 (List.take ((0+x0.n)*1) (List.drop 0 (bP w0 x0))++valsAt w1 x1.A x1.k++valsAt w1 A n)))) (.hc 85 [(.int .i64 k false)] (SS.mk [(bG k A n c),(.cells cw 3 64 0 0),(cf x0 k),(.vals (bP w0 x0) 0 5 0 0),(.vals (List.take ((0+x0.n)*1) (List.drop 0 (bP w0 x0))++valsAt w1 x1.A x1.k++valsAt w1 A n) (c2*1) 5 0 0),(.cells cw 3 64 0 0)] [] true w1 b1) (bv) fun x3 w3 b3=>(.leaf .ret [(.agg (xe x0 x1 n w0 w1 A x3))] (SS.mk [(bG k A n c),(.cells (xe x0 x1 n w0 w1 A x3) 3 64 0 0),(cf x0 k),(.vals (bP w0 x0) 0 5 0 0),(.vals (List.take ((0+x0.n)*1) (List.drop 0 (bP w0 x0))++valsAt w1 x1.A x1.k++valsAt w1 A n) (c2*1) 5 0 0),(.cells (xe x0 x1 n w0 w1 A x3) 3 64 0 0)] [] true w3 b3)))))) (.need (0+(0+x0.n+x1.k)*1<=(List.take ((0+x0.n)*1) (List.drop 0 (bP w0 x0))++valsAt w1 x1.A x1.k).length/\Builtin.nextslicecap (0+x0.n+x1.k+n) c2*1<=281474976710656/\(↑(0+x0.n+x1.k+n):Int)<=i64.max) (.choose (.appendCap (0+x0.n+x1.k+n) c2 5) fun c3=>(.need (k=k) (.need (0+(0+x0.n+x1.k+n)<=(List.take ((0+x0.n+x1.k)*1) (List.drop 0 (List.take ((0+x0.n)*1) (List.drop 0 (bP w0 x0))++valsAt w1 x1.A x1.k))++valsAt w1 A n).length/\ci (List.take (0+x0.n+x1.k+n) (List.drop 0 (List.take ((0+x0.n+x1.k)*1) (List.drop 0 (List.take ((0+x0.n)*1) (List.drop 0 (bP w0 x0))++valsAt w1 x1.A x1.k))++valsAt w1 A n)))) (.hc 85 [(.int .i64 k false)] (FG k A n c x0 w0 w1 x1 c2 c3 b1) (bv) fun x4 w4 b4=>(.leaf .ret [(.agg (wY x0 x1 n w0 w1 A x4))] (SS.mk [(bG k A n c),(.cells (wY x0 x1 n w0 w1 A x4) 3 64 0 0),(cf x0 k),(.vals (bP w0 x0) 0 5 0 0),(.vals (List.take ((0+x0.n)*1) (List.drop 0 (bP w0 x0))++valsAt w1 x1.A x1.k) (c2*1) 5 0 0),(.vals (List.take ((0+x0.n+x1.k)*1) (List.drop 0 (List.take ((0+x0.n)*1) (List.drop 0 (bP w0 x0))++valsAt w1 x1.A x1.k))++valsAt w1 A n) (c3*1) 5 0 0),(.cells (wY x0 x1 n w0 w1 A x4) 3 64 0 0)] [] true w4 b4)))))))))))))) (.need (canBytes w0 b0 A n) (.split (decide (0+x0.n+n<=0)) (.need (0+(0+x0.n)*1=(bP w0 x0).length/\(bP w0 x0).length+(valsAt w0 A n).length<=0/\an 0 0 (bP w0 x0).length (valsAt w0 A n).length=true) (.need (k=k) (.need (0+(0+x0.n+n)<=(tF w0 x0 A n).length/\ci (List.take (0+x0.n+n) (List.drop 0 (tF w0 x0 A n)))) (.hc 85 [(.int .i64 k false)] (SS.mk [(bG k A n c),(.cells cw 3 64 0 0),(cf x0 k),(.vals (tF w0 x0 A n) 0 5 0 0),(.cells cw 3 64 0 0)] [] true w0 b0) (bv) fun x1 w1 b1=>(.leaf .ret [(.agg (xj x0 n w0 A x1))] (SS.mk [(bG k A n c),(.cells (xj x0 n w0 A x1) 3 64 0 0),(cf x0 k),(.vals (tF w0 x0 A n) 0 5 0 0),(.cells (xj x0 n w0 A x1) 3 64 0 0)] [] true w1 b1)))))) (.need (0+(0+x0.n)*1<=(bP w0 x0).length/\Builtin.nextslicecap (0+x0.n+n) 0*1<=281474976710656/\(↑(0+x0.n+n):Int)<=i64.max) (.choose (.appendCap (0+x0.n+n) 0 5) fun c1=>(.need (k=k) (.need (0+(0+x0.n+n)<=(List.take ((0+x0.n)*1) (List.drop 0 (bP w0 x0))++valsAt w0 A n).length/\ci (List.take (0+x0.n+n) (List.drop 0 (List.take ((0+x0.n)*1) (List.drop 0 (bP w0 x0))++valsAt w0 A n)))) (.hc 85 [(.int .i64 k false)] (FI k A n c x0 w0 c1 b0) (bv) fun x2 w2 b2=>(.leaf .ret [(.agg (xf x0 n w0 A x2))] (SS.mk [(bG k A n c),(.cells (xf x0 n w0 A x2) 3 64 0 0),(cf x0 k),(.vals (bP w0 x0) 0 5 0 0),(.vals (List.take ((0+x0.n)*1) (List.drop 0 (bP w0 x0))++valsAt w0 A n) (c1*1) 5 0 0),(.cells (xf x0 n w0 A x2) 3 64 0 0)] [] true w2 b2))))))))))) (.need (0<=0/\Builtin.nextslicecap (0+x0.n) 0*1<=281474976710656/\(↑(0+x0.n):Int)<=i64.max) (.choose (.appendCap (0+x0.n) 0 5) fun c1=>(.split (decide (x0.size<(0:Int))) (.hc 69 [(AK n)] (SS.mk [(bG k A n c),(.cells cw 3 64 0 0),(cf x0 k),(.vals dF 0 5 0 0),(kd w0 x0 c1)] [] true w0 b0) (bn) fun x2 w2 b2=>(.need (canBytes w2 b2 x2.A x2.k) (.split (decide (0+x0.n+x2.k<=c1)) (.need (0+(0+x0.n)*1=(List.take 0 bo++valsAt w0 x0.A x0.n).length/\(List.take 0 bo++valsAt w0 x0.A x0.n).length+(valsAt w2 x2.A x2.k).length<=c1*1/\an 0 0 (List.take 0 bo++valsAt w0 x0.A x0.n).length (valsAt w2 x2.A x2.k).length=true) (.need (canBytes w2 b2 A n) (.split (decide (0+x0.n+x2.k+n<=c1)) (.need (0+(0+x0.n+x2.k)*1=(List.take 0 bo++valsAt w0 x0.A x0.n++valsAt w2 x2.A x2.k).length/\(List.take 0 bo++valsAt w0 x0.A x0.n++valsAt w2 x2.A x2.k).length+(valsAt w2 A n).length<=c1*1/\an 0 0 (List.take 0 bo++valsAt w0 x0.A x0.n++valsAt w2 x2.A x2.k).length (valsAt w2 A n).length=true) (.need (k=k) (.need (0+(0+x0.n+x2.k+n)<=(List.take 0 bo++valsAt w0 x0.A x0.n++valsAt w2 x2.A x2.k++valsAt w2 A n).length/\ci (List.take (0+x0.n+x2.k+n) (List.drop 0 (List.take 0 bo++valsAt w0 x0.A x0.n++valsAt w2 x2.A x2.k++valsAt w2 A n)))) (.hc 85 [(.int .i64 k false)] (SS.mk [(bG k A n c),(.cells cw 3 64 0 0),(cf x0 k),(.vals dF 0 5 0 0),(.vals (List.take 0 bo++valsAt w0 x0.A x0.n++valsAt w2 x2.A x2.k++valsAt w2 A n) (c1*1) 5 0 0),(.cells cw 3 64 0 0)] [] true w2 b2) (bv) fun x3 w3 b3=>(.leaf .ret [(.agg (xh x0 x2 n w0 w2 A x3))] (SS.mk [(bG k A n c),(.cells (xh x0 x2 n w0 w2 A x3) 3 64 0 0),(cf x0 k),(.vals dF 0 5 0 0),(.vals (List.take 0 bo++valsAt w0 x0.A x0.n++valsAt w2 x2.A x2.k++valsAt w2 A n) (c1*1) 5 0 0),(.cells (xh x0 x2 n w0 w2 A x3) 3 64 0 0)] [] true w3 b3)))))) (.need (0+(0+x0.n+x2.k)*1<=(List.take 0 bo++valsAt w0 x0.A x0.n++valsAt w2 x2.A x2.k).length/\Builtin.nextslicecap (0+x0.n+x2.k+n) c1*1<=281474976710656/\(↑(0+x0.n+x2.k+n):Int)<=i64.max) (.choose (.appendCap (0+x0.n+x2.k+n) c1 5) fun c3=>(.need (k=k) (.need (0+(0+x0.n+x2.k+n)<=(List.take ((0+x0.n+x2.k)*1) (List.drop 0 (List.take 0 bo++valsAt w0 x0.A x0.n++valsAt w2 x2.A x2.k))++valsAt w2 A n).length/\ci (List.take (0+x0.n+x2.k+n) (List.drop 0 (List.take ((0+x0.n+x2.k)*1) (List.drop 0 (List.take 0 bo++valsAt w0 x0.A x0.n++valsAt w2 x2.A x2.k))++valsAt w2 A n)))) (.hc 85 [(.int .i64 k false)] (FH k A n c x0 w0 w2 x2 c1 c3 b2) (bv) fun x4 w4 b4=>(.leaf .ret [(.agg (wZ x0 x2 n w0 w2 A x4))] (SS.mk [(bG k A n c),(.cells (wZ x0 x2 n w0 w2 A x4) 3 64 0 0),(cf x0 k),(.vals dF 0 5 0 0),(.vals (List.take 0 bo++valsAt w0 x0.A x0.n++valsAt w2 x2.A x2.k) (c1*1) 5 0 0),(.vals (List.take ((0+x0.n+x2.k)*1) (List.drop 0 (List.take 0 bo++valsAt w0 x0.A x0.n++valsAt w2 x2.A x2.k))++valsAt w2 A n) (c3*1) 5 0 0),(.cells (wZ x0 x2 n w0 w2 A x4) 3 64 0 0)] [] true w4 b4)))))))))) (.need (0+(0+x0.n)*1<=(List.take 0 bo++valsAt w0 x0.A x0.n).length/\Builtin.nextslicecap (0+x0.n+x2.k) c1*1<=281474976710656/\(↑(0+x0.n+x2.k):Int)<=i64.max) (.choose (.appendCap (0+x0.n+x2.k) c1 5) fun c3=>(.need (canBytes w2 b2 A n) (.split (decide (0+x0.n+x2.k+n<=c3)) (.need (0+(0+x0.n+x2.k)*1=(List.take ((0+x0.n)*1) (List.drop 0 (List.take 0 bo++valsAt w0 x0.A x0.n))++valsAt w2 x2.A x2.k).length/\(List.take ((0+x0.n)*1) (List.drop 0 (List.take 0 bo++valsAt w0 x0.A x0.n))++valsAt w2 x2.A x2.k).length+(valsAt w2 A n).length<=c3*1/\an 0 0 (List.take ((0+x0.n)*1) (List.drop 0 (List.take 0 bo++valsAt w0 x0.A x0.n))++valsAt w2 x2.A x2.k).length (valsAt w2 A n).length=true) (.need (k=k) (.need (0+(0+x0.n+x2.k+n)<=(List.take ((0+x0.n)*1) (List.drop 0 (List.take 0 bo++valsAt w0 x0.A x0.n))++valsAt w2 x2.A x2.k++valsAt w2 A n).length/\ci (List.take (0+x0.n+x2.k+n) (List.drop 0 (List.take ((0+x0.n)*1) (List.drop 0 (List.take 0 bo++valsAt w0 x0.A x0.n))++valsAt w2 x2.A x2.k++valsAt w2 A n)))) (.hc 85 [(.int .i64 k false)] (SS.mk [(bG k A n c),(.cells cw 3 64 0 0),(cf x0 k),(.vals dF 0 5 0 0),(kd w0 x0 c1),(AM x0 w0 w2 x2 A n c3),(.cells cw 3 64 0 0)] [] true w2 b2) (bv) fun x4 w4 b4=>(.leaf .ret [(.agg (xc x0 x2 n w0 w2 A x4))] (SS.mk [(bG k A n c),(.cells (xc x0 x2 n w0 w2 A x4) 3 64 0 0),(cf x0 k),(.vals dF 0 5 0 0),(kd w0 x0 c1),(AM x0 w0 w2 x2 A n c3),(.cells (xc x0 x2 n w0 w2 A x4) 3 64 0 0)] [] true w4 b4)))))) (.need (0+(0+x0.n+x2.k)*1<=(List.take ((0+x0.n)*1) (List.drop 0 (List.take 0 bo++valsAt w0 x0.A x0.n))++valsAt w2 x2.A x2.k).length/\Builtin.nextslicecap (0+x0.n+x2.k+n) c3*1<=281474976710656/\(↑(0+x0.n+x2.k+n):Int)<=i64.max) (.choose (.appendCap (0+x0.n+x2.k+n) c3 5) fun c4=>(.need (k=k) (.need (0+(0+x0.n+x2.k+n)<=(List.take ((0+x0.n+x2.k)*1) (List.drop 0 (List.take ((0+x0.n)*1) (List.drop 0 (List.take 0 bo++valsAt w0 x0.A x0.n))++valsAt w2 x2.A x2.k))++valsAt w2 A n).length/\ci (List.take (0+x0.n+x2.k+n) (List.drop 0 (List.take ((0+x0.n+x2.k)*1) (List.drop 0 (List.take ((0+x0.n)*1) (List.drop 0 (List.take 0 bo++valsAt w0 x0.A x0.n))++valsAt w2 x2.A x2.k))++valsAt w2 A n)))) (.hc 85 [(.int .i64 k false)] (FJ k A n c x0 w0 c1 w2 x2 c3 c4 b2) (bv) fun x5 w5 b5=>(.leaf .ret [(.agg (wX x0 x2 n w0 w2 A x5))] (SS.mk [(bG k A n c),(.cells (wX x0 x2 n w0 w2 A x5) 3 64 0 0),(cf x0 k),(.vals dF 0 5 0 0),(kd w0 x0 c1),(.vals (List.take ((0+x0.n)*1) (List.drop 0 (List.take 0 bo++valsAt w0 x0.A x0.n))++valsAt w2 x2.A x2.k) (c3*1) 5 0 0),(.vals (List.take ((0+x0.n+x2.k)*1) (List.drop 0 (List.take ((0+x0.n)*1) (List.drop 0 (List.take 0 bo++valsAt w0 x0.A x0.n))++valsAt w2 x2.A x2.k))++valsAt w2 A n) (c4*1) 5 0 0),(.cells (wX x0 x2 n w0 w2 A x5) 3 64 0 0)] [] true w5 b5)))))))))))))) (.need (canBytes w0 b0 A n) (.split (decide (0+x0.n+n<=c1)) (.need (0+(0+x0.n)*1=(List.take 0 bo++valsAt w0 x0.A x0.n).length/\(List.take 0 bo++valsAt w0 x0.A x0.n).length+(valsAt w0 A n).length<=c1*1/\an 0 0 (List.take 0 bo++valsAt w0 x0.A x0.n).length (valsAt w0 A n).length=true) (.need (k=k) (.need (0+(0+x0.n+n)<=(List.take 0 bo++valsAt w0 x0.A x0.n++valsAt w0 A n).length/\ci (List.take (0+x0.n+n) (List.drop 0 (List.take 0 bo++valsAt w0 x0.A x0.n++valsAt w0 A n)))) (.hc 85 [(.int .i64 k false)] (SS.mk [(bG k A n c),(.cells cw 3 64 0 0),(cf x0 k),(.vals dF 0 5 0 0),(.vals (List.take 0 bo++valsAt w0 x0.A x0.n++valsAt w0 A n) (c1*1) 5 0 0),(.cells cw 3 64 0 0)] [] true w0 b0) (bv) fun x2 w2 b2=>(.leaf .ret [(.agg (xi x0 n w0 A x2))] (SS.mk [(bG k A n c),(.cells (xi x0 n w0 A x2) 3 64 0 0),(cf x0 k),(.vals dF 0 5 0 0),(.vals (List.take 0 bo++valsAt w0 x0.A x0.n++valsAt w0 A n) (c1*1) 5 0 0),(.cells (xi x0 n w0 A x2) 3 64 0 0)] [] true w2 b2)))))) (.need (0+(0+x0.n)*1<=(List.take 0 bo++valsAt w0 x0.A x0.n).length/\Builtin.nextslicecap (0+x0.n+n) c1*1<=281474976710656/\(↑(0+x0.n+n):Int)<=i64.max) (.choose (.appendCap (0+x0.n+n) c1 5) fun c2=>(.need (k=k) (.need (0+(0+x0.n+n)<=(List.take ((0+x0.n)*1) (List.drop 0 (List.take 0 bo++valsAt w0 x0.A x0.n))++valsAt w0 A n).length/\ci (List.take (0+x0.n+n) (List.drop 0 (List.take ((0+x0.n)*1) (List.drop 0 (List.take 0 bo++valsAt w0 x0.A x0.n))++valsAt w0 A n)))) (.hc 85 [(.int .i64 k false)] (SS.mk [(bG k A n c),(.cells cw 3 64 0 0),(cf x0 k),(.vals dF 0 5 0 0),(kd w0 x0 c1),(AL x0 w0 A n c2),(.cells cw 3 64 0 0)] [] true w0 b0) (bv) fun x3 w3 b3=>(.leaf .ret [(.agg (xd x0 n w0 A x3))] (SS.mk [(bG k A n c),(.cells (xd x0 n w0 A x3) 3 64 0 0),(cf x0 k),(.vals dF 0 5 0 0),(kd w0 x0 c1),(AL x0 w0 A n c2),(.cells (xd x0 n w0 A x3) 3 64 0 0)] [] true w3 b3)))))))))))))))):=by kernel_rfl
theorem Q7(k:Int)(A:Option Addr)(n c:Nat)(w:World):(by have h:=Mj k A n c w;unfold AM AL FJ FI xk xj FH FG kd xi xh xg xf xe xd xc wZ wY wX bG AK yK tF tE nh jm bP cw bo dF cf sx at h;exact type_of% h):=Mj k A n c w
def ProtAt(w:World)(B:Nat)(p:Addr)(k:Int):Prop:=p.block<B/\∃x:PV,∀i v,[Value.string x.name,.int .i64 k,.slice x.A x.n x.c,.int .i64 x.size,.bool x.path,x.tr.1][i]?=some v->w.cell? (p.add i)=some v
theorem ProtAt.below{w w':World}{B B':Nat}{p:Addr}{k:Int}(h:ProtAt w B p k)(hb:Below B w w')(hB:B<=B'):ProtAt w' B' p k:=by
 obtain⟨h1,x,h2⟩:=h
 exact⟨by omega,x,fun i v hi=>by rw[cg hb (by rw[aL];exact h1)];exact h2 i v hi⟩
def Ix(b:UInt8):Value:=.int .u8 (b.toNat:Int)
theorem qz(l:List Int)(r:ByteArray):(l.foldl (fun r n=>r.push (UInt8.ofNat n.toNat)) r).data=r.data++(l.map fun n=>UInt8.ofNat n.toNat).toArray:=by
 induction l generalizing r with
 |nil=>simp
 |cons a l ih=>rw[List.foldl_cons,ih];simp[ByteArray.push]
theorem tQ(l:List UInt8):bytesOf (List.map aM (l.map Ix))=⟨l.toArray⟩:=by
 have h:=qz (List.map aM (l.map Ix)) ByteArray.empty
 have h2:(bytesOf (List.map aM (l.map Ix))).data=l.toArray:=by
  unfold bytesOf
  rw[h]
  simp[Ix,aM,Function.comp_def]
 cases hb:bytesOf (List.map aM (l.map Ix)) with
 |mk d=>rw[hb]at h2;simp at h2;rw[h2]
theorem tN(l:List UInt8):ci (l.map Ix):=by
 intro v hv
 simp only[List.mem_map]at hv
 obtain⟨b,_,rfl⟩:=hv
 exact⟨b,rfl⟩
theorem _root_.Go.Rx.Bts.vals{w:World}{B:Nat}{A:Option Addr}{n:Nat}{l:List UInt8}(h:Bts w B A n l):valsAt w A n=l.map Ix:=h.valsAt
theorem xB{need old:Nat}(h:¬need<=old)(hb:need<=2^47):Builtin.nextslicecap need old*1<=281474976710656:=by
 have:=nextslicecap_le (show old<need by omega)
 omega
theorem bj:i64.max=9223372036854775807:=by decide
theorem ak{Γ:Ctx}{p:Prop}[Decidable p]{t f:T}(h1:p->t.holds Γ)(h2:¬p->f.holds Γ):(T.split (decide p) t f).holds Γ:=
 ae (fun h=>h1 (of_decide_eq_true h)) (fun h=>h2 (of_decide_eq_false h))
end
section
open Go Go.Rx Go.RowKit
@[reducible] def aR:Hook:={ X:=ByteArray,out:=fun _ s x=>(.str x false,s.objs) }
structure IV where
 A:Option Addr
 n:Nat
 c:Nat
structure IZ where
 f:Nat
 t:Nat
 i:Nat
 j:Nat
structure IT where
 f:Nat
 t:Nat
 i:Nat
 s:ByteArray
@[reducible] def cq(v:IV):List SObj:=[.cells [.xs v.A v.n v.c] 1 148 0 0]
@[reducible] def sR:SV:=.fn (.func 242) [] [.ptr 0 0]
def Db:SE->List Nat
 | .normal=>[7,8,9,10]
 | .exit _=>[7,8,9]
 |_=>[]
def Da:SE->List Nat
 | .normal=>[7,8,9,10,11]
 | .exit _=>[7,8,9,10,11]
 |_=>[]
def Dc:SE->List Nat
 | .normal=>[7,8,9,13,14]
 | .exit _=>[13]
 |_=>[]
def xO(v:IV)(z:IZ):LoopHook:=bE 129 Nat (.exit 4) [7,8,9,10,11] (fun j=>[sR,.int .i64 z.f false,.int .i64 z.t false,.int .i64 z.i false,.int .i64 j false]) (fun _=>cq v) Unit .ret [] (fun _=>[]) (fun _=>cq v)
def GV(v:IV)(z:IZ):Hooks:={ calls:=fun _=>none,loops:=fun _ _=>some (xO v z) }
def GW:Hooks:={ calls:=fun f=>if f=241 then some aR else none,loops:=fun _ _=>none }
def jL(v:IV):LoopHook:=bE 129 (Nat×Nat) (.exit 2) [7,8,9] (fun p=>[sR,.int .i64 p.1 false,.int .i64 p.2 false]) (fun _=>cq v) Unit .ret [] (fun _=>[]) (fun _=>cq v)
def xP(v:IV):LoopHook:=bE 129 ByteArray (.exit 6) [13] (fun s=>[.str s false]) (fun _=>cq v) Unit .ret [] (fun _=>[]) (fun _=>cq v)
def K9:LoopHook:=cl 129 Unit .ret [] (fun _=>[]) Unit (.exit 0) [] (fun _=>[])
def Jl(v:IV):Hooks:={ calls:=fun f=>if f=206 then some bn else if f=241∨f=215 then some aR else none,loops:=fun _ k=>if k=19 then some (jL v) else if k=29 then some (xP v) else some K9 }
noncomputable abbrev kI(z:IZ):Int:=(i64.wrap ((2:Int)*(↑z.j:Int))+(1:Int))
noncomputable abbrev aU(v:IV)(w:World)(bs:List Nat):SS:=(SS.mk [(.cells [(.xs v.A v.n v.c)] 1 148 0 0)] [] true w bs)
noncomputable abbrev vR(z:IZ)(v:IV)(w:World)(bs:List Nat):T:=(.leaf (.exit 4) [(.fn (.func 242) [] [(.ptr 0 0)]),(.int .i64 ((↑z.f:Int)) false),(.int .i64 ((↑z.t:Int)) false),(.int .i64 ((↑z.i:Int)) false),(.int .i64 ((↑z.j:Int)) false)] (aU v w bs))
theorem H8(v:IV)(z:IZ)(w:World)(bs:List Nat)(g:Nat->Value):aO Tryz.prog ar 1000 207 (av Tryz.prog 207 22) (ay ((Da .normal).zip [sR,.int .i64 z.f false,.int .i64 z.t false,.int .i64 z.i false,.int .i64 z.j false]) g 129 0) (fun e a s=>.leaf e (fG Da e a) s) (SS.mk (cq v) [] true w bs) =
(.split (decide ((↑z.j:Int)<(8:Int))) (.need ((0:Int)<=i64.wrap ((2:Int)*(↑z.j:Int))/\i64.wrap ((2:Int)*(↑z.j:Int))<(↑v.n:Int)) (.need (v.A.isSome=true) (.need (canRead w bs ((v.A.getD default).add ((i64.wrap ((2:Int)*(↑z.j:Int))).toNat*1)) [SV.int u8 (aj w (((v.A.getD default).add ((i64.wrap ((2:Int)*(↑z.j:Int))).toNat*1)).add 0)) false]) (.need ((0:Int)<=i64.wrap (kI z)/\i64.wrap (kI z)<(↑v.n:Int)) (.need (v.A.isSome=true) (.need (canRead w bs ((v.A.getD default).add ((i64.wrap (kI z)).toNat*1)) [SV.int u8 (aj w (((v.A.getD default).add ((i64.wrap (kI z)).toNat*1)).add 0)) false]) (.split (i64.wrap (↑(BitVec.ofInt 64 (i64.wrap (i64.wrap (aj w (((v.A.getD default).add ((i64.wrap ((2:Int)*(↑z.j:Int))).toNat*1)).add 0))*(2:Int)^8)) |||BitVec.ofInt 64 (i64.wrap (aj w (((v.A.getD default).add ((i64.wrap (kI z)).toNat*1)).add 0)))).toNat:Int) == (0:Int)) (.leaf .normal [(.fn (.func 242) [] [(.ptr 0 0)]),(.int .i64 ((↑z.f:Int)) false),(.int .i64 ((↑z.t:Int)) false),(.int .i64 ((↑z.i:Int)) false),(.int .i64 (i64.wrap ((↑z.j:Int)+(1:Int))) false)] (aU v w bs)) (vR z v w bs)))))))) (vR z v w bs)):=by kernel_rfl
theorem Oc(v:IV)(z:IZ)(w:World)(bs:List Nat)(g:Nat->Value):(by have h:=H8 v z w bs g;unfold vR aU kI at h;exact type_of% h):=H8 v z w bs g
noncomputable abbrev vY(g:Nat->Value)(z:IZ):List SV:=[(.raw (g 0)),(.raw (g 1)),(.raw (g 2)),(.raw (g 3)),(.raw (g 4)),(.raw (g 5)),(.raw (g 6)),(.fn (.func 242) [] [(.ptr 0 0)]),(.int .i64 ((↑z.f:Int)) false),(.int .i64 ((↑z.t:Int)) false),(.int .i64 ((↑z.i:Int)) false),(.int .i64 ((↑z.i:Int)) false),(.raw (g 12)),(.raw (g 13)),(.raw (g 14)),(.raw (g 15)),(.raw (g 16)),(.raw (g 17)),(.raw (g 18)),(.raw (g 19)),(.raw (g 20)),(.raw (g 21)),(.raw (g 22)),(.raw (g 23)),(.raw (g 24)),(.raw (g 25)),(.raw (g 26)),(.raw (g 27)),(.raw (g 28)),(.raw (g 29)),(.raw (g 30)),(.raw (g 31)),(.raw (g 32)),(.raw (g 33)),(.raw (g 34)),(.raw (g 35)),(.raw (g 36)),(.raw (g 37)),(.raw (g 38)),(.raw (g 39)),(.raw (g 40)),(.raw (g 41)),(.raw (g 42)),(.raw (g 43)),(.raw (g 44)),(.raw (g 45)),(.raw (g 46)),(.raw (g 47)),(.raw (g 48)),(.raw (g 49)),(.raw (g 50)),(.raw (g 51)),(.raw (g 52)),(.raw (g 53)),(.raw (g 54)),(.raw (g 55)),(.raw (g 56)),(.raw (g 57)),(.raw (g 58)),(.raw (g 59)),(.raw (g 60)),(.raw (g 61)),(.raw (g 62)),(.raw (g 63)),(.raw (g 64)),(.raw (g 65)),(.raw (g 66)),(.raw (g 67)),(.raw (g 68)),(.raw (g 69)),(.raw (g 70)),(.raw (g 71)),(.raw (g 72)),(.raw (g 73)),(.raw (g 74)),(.raw (g 75)),(.raw (g 76)),(.int .i64 ((↑z.i:Int)) false),(.bool true true),(.raw (g 79)),(.raw (g 80)),(.int .i64 ((↑z.i:Int)) false),(.raw (g 82)),(.raw (g 83)),(.raw (g 84)),(.raw (g 85)),(.raw (g 86)),(.raw (g 87)),(.raw (g 88)),(.raw (g 89)),(.raw (g 90)),(.raw (g 91)),(.raw (g 92)),(.raw (g 93)),(.raw (g 94)),(.raw (g 95)),(.raw (g 96)),(.raw (g 97)),(.raw (g 98)),(.raw (g 99)),(.raw (g 100)),(.raw (g 101)),(.raw (g 102)),(.raw (g 103)),(.raw (g 104)),(.raw (g 105)),(.raw (g 106)),(.raw (g 107)),(.raw (g 108)),(.raw (g 109)),(.raw (g 110)),(.raw (g 111)),(.raw (g 112)),(.raw (g 113)),(.raw (g 114)),(.raw (g 115)),(.raw (g 116)),(.raw (g 117)),(.raw (g 118)),(.raw (g 119)),(.raw (g 120)),(.raw (g 121)),(.raw (g 122)),(.raw (g 123)),(.raw (g 124)),(.raw (g 125)),(.raw (g 126)),(.raw (g 127)),(.raw (g 128))]
noncomputable abbrev vT(z:IZ)(v:IV)(w0:World)(b0:List Nat):T:=(.leaf .normal [(.fn (.func 242) [] [(.ptr 0 0)]),(.int .i64 ((↑z.f:Int)) false),(.int .i64 ((↑z.t:Int)) false),(.int .i64 (i64.wrap ((↑z.i:Int)+(1:Int))) false)] (aU v w0 b0))
theorem H9(v:IV)(z:IZ)(w:World)(bs:List Nat)(g:Nat->Value):aO Tryz.prog (GV v z) 1000 207 (av Tryz.prog 207 19) (ay ((Db .normal).zip [sR,.int .i64 z.f false,.int .i64 z.t false,.int .i64 z.i false]) g 129 0) (fun e a s=>.leaf e (fG Db e a) s) (SS.mk (cq v) [] true w bs) =
(.split (decide ((↑z.i:Int)<(8:Int))) (.loop 207 (av Tryz.prog 207 22) (vY g z) (aU v w bs) (LoopHook.X (xO v z)) (LoopHook.out (xO v z) (vY g z) (aU v w bs)) (fun x0 w0 b0=>(.split (decide (i64.wrap ((↑x0.fst:Int)-(↑z.i:Int)) ≥ (2:Int))) (.split (decide (i64.wrap ((↑x0.fst:Int)-(↑z.i:Int)) > i64.wrap ((↑z.t:Int)-(↑z.f:Int)))) (.leaf .normal [(.fn (.func 242) [] [(.ptr 0 0)]),(.int .i64 ((↑z.i:Int)) false),(.int .i64 ((↑x0.fst:Int)) false),(.int .i64 (i64.wrap ((↑z.i:Int)+(1:Int))) false)] (aU v w0 b0)) (vT z v w0 b0)) (vT z v w0 b0))) (LoopHook.Y (xO v z)) (LoopHook.out' (xO v z) (vY g z) (aU v w bs)) (fun x0 w0 b0=>(.leaf .ret [] (aU v w0 b0)))) (.leaf (.exit 2) [(.fn (.func 242) [] [(.ptr 0 0)]),(.int .i64 ((↑z.f:Int)) false),(.int .i64 ((↑z.t:Int)) false)] (aU v w bs))):=by kernel_rfl
theorem Od(v:IV)(z:IZ)(w:World)(bs:List Nat)(g:Nat->Value):(by have h:=H9 v z w bs g;unfold vT aU vY at h;exact type_of% h):=H9 v z w bs g
noncomputable abbrev gN(z:IT):Int:=(i64.wrap ((2:Int)*(↑z.i:Int))+(1:Int))
noncomputable abbrev AA(w:World)(v:IV)(z:IT):SV:=(.int .i64 (i64.wrap (↑(BitVec.ofInt 64 (i64.wrap (i64.wrap (aj w (((v.A.getD default).add ((i64.wrap ((2:Int)*(↑z.i:Int))).toNat*1)).add 0))*(2:Int)^8)) |||BitVec.ofInt 64 (i64.wrap (aj w (((v.A.getD default).add ((i64.wrap (gN z)).toNat*1)).add 0)))).toNat:Int)) false)
noncomputable abbrev kJ(z:IT):Int:=(i64.wrap ((2:Int)*(↑z.t:Int))+(1:Int))
noncomputable abbrev FB(w:World)(v:IV)(z:IT):SV:=(.int .i64 (i64.wrap (↑(BitVec.ofInt 64 (i64.wrap (i64.wrap (aj w (((v.A.getD default).add ((i64.wrap ((2:Int)*(↑z.t:Int))).toNat*1)).add 0))*(2:Int)^8)) |||BitVec.ofInt 64 (i64.wrap (aj w (((v.A.getD default).add ((i64.wrap (kJ z)).toNat*1)).add 0)))).toNat:Int)) false)
noncomputable abbrev AB(w:World)(bs:List Nat)(v:IV)(z:IT):Prop:=(canRead w bs ((v.A.getD default).add ((i64.wrap (gN z)).toNat*1)) [SV.int u8 (aj w (((v.A.getD default).add ((i64.wrap (gN z)).toNat*1)).add 0)) false])
noncomputable abbrev vV(w:World)(bs:List Nat)(v:IV)(z:IT):Prop:=(canRead w bs ((v.A.getD default).add ((i64.wrap ((2:Int)*(↑z.i:Int))).toNat*1)) [SV.int u8 (aj w (((v.A.getD default).add ((i64.wrap ((2:Int)*(↑z.i:Int))).toNat*1)).add 0)) false])
noncomputable abbrev vW(z:IT)(v:IV):Prop:=((0:Int)<=i64.wrap ((2:Int)*(↑z.i:Int))/\i64.wrap ((2:Int)*(↑z.i:Int))<(↑v.n:Int))
theorem Ia(v:IV)(z:IT)(w:World)(bs:List Nat)(g:Nat->Value):aO Tryz.prog GW 1000 207 (av Tryz.prog 207 29) (ay ((Dc .normal).zip [sR,.int .i64 z.f false,.int .i64 z.t false,.str z.s false,.int .i64 z.i false]) g 129 0) (fun e a s=>.leaf e (fG Dc e a) s) (SS.mk (cq v) [] true w bs) =
(.split (decide ((↑z.i:Int)<(8:Int))) (.split ((↑z.i:Int) == (↑z.f:Int)) (.need ((↑(z.s.size+2):Int)<=i64.max) (.split (decide ((↑z.t:Int) ≥ (8:Int))) (.leaf (.exit 6) [(.str (z.s++ByteArray.mk #[(58:UInt8),(58:UInt8)]) false)] (aU v w bs)) (.need ((0:Int)<=i64.wrap ((2:Int)*(↑z.t:Int))/\i64.wrap ((2:Int)*(↑z.t:Int))<(↑v.n:Int)) (.need (v.A.isSome=true) (.need (canRead w bs ((v.A.getD default).add ((i64.wrap ((2:Int)*(↑z.t:Int))).toNat*1)) [SV.int u8 (aj w (((v.A.getD default).add ((i64.wrap ((2:Int)*(↑z.t:Int))).toNat*1)).add 0)) false]) (.need ((0:Int)<=i64.wrap (kJ z)/\i64.wrap (kJ z)<(↑v.n:Int)) (.need (v.A.isSome=true) (.need (canRead w bs ((v.A.getD default).add ((i64.wrap (kJ z)).toNat*1)) [SV.int u8 (aj w (((v.A.getD default).add ((i64.wrap (kJ z)).toNat*1)).add 0)) false]) (.hc 241 [(FB w v z)] (aU v w bs) (aR) fun x0 w0 b0=>(.need ((↑((z.s++ByteArray.mk #[(58:UInt8),(58:UInt8)]).size+ByteArray.size x0):Int)<=i64.max) (.leaf .normal [(.fn (.func 242) [] [(.ptr 0 0)]),(.int .i64 ((↑z.f:Int)) false),(.int .i64 ((↑z.t:Int)) false),(.str (z.s++ByteArray.mk #[(58:UInt8),(58:UInt8)]++x0) false),(.int .i64 (i64.wrap ((↑z.t:Int)+(1:Int))) false)] (aU v w0 b0)))))))))))) (.split (decide ((↑z.i:Int) > (0:Int))) (.need ((↑(z.s.size+1):Int)<=i64.max) (.need (vW z v) (.need (v.A.isSome=true) (.need (vV w bs v z) (.need ((0:Int)<=i64.wrap (gN z)/\i64.wrap (gN z)<(↑v.n:Int)) (.need (v.A.isSome=true) (.need (AB w bs v z) (.hc 241 [(AA w v z)] (aU v w bs) (aR) fun x0 w0 b0=>(.need ((↑((z.s++ByteArray.mk #[(58:UInt8)]).size+ByteArray.size x0):Int)<=i64.max) (.leaf .normal [(.fn (.func 242) [] [(.ptr 0 0)]),(.int .i64 ((↑z.f:Int)) false),(.int .i64 ((↑z.t:Int)) false),(.str (z.s++ByteArray.mk #[(58:UInt8)]++x0) false),(.int .i64 (i64.wrap ((↑z.i:Int)+(1:Int))) false)] (aU v w0 b0))))))))))) (.need (vW z v) (.need (v.A.isSome=true) (.need (vV w bs v z) (.need ((0:Int)<=i64.wrap (gN z)/\i64.wrap (gN z)<(↑v.n:Int)) (.need (v.A.isSome=true) (.need (AB w bs v z) (.hc 241 [(AA w v z)] (aU v w bs) (aR) fun x0 w0 b0=>(.need ((↑(z.s.size+ByteArray.size x0):Int)<=i64.max) (.leaf .normal [(.fn (.func 242) [] [(.ptr 0 0)]),(.int .i64 ((↑z.f:Int)) false),(.int .i64 ((↑z.t:Int)) false),(.str (z.s++x0) false),(.int .i64 (i64.wrap ((↑z.i:Int)+(1:Int))) false)] (aU v w0 b0)))))))))))) (.leaf (.exit 6) [(.str z.s false)] (aU v w bs))):=by kernel_rfl
theorem Oe(v:IV)(z:IT)(w:World)(bs:List Nat)(g:Nat->Value):(by have h:=Ia v z w bs g;unfold vW vV aU AB FB kJ AA gN at h;exact type_of% h):=Ia v z w bs g
noncomputable abbrev vQ(v:IV)(x1:(LoopHook.X (jL v))):List SV:=[(.raw (x1.snd 0)),(.raw (x1.snd 1)),(.raw (x1.snd 2)),(.raw (x1.snd 3)),(.raw (x1.snd 4)),(.raw (x1.snd 5)),(.raw (x1.snd 6)),(.fn (.func 242) [] [(.ptr 0 0)]),(.int .i64 ((↑x1.fst.fst:Int)) false),(.int .i64 ((↑x1.fst.snd:Int)) false),(.raw (x1.snd 10)),(.raw (x1.snd 11)),(.raw (x1.snd 12)),(.str (ByteArray.mk #[]) true),(.int .i64 0 true),(.raw (x1.snd 15)),(.raw (x1.snd 16)),(.raw (x1.snd 17)),(.raw (x1.snd 18)),(.raw (x1.snd 19)),(.raw (x1.snd 20)),(.raw (x1.snd 21)),(.raw (x1.snd 22)),(.raw (x1.snd 23)),(.raw (x1.snd 24)),(.raw (x1.snd 25)),(.raw (x1.snd 26)),(.raw (x1.snd 27)),(.raw (x1.snd 28)),(.raw (x1.snd 29)),(.raw (x1.snd 30)),(.raw (x1.snd 31)),(.raw (x1.snd 32)),(.raw (x1.snd 33)),(.raw (x1.snd 34)),(.raw (x1.snd 35)),(.raw (x1.snd 36)),(.raw (x1.snd 37)),(.raw (x1.snd 38)),(.raw (x1.snd 39)),(.raw (x1.snd 40)),(.raw (x1.snd 41)),(.raw (x1.snd 42)),(.raw (x1.snd 43)),(.raw (x1.snd 44)),(.raw (x1.snd 45)),(.raw (x1.snd 46)),(.raw (x1.snd 47)),(.raw (x1.snd 48)),(.raw (x1.snd 49)),(.raw (x1.snd 50)),(.raw (x1.snd 51)),(.raw (x1.snd 52)),(.raw (x1.snd 53)),(.raw (x1.snd 54)),(.raw (x1.snd 55)),(.raw (x1.snd 56)),(.raw (x1.snd 57)),(.raw (x1.snd 58)),(.raw (x1.snd 59)),(.raw (x1.snd 60)),(.raw (x1.snd 61)),(.raw (x1.snd 62)),(.raw (x1.snd 63)),(.raw (x1.snd 64)),(.raw (x1.snd 65)),(.raw (x1.snd 66)),(.raw (x1.snd 67)),(.raw (x1.snd 68)),(.raw (x1.snd 69)),(.raw (x1.snd 70)),(.raw (x1.snd 71)),(.raw (x1.snd 72)),(.raw (x1.snd 73)),(.raw (x1.snd 74)),(.raw (x1.snd 75)),(.raw (x1.snd 76)),(.raw (x1.snd 77)),(.raw (x1.snd 78)),(.raw (x1.snd 79)),(.raw (x1.snd 80)),(.raw (x1.snd 81)),(.raw (x1.snd 82)),(.raw (x1.snd 83)),(.raw (x1.snd 84)),(.raw (x1.snd 85)),(.raw (x1.snd 86)),(.raw (x1.snd 87)),(.raw (x1.snd 88)),(.raw (x1.snd 89)),(.raw (x1.snd 90)),(.raw (x1.snd 91)),(.raw (x1.snd 92)),(.raw (x1.snd 93)),(.raw (x1.snd 94)),(.raw (x1.snd 95)),(.raw (x1.snd 96)),(.raw (x1.snd 97)),(.raw (x1.snd 98)),(.raw (x1.snd 99)),(.raw (x1.snd 100)),(.raw (x1.snd 101)),(.raw (x1.snd 102)),(.raw (x1.snd 103)),(.raw (x1.snd 104)),(.raw (x1.snd 105)),(.raw (x1.snd 106)),(.raw (x1.snd 107)),(.raw (x1.snd 108)),(.raw (x1.snd 109)),(.raw (x1.snd 110)),(.raw (x1.snd 111)),(.raw (x1.snd 112)),(.raw (x1.snd 113)),(.raw (x1.snd 114)),(.raw (x1.snd 115)),(.raw (x1.snd 116)),(.raw (x1.snd 117)),(.raw (x1.snd 118)),(.raw (x1.snd 119)),(.raw (x1.snd 120)),(.raw (x1.snd 121)),(.raw (x1.snd 122)),(.raw (x1.snd 123)),(.raw (x1.snd 124)),(.raw (x1.snd 125)),(.raw (x1.snd 126)),(.raw (x1.snd 127)),(.raw (x1.snd 128))]
noncomputable abbrev m9(w0:World)(b0:List Nat)(x0:(Hook.X (bn))):Prop:=(canRead w0 b0 ((x0.A.getD default).add 3) [SV.int u8 (aj w0 (((x0.A.getD default).add 3).add 0)) false])
noncomputable abbrev qh(w0:World)(b0:List Nat)(x0:(Hook.X (bn))):Prop:=(canRead w0 b0 ((x0.A.getD default).add 2) [SV.int u8 (aj w0 (((x0.A.getD default).add 2).add 0)) false])
noncomputable abbrev qi(w1:World)(x0:(Hook.X (bn)))(w0:World):Prop:=(aj w1 (((x0.A.getD default).add 3).add 0)=aj w0 (((x0.A.getD default).add 3).add 0))
noncomputable abbrev Az(x0:(Hook.X (bn)))(w0:World)(b0:List Nat)(v:IV):T:=(.need ((0:Int)<=(0:Int)/\(0:Int)<(↑x0.k:Int)) (.need (x0.A.isSome=true) (.need (canRead w0 b0 ((x0.A.getD default).add 0) [SV.int u8 (aj w0 (((x0.A.getD default).add 0).add 0)) false]) (.need ((0:Int)<=(1:Int)/\(1:Int)<(↑x0.k:Int)) (.need (x0.A.isSome=true) (.need (canRead w0 b0 ((x0.A.getD default).add 1) [SV.int u8 (aj w0 (((x0.A.getD default).add 1).add 0)) false]) (.need ((0:Int)<=(2:Int)/\(2:Int)<(↑x0.k:Int)) (.need (x0.A.isSome=true) (.need (qh w0 b0 x0) (.need ((0:Int)<=(3:Int)/\(3:Int)<(↑x0.k:Int)) (.need (x0.A.isSome=true) (.need (m9 w0 b0 x0) (.hc 215 [(.int .i64 (i64.wrap (aj w0 (((x0.A.getD default).add 0).add 0))) false)] (aU v w0 b0) (aR) fun x1 w1 b1=>(.need (m9 w1 b1 x0) (.need (qi w1 x0 w0) (.need (qh w1 b1 x0) (.need (aj w1 (((x0.A.getD default).add 2).add 0)=aj w0 (((x0.A.getD default).add 2).add 0)) (.need (canRead w1 b1 ((x0.A.getD default).add 1) [SV.int u8 (aj w1 (((x0.A.getD default).add 1).add 0)) false]) (.need (aj w1 (((x0.A.getD default).add 1).add 0)=aj w0 (((x0.A.getD default).add 1).add 0)) (.need ((↑(ByteArray.size x1+1):Int)<=i64.max) (.hc 215 [(.int .i64 (i64.wrap (aj w0 (((x0.A.getD default).add 1).add 0))) false)] (aU v w1 b1) (aR) fun x2 w2 b2=>(.need (m9 w2 b2 x0) (.need (qi w2 x0 w0) (.need (qh w2 b2 x0) (.need (aj w2 (((x0.A.getD default).add 2).add 0)=aj w0 (((x0.A.getD default).add 2).add 0)) (.need ((↑((x1++ByteArray.mk #[(46:UInt8)]).size+ByteArray.size x2):Int)<=i64.max) (.need ((↑((x1++ByteArray.mk #[(46:UInt8)]++x2).size+1):Int)<=i64.max) (.hc 215 [(.int .i64 (i64.wrap (aj w0 (((x0.A.getD default).add 2).add 0))) false)] (aU v w2 b2) (aR) fun x3 w3 b3=>(.need (m9 w3 b3 x0) (.need (qi w3 x0 w0) (.need ((↑((x1++ByteArray.mk #[(46:UInt8)]++x2++ByteArray.mk #[(46:UInt8)]).size+ByteArray.size x3):Int)<=i64.max) (.need ((↑((x1++ByteArray.mk #[(46:UInt8)]++x2++ByteArray.mk #[(46:UInt8)]++x3).size+1):Int)<=i64.max) (.hc 215 [(.int .i64 (i64.wrap (aj w0 (((x0.A.getD default).add 3).add 0))) false)] (aU v w3 b3) (aR) fun x4 w4 b4=>(.need ((↑((x1++ByteArray.mk #[(46:UInt8)]++x2++ByteArray.mk #[(46:UInt8)]++x3++ByteArray.mk #[(46:UInt8)]).size+ByteArray.size x4):Int)<=i64.max) (.leaf .ret [(.str (x1++ByteArray.mk #[(46:UInt8)]++x2++ByteArray.mk #[(46:UInt8)]++x3++ByteArray.mk #[(46:UInt8)]++x4) false)] (aU v w4 b4))))))))))))))))))))))))))))))))))))
noncomputable abbrev v8(v:IV)(x0:(Hook.X (bn))):List SV:=([(.xs v.A v.n v.c),(.ptr 0 0),(.str (ByteArray.mk #[]) true),(.tup []),(.tup []),(.tup []),(.xs x0.A x0.k x0.c),(.fn (.func 242) [] [(.ptr 0 0)]),(.int .i64 255 true),(.int .i64 255 true),(.int .i64 0 true),(.tup []),(.tup []),(.tup []),(.tup []),(.xs v.A v.n v.c),(.int .i64 ((↑v.n:Int)) false),(.bool false true),(.xs v.A v.n v.c),(.int .i64 ((↑v.n:Int)) false),(.bool ((↑v.n:Int) != (4:Int)) false),(.bool true true),(.xs v.A v.n v.c),(.int .i64 ((↑v.n:Int)) false),(.bool ((↑v.n:Int) != (16:Int)) false),(.bool false true),(.tup []),(.tup []),(.tup []),(.tup []),(.tup []),(.tup []),(.tup []),(.tup []),(.tup []),(.tup []),(.tup []),(.tup []),(.tup []),(.tup []),(.tup []),(.tup []),(.tup []),(.tup []),(.tup []),(.tup []),(.xs v.A v.n v.c),(.xs x0.A x0.k x0.c),(.xs x0.A x0.k x0.c),(.bool false true),(.tup []),(.tup []),(.tup []),(.tup []),(.tup []),(.tup []),(.tup []),(.tup []),(.tup []),(.tup []),(.tup []),(.tup []),(.tup []),(.tup []),(.tup []),(.tup []),(.tup []),(.tup []),(.tup []),(.tup []),(.tup []),(.tup []),(.tup []),(.tup []),(.tup []),(.tup []),(.fn (.func 242) [] [(.ptr 0 0)])]++List.replicate 52 az)
noncomputable abbrev wb(v:IV)(x0:(Hook.X (bn))):List SV:=([(.xs v.A v.n v.c),(.ptr 0 0),(.str (ByteArray.mk #[]) true),(.tup []),(.tup []),(.tup []),(.xs x0.A x0.k x0.c),(.fn (.func 242) [] [(.ptr 0 0)]),(.int .i64 255 true),(.int .i64 255 true),(.int .i64 0 true),(.tup []),(.tup []),(.tup []),(.tup []),(.xs v.A v.n v.c),(.int .i64 ((↑v.n:Int)) false),(.bool false true),(.xs v.A v.n v.c),(.int .i64 ((↑v.n:Int)) false),(.bool ((↑v.n:Int) != (4:Int)) false),(.bool false true),(.tup []),(.tup []),(.tup []),(.bool false true),(.tup []),(.tup []),(.tup []),(.tup []),(.tup []),(.tup []),(.tup []),(.tup []),(.tup []),(.tup []),(.tup []),(.tup []),(.tup []),(.tup []),(.tup []),(.tup []),(.tup []),(.tup []),(.tup []),(.tup []),(.xs v.A v.n v.c),(.xs x0.A x0.k x0.c),(.xs x0.A x0.k x0.c),(.bool false true),(.tup []),(.tup []),(.tup []),(.tup []),(.tup []),(.tup []),(.tup []),(.tup []),(.tup []),(.tup []),(.tup []),(.tup []),(.tup []),(.tup []),(.tup []),(.tup []),(.tup []),(.tup []),(.tup []),(.tup []),(.tup []),(.tup []),(.tup []),(.tup []),(.tup []),(.tup []),(.fn (.func 242) [] [(.ptr 0 0)])]++List.replicate 52 az)
noncomputable abbrev wg(v:IV):List SV:=([(.xs v.A v.n v.c),(.ptr 0 0),(.str (ByteArray.mk #[]) true),(.str (ByteArray.mk #[63]) true),(.tup []),(.tup []),(.tup []),(.tup []),(.tup []),(.tup []),(.tup []),(.tup []),(.tup []),(.tup []),(.tup []),(.xs v.A v.n v.c),(.int .i64 ((↑v.n:Int)) false),(.bool false true),(.xs v.A v.n v.c),(.int .i64 ((↑v.n:Int)) false),(.bool ((↑v.n:Int) != (4:Int)) false),(.bool true true),(.xs v.A v.n v.c),(.int .i64 ((↑v.n:Int)) false),(.bool ((↑v.n:Int) != (16:Int)) false),(.bool true true),(.xs v.A v.n v.c),(.int .i64 ((↑v.n:Int)) false),(.int .i64 0 true)]++List.replicate 100 az)
noncomputable abbrev iZ(v:IV)(w:World):SS:=(SS.mk [(.cells [(.xs v.A v.n v.c)] 1 148 0 0)] [] true w [])
noncomputable abbrev vX(v:IV)(x1:(LoopHook.X (jL v)))(w1:World)(b1:List Nat):T:=(.loop 207 (av Tryz.prog 207 29) (vQ v x1) (aU v w1 b1) (LoopHook.X (xP v)) (LoopHook.out (xP v) (vQ v x1) (aU v w1 b1)) (fun x2 w2 b2=>(.leaf .ret [(.str x2.fst false)] (aU v w2 b2))) (LoopHook.Y (xP v)) (LoopHook.out' (xP v) (vQ v x1) (aU v w1 b1)) (fun x2 w2 b2=>(.leaf .ret [(.raw (x2.snd 2))] (aU v w2 b2))))
theorem Mn(v:IV)(w:World):al Tryz.prog (Jl v) 500 207 [.xs v.A v.n v.c] (SS.mk [] [] true w []) =
(.split ((↑v.n:Int) == (0:Int)) (.leaf .ret [(.str (ByteArray.mk #[60,110,105,108,62]) true)] (iZ v w)) (.split ((↑v.n:Int) != (4:Int)) (.split ((↑v.n:Int) != (16:Int)) (.loop 207 (av Tryz.prog 207 7) (wg v) (iZ v w) (LoopHook.X (K9)) (LoopHook.out (K9) (wg v) (iZ v w)) (fun x0 w0 b0=>(.leaf .ret [(.raw (x0.snd 2))] (aU v w0 b0))) (LoopHook.Y (K9)) (LoopHook.out' (K9) (wg v) (iZ v w)) (fun x0 w0 b0=>(.leaf .ret [(.raw (x0.snd 3))] (aU v w0 b0)))) (.hc 206 [(.xs v.A v.n v.c)] (iZ v w) (bn) fun x0 w0 b0=>(.split (!x0.A.isNone) (Az x0 w0 b0 v) (.loop 207 (av Tryz.prog 207 19) (v8 v x0) (aU v w0 b0) (LoopHook.X (jL v)) (LoopHook.out (jL v) (v8 v x0) (aU v w0 b0)) (fun x1 w1 b1=>(vX v x1 w1 b1)) (LoopHook.Y (jL v)) (LoopHook.out' (jL v) (v8 v x0) (aU v w0 b0)) (fun x1 w1 b1=>(.leaf .ret [(.raw (x1.snd 2))] (aU v w1 b1))))))) (.hc 206 [(.xs v.A v.n v.c)] (iZ v w) (bn) fun x0 w0 b0=>(.split (!x0.A.isNone) (Az x0 w0 b0 v) (.loop 207 (av Tryz.prog 207 19) (wb v x0) (aU v w0 b0) (LoopHook.X (jL v)) (LoopHook.out (jL v) (wb v x0) (aU v w0 b0)) (fun x1 w1 b1=>(vX v x1 w1 b1)) (LoopHook.Y (jL v)) (LoopHook.out' (jL v) (wb v x0) (aU v w0 b0)) (fun x1 w1 b1=>(.leaf .ret [(.raw (x1.snd 2))] (aU v w1 b1)))))))):=by kernel_rfl
theorem Pm(v:IV)(w:World):(by have h:=Mn v w;unfold vX iZ wg wb v8 Az qi qh m9 aU vQ at h;exact type_of% h):=Mn v w
end
end Go.Proofs.YtnklanajebphpaaGreatDoor
