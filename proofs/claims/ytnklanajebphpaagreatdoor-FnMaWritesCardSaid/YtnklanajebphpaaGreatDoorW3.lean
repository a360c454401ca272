/- Joined texts: M1 M6 M2 M3 M7 M8 M26. -/
import Derived.Test.YtnklanajebphpaaGreatDoorW2
import Derived.Test.YtnklanajebphpaaGreatDoorProg
import Derived.KernelRfl
set_option maxRecDepth 100000
set_option maxHeartbeats 4000000
set_option linter.unusedVariables false
set_option linter.unusedSimpArgs false
namespace Go.Proofs.YtnklanajebphpaaGreatDoor
open IntKind
section
open Go Go.Rx Go.RowKit
def au:Hooks:={ calls:=fun _=>none,loops:=fun _ _=>none }
def JE:SE->List Nat
 | .normal=>[0,3]
 | .ret=>[2]
 |_=>[0]
def Db(s:ByteArray):LoopHook:=bK 56 Unit .ret [2] (fun _=>[.bool false true]) Unit (.exit 0) [0] (fun _=>[.str s false])
def wV(s:ByteArray):Hooks:={ calls:=fun _=>none,loops:=fun f k=>if f=38/\k=3 then some (Db s) else none }
noncomputable abbrev AO(s:ByteArray):List SV:=([(.str s false),(.tup []),(.bool false true),(.int .i64 0 true)]++List.replicate 52 aA)
theorem LC(s:ByteArray)(w:World):am Tryz.prog (wV s) 1000 38 [.str s false] (SS.at w) =
(.loop 38 (ar Tryz.prog 38 3) (AO s) (SS.mk [] [] true w []) (LoopHook.X (Db s)) (LoopHook.out (Db s) (AO s) (SS.mk [] [] true w [])) (fun x0 w0 b0=>(.leaf .ret [(.bool false true)] (SS.mk [] [] true w0 b0))) (LoopHook.Y (Db s)) (LoopHook.out' (Db s) (AO s) (SS.mk [] [] true w [])) (fun x0 w0 b0=>(.split (decide ((↑s.size:Int) ≥ (1:Int))) (.leaf .ret [(.bool (decide ((↑s.size:Int)<=(60:Int))) false)] (SS.mk [] [] true w0 b0)) (.leaf .ret [(.bool false true)] (SS.mk [] [] true w0 b0))))):=by kernel_rfl
theorem Qf(s:ByteArray)(w:World):(by have h:=LC s w;unfold AO at h;exact type_of% h):=LC s w
noncomputable abbrev oK(s:ByteArray)(i:Nat)(w:World):T:=(.leaf .normal [(.str s false),(.int .i64 (i64.wrap ((↑i:Int)+(1:Int))) false)] (SS.mk [] [] true w []))
noncomputable abbrev iR(s:ByteArray)(i:Nat):Int:=(↑(s.data.toList.getD (↑i:Int).toNat (0:UInt8)).toNat:Int)
noncomputable abbrev EI(s:ByteArray)(i:Nat)(w:World):T:=(.split ((iR s i) != (46:Int)) (.split ((iR s i) != (45:Int)) (.split ((iR s i) != (95:Int)) (.leaf .ret [(.bool false true)] (SS.mk [] [] true w [])) (oK s i w)) (oK s i w)) (oK s i w))
noncomputable abbrev xS(s:ByteArray)(i:Nat)(w:World):T:=(.split (decide ((iR s i)<(48:Int))) (EI s i w) (.split (decide ((iR s i) > (57:Int))) (EI s i w) (oK s i w)))
theorem HI(s:ByteArray)(w:World)(i:Nat)(g:Nat->Value):aK Tryz.prog au 1000 38 (ar Tryz.prog 38 3) (az ((JE .normal).zip [.str s false,.int .i64 i false]) g 56 0) (fun e a s=>.leaf e (ep JE e a) s) (SS.at w) =
(.split (decide ((↑i:Int)<(↑s.size:Int))) (.need ((0:Int)<=(↑i:Int)/\(↑i:Int)<(↑s.size:Int)) (.split (decide ((iR s i)<(97:Int))) (.split (decide ((iR s i)<(65:Int))) (xS s i w) (.split (decide ((iR s i) > (90:Int))) (xS s i w) (oK s i w))) (.split (decide ((iR s i) > (122:Int))) (.split (decide ((iR s i)<(65:Int))) (xS s i w) (.split (decide ((iR s i) > (90:Int))) (xS s i w) (oK s i w))) (oK s i w)))) (.leaf (.exit 0) [(.str s false)] (SS.mk [] [] true w []))):=by kernel_rfl
theorem NL(s:ByteArray)(w:World)(i:Nat)(g:Nat->Value):(by have h:=HI s w i g;unfold xS EI iR oK at h;exact type_of% h):=HI s w i g
end
section
open Go Go.Rx Go.RowKit
@[reducible] def dn:Hook:={ X:=Nat,out:=fun _ s r=>(.int .i64 r false,s.objs) }
structure UX where
 x:Nat
 i:Nat
 r:Nat
 l:List Int
def wE:SE->List Nat
 | .normal=>[0,1,5]
 | .ret=>[]
 |_=>[0,1,5]
def xJ(z:UX):List SV:=[.slc 0 0 z.r z.r false false,.int .u64 z.x false,.int .i64 z.i false]
def dQ(z:UX):List SObj:=[.ints .u8 z.l 5 0 0]
def l7:LoopHook:=bv 25 UX (.exit 0) [0,1,5] xJ dQ UX .ret [] (fun _=>[]) dQ
def Fk:Hooks:={ calls:=fun f=>if f=89 then some dn else none,loops:=fun _ _=>some l7 }
def F8:Hooks:={ calls:=fun f=>if f=136 then some dn else none,loops:=fun _ _=>none }
theorem NB(n:Nat)(w:World):am Tryz.prog au 200 136 [.int .u64 n false] (SS.at w) =
 (.split (decide ((↑n:Int) ≥ (4294967296:Int)))
  (.split (decide ((↑n:Int).fdiv ((2:Int)^(32:Nat)) ≥ (65536:Int)))
  (.split (decide (((↑n:Int).fdiv ((2:Int)^(32:Nat))).fdiv ((2:Int)^(16:Nat)) ≥ (256:Int)))
   (.need ((0:Int)<=u8.wrap ((((↑n:Int).fdiv ((2:Int)^(32:Nat))).fdiv ((2:Int)^(16:Nat))).fdiv ((2:Int)^(8:Nat)))/\u8.wrap ((((↑n:Int).fdiv ((2:Int)^(32:Nat))).fdiv ((2:Int)^(16:Nat))).fdiv ((2:Int)^(8:Nat)))<(↑(256:Nat):Int))
   (.leaf .ret [(.int .i64 (i64.wrap (i64.wrap (i64.wrap ((32:Int)+(16:Int))+(8:Int))+i64.wrap (↑((([(0:UInt8),(1:UInt8),(2:UInt8),(2:UInt8),(3:UInt8),(3:UInt8),(3:UInt8),(3:UInt8),(4:UInt8),(4:UInt8),(4:UInt8),(4:UInt8),(4:UInt8),(4:UInt8),(4:UInt8),(4:UInt8),(5:UInt8),(5:UInt8),(5:UInt8),(5:UInt8),(5:UInt8),(5:UInt8),(5:UInt8),(5:UInt8),(5:UInt8),(5:UInt8),(5:UInt8),(5:UInt8),(5:UInt8),(5:UInt8),(5:UInt8),(5:UInt8),(6:UInt8),(6:UInt8),(6:UInt8),(6:UInt8),(6:UInt8),(6:UInt8),(6:UInt8),(6:UInt8),(6:UInt8),(6:UInt8),(6:UInt8),(6:UInt8),(6:UInt8),(6:UInt8),(6:UInt8),(6:UInt8),(6:UInt8),(6:UInt8),(6:UInt8),(6:UInt8),(6:UInt8),(6:UInt8),(6:UInt8),(6:UInt8),(6:UInt8),(6:UInt8),(6:UInt8),(6:UInt8),(6:UInt8),(6:UInt8),(6:UInt8),(6:UInt8)].append [(7:UInt8),(7:UInt8),(7:UInt8),(7:UInt8),(7:UInt8),(7:UInt8),(7:UInt8),(7:UInt8),(7:UInt8),(7:UInt8),(7:UInt8),(7:UInt8),(7:UInt8),(7:UInt8),(7:UInt8),(7:UInt8),(7:UInt8),(7:UInt8),(7:UInt8),(7:UInt8),(7:UInt8),(7:UInt8),(7:UInt8),(7:UInt8),(7:UInt8),(7:UInt8),(7:UInt8),(7:UInt8),(7:UInt8),(7:UInt8),(7:UInt8),(7:UInt8),(7:UInt8),(7:UInt8),(7:UInt8),(7:UInt8),(7:UInt8),(7:UInt8),(7:UInt8),(7:UInt8),(7:UInt8),(7:UInt8),(7:UInt8),(7:UInt8),(7:UInt8),(7:UInt8),(7:UInt8),(7:UInt8),(7:UInt8),(7:UInt8),(7:UInt8),(7:UInt8),(7:UInt8),(7:UInt8),(7:UInt8),(7:UInt8),(7:UInt8),(7:UInt8),(7:UInt8),(7:UInt8),(7:UInt8),(7:UInt8),(7:UInt8),(7:UInt8)]).append ([(8:UInt8),(8:UInt8),(8:UInt8),(8:UInt8),(8:UInt8),(8:UInt8),(8:UInt8),(8:UInt8),(8:UInt8),(8:UInt8),(8:UInt8),(8:UInt8),(8:UInt8),(8:UInt8),(8:UInt8),(8:UInt8),(8:UInt8),(8:UInt8),(8:UInt8),(8:UInt8),(8:UInt8),(8:UInt8),(8:UInt8),(8:UInt8),(8:UInt8),(8:UInt8),(8:UInt8),(8:UInt8),(8:UInt8),(8:UInt8),(8:UInt8),(8:UInt8),(8:UInt8),(8:UInt8),(8:UInt8),(8:UInt8),(8:UInt8),(8:UInt8),(8:UInt8),(8:UInt8),(8:UInt8),(8:UInt8),(8:UInt8),(8:UInt8),(8:UInt8),(8:UInt8),(8:UInt8),(8:UInt8),(8:UInt8),(8:UInt8),(8:UInt8),(8:UInt8),(8:UInt8),(8:UInt8),(8:UInt8),(8:UInt8),(8:UInt8),(8:UInt8),(8:UInt8),(8:UInt8),(8:UInt8),(8:UInt8),(8:UInt8),(8:UInt8)].append [(8:UInt8),(8:UInt8),(8:UInt8),(8:UInt8),(8:UInt8),(8:UInt8),(8:UInt8),(8:UInt8),(8:UInt8),(8:UInt8),(8:UInt8),(8:UInt8),(8:UInt8),(8:UInt8),(8:UInt8),(8:UInt8),(8:UInt8),(8:UInt8),(8:UInt8),(8:UInt8),(8:UInt8),(8:UInt8),(8:UInt8),(8:UInt8),(8:UInt8),(8:UInt8),(8:UInt8),(8:UInt8),(8:UInt8),(8:UInt8),(8:UInt8),(8:UInt8),(8:UInt8),(8:UInt8),(8:UInt8),(8:UInt8),(8:UInt8),(8:UInt8),(8:UInt8),(8:UInt8),(8:UInt8),(8:UInt8),(8:UInt8),(8:UInt8),(8:UInt8),(8:UInt8),(8:UInt8),(8:UInt8),(8:UInt8),(8:UInt8),(8:UInt8),(8:UInt8),(8:UInt8),(8:UInt8),(8:UInt8),(8:UInt8),(8:UInt8),(8:UInt8),(8:UInt8),(8:UInt8),(8:UInt8),(8:UInt8),(8:UInt8),(8:UInt8)])).getD (u8.wrap ((((↑n:Int).fdiv ((2:Int)^(32:Nat))).fdiv ((2:Int)^(16:Nat))).fdiv ((2:Int)^(8:Nat)))).toNat (0:UInt8)).toNat:Int))) false)] (SS.mk [] [] true w [])))
   (.need ((0:Int)<=u8.wrap (((↑n:Int).fdiv ((2:Int)^(32:Nat))).fdiv ((2:Int)^(16:Nat)))/\u8.wrap (((↑n:Int).fdiv ((2:Int)^(32:Nat))).fdiv ((2:Int)^(16:Nat)))<(↑(256:Nat):Int))
   (.leaf .ret [(.int .i64 (i64.wrap (i64.wrap ((32:Int)+(16:Int))+i64.wrap (↑((([(0:UInt8),(1:UInt8),(2:UInt8),(2:UInt8),(3:UInt8),(3:UInt8),(3:UInt8),(3:UInt8),(4:UInt8),(4:UInt8),(4:UInt8),(4:UInt8),(4:UInt8),(4:UInt8),(4:UInt8),(4:UInt8),(5:UInt8),(5:UInt8),(5:UInt8),(5:UInt8),(5:UInt8),(5:UInt8),(5:UInt8),(5:UInt8),(5:UInt8),(5:UInt8),(5:UInt8),(5:UInt8),(5:UInt8),(5:UInt8),(5:UInt8),(5:UInt8),(6:UInt8),(6:UInt8),(6:UInt8),(6:UInt8),(6:UInt8),(6:UInt8),(6:UInt8),(6:UInt8),(6:UInt8),(6:UInt8),(6:UInt8),(6:UInt8),(6:UInt8),(6:UInt8),(6:UInt8),(6:UInt8),(6:UInt8),(6:UInt8),(6:UInt8),(6:UInt8),(6:UInt8),(6:UInt8),(6:UInt8),(6:UInt8),(6:UInt8),(6:UInt8),(6:UInt8),(6:UInt8),(6:UInt8),(6:UInt8),(6:UInt8),(6:UInt8)].append [(7:UInt8),(7:UInt8),(7:UInt8),(7:UInt8),(7:UInt8),(7:UInt8),(7:UInt8),(7:UInt8),(7:UInt8),(7:UInt8),(7:UInt8),(7:UInt8),(7:UInt8),(7:UInt8),(7:UInt8),(7:UInt8),(7:UInt8),(7:UInt8),(7:UInt8),(7:UInt8),(7:UInt8),(7:UInt8),(7:UInt8),(7:UInt8),(7:UInt8),(7:UInt8),(7:UInt8),(7:UInt8),(7:UInt8),(7:UInt8),(7:UInt8),(7:UInt8),(7:UInt8),(7:UInt8),(7:UInt8),(7:UInt8),(7:UInt8),(7:UInt8),(7:UInt8),(7:UInt8),(7:UInt8),(7:UInt8),(7:UInt8),(7:UInt8),(7:UInt8),(7:UInt8),(7:UInt8),(7:UInt8),(7:UInt8),(7:UInt8),(7:UInt8),(7:UInt8),(7:UInt8),(7:UInt8),(7:UInt8),(7:UInt8),(7:UInt8),(7:UInt8),(7:UInt8),(7:UInt8),(7:UInt8),(7:UInt8),(7:UInt8),(7:UInt8)]).append ([(8:UInt8),(8:UInt8),(8:UInt8),(8:UInt8),(8:UInt8),(8:UInt8),(8:UInt8),(8:UInt8),(8:UInt8),(8:UInt8),(8:UInt8),(8:UInt8),(8:UInt8),(8:UInt8),(8:UInt8),(8:UInt8),(8:UInt8),(8:UInt8),(8:UInt8),(8:UInt8),(8:UInt8),(8:UInt8),(8:UInt8),(8:UInt8),(8:UInt8),(8:UInt8),(8:UInt8),(8:UInt8),(8:UInt8),(8:UInt8),(8:UInt8),(8:UInt8),(8:UInt8),(8:UInt8),(8:UInt8),(8:UInt8),(8:UInt8),(8:UInt8),(8:UInt8),(8:UInt8),(8:UInt8),(8:UInt8),(8:UInt8),(8:UInt8),(8:UInt8),(8:UInt8),(8:UInt8),(8:UInt8),(8:UInt8),(8:UInt8),(8:UInt8),(8:UInt8),(8:UInt8),(8:UInt8),(8:UInt8),(8:UInt8),(8:UInt8),(8:UInt8),(8:UInt8),(8:UInt8),(8:UInt8),(8:UInt8),(8:UInt8),(8:UInt8)].append [(8:UInt8),(8:UInt8),(8:UInt8),(8:UInt8),(8:UInt8),(8:UInt8),(8:UInt8),(8:UInt8),(8:UInt8),(8:UInt8),(8:UInt8),(8:UInt8),(8:UInt8),(8:UInt8),(8:UInt8),(8:UInt8),(8:UInt8),(8:UInt8),(8:UInt8),(8:UInt8),(8:UInt8),(8:UInt8),(8:UInt8),(8:UInt8),(8:UInt8),(8:UInt8),(8:UInt8),(8:UInt8),(8:UInt8),(8:UInt8),(8:UInt8),(8:UInt8),(8:UInt8),(8:UInt8),(8:UInt8),(8:UInt8),(8:UInt8),(8:UInt8),(8:UInt8),(8:UInt8),(8:UInt8),(8:UInt8),(8:UInt8),(8:UInt8),(8:UInt8),(8:UInt8),(8:UInt8),(8:UInt8),(8:UInt8),(8:UInt8),(8:UInt8),(8:UInt8),(8:UInt8),(8:UInt8),(8:UInt8),(8:UInt8),(8:UInt8),(8:UInt8),(8:UInt8),(8:UInt8),(8:UInt8),(8:UInt8),(8:UInt8),(8:UInt8)])).getD (u8.wrap (((↑n:Int).fdiv ((2:Int)^(32:Nat))).fdiv ((2:Int)^(16:Nat)))).toNat (0:UInt8)).toNat:Int))) false)] (SS.mk [] [] true w []))))
  (.split (decide ((↑n:Int).fdiv ((2:Int)^(32:Nat)) ≥ (256:Int)))
   (.need ((0:Int)<=u8.wrap (((↑n:Int).fdiv ((2:Int)^(32:Nat))).fdiv ((2:Int)^(8:Nat)))/\u8.wrap (((↑n:Int).fdiv ((2:Int)^(32:Nat))).fdiv ((2:Int)^(8:Nat)))<(↑(256:Nat):Int))
   (.leaf .ret [(.int .i64 (i64.wrap (i64.wrap ((32:Int)+(8:Int))+i64.wrap (↑((([(0:UInt8),(1:UInt8),(2:UInt8),(2:UInt8),(3:UInt8),(3:UInt8),(3:UInt8),(3:UInt8),(4:UInt8),(4:UInt8),(4:UInt8),(4:UInt8),(4:UInt8),(4:UInt8),(4:UInt8),(4:UInt8),(5:UInt8),(5:UInt8),(5:UInt8),(5:UInt8),(5:UInt8),(5:UInt8),(5:UInt8),(5:UInt8),(5:UInt8),(5:UInt8),(5:UInt8),(5:UInt8),(5:UInt8),(5:UInt8),(5:UInt8),(5:UInt8),(6:UInt8),(6:UInt8),(6:UInt8),(6:UInt8),(6:UInt8),(6:UInt8),(6:UInt8),(6:UInt8),(6:UInt8),(6:UInt8),(6:UInt8),(6:UInt8),(6:UInt8),(6:UInt8),(6:UInt8),(6:UInt8),(6:UInt8),(6:UInt8),(6:UInt8),(6:UInt8),(6:UInt8),(6:UInt8),(6:UInt8),(6:UInt8),(6:UInt8),(6:UInt8),(6:UInt8),(6:UInt8),(6:UInt8),(6:UInt8),(6:UInt8),(6:UInt8)].append [(7:UInt8),(7:UInt8),(7:UInt8),(7:UInt8),(7:UInt8),(7:UInt8),(7:UInt8),(7:UInt8),(7:UInt8),(7:UInt8),(7:UInt8),(7:UInt8),(7:UInt8),(7:UInt8),(7:UInt8),(7:UInt8),(7:UInt8),(7:UInt8),(7:UInt8),(7:UInt8),(7:UInt8),(7:UInt8),(7:UInt8),(7:UInt8),(7:UInt8),(7:UInt8),(7:UInt8),(7:UInt8),(7:UInt8),(7:UInt8),(7:UInt8),(7:UInt8),(7:UInt8),(7:UInt8),(7:UInt8),(7:UInt8),(7:UInt8),(7:UInt8),(7:UInt8),(7:UInt8),(7:UInt8),(7:UInt8),(7:UInt8),(7:UInt8),(7:UInt8),(7:UInt8),(7:UInt8),(7:UInt8),(7:UInt8),(7:UInt8),(7:UInt8),(7:UInt8),(7:UInt8),(7:UInt8),(7:UInt8),(7:UInt8),(7:UInt8),(7:UInt8),(7:UInt8),(7:UInt8),(7:UInt8),(7:UInt8),(7:UInt8),(7:UInt8)]).append ([(8:UInt8),(8:UInt8),(8:UInt8),(8:UInt8),(8:UInt8),(8:UInt8),(8:UInt8),(8:UInt8),(8:UInt8),(8:UInt8),(8:UInt8),(8:UInt8),(8:UInt8),(8:UInt8),(8:UInt8),(8:UInt8),(8:UInt8),(8:UInt8),(8:UInt8),(8:UInt8),(8:UInt8),(8:UInt8),(8:UInt8),(8:UInt8),(8:UInt8),(8:UInt8),(8:UInt8),(8:UInt8),(8:UInt8),(8:UInt8),(8:UInt8),(8:UInt8),(8:UInt8),(8:UInt8),(8:UInt8),(8:UInt8),(8:UInt8),(8:UInt8),(8:UInt8),(8:UInt8),(8:UInt8),(8:UInt8),(8:UInt8),(8:UInt8),(8:UInt8),(8:UInt8),(8:UInt8),(8:UInt8),(8:UInt8),(8:UInt8),(8:UInt8),(8:UInt8),(8:UInt8),(8:UInt8),(8:UInt8),(8:UInt8),(8:UInt8),(8:UInt8),(8:UInt8),(8:UInt8),(8:UInt8),(8:UInt8),(8:UInt8),(8:UInt8)].append [(8:UInt8),(8:UInt8),(8:UInt8),(8:UInt8),(8:UInt8),(8:UInt8),(8:UInt8),(8:UInt8),(8:UInt8),(8:UInt8),(8:UInt8),(8:UInt8),(8:UInt8),(8:UInt8),(8:UInt8),(8:UInt8),(8:UInt8),(8:UInt8),(8:UInt8),(8:UInt8),(8:UInt8),(8:UInt8),(8:UInt8),(8:UInt8),(8:UInt8),(8:UInt8),(8:UInt8),(8:UInt8),(8:UInt8),(8:UInt8),(8:UInt8),(8:UInt8),(8:UInt8),(8:UInt8),(8:UInt8),(8:UInt8),(8:UInt8),(8:UInt8),(8:UInt8),(8:UInt8),(8:UInt8),(8:UInt8),(8:UInt8),(8:UInt8),(8:UInt8),(8:UInt8),(8:UInt8),(8:UInt8),(8:UInt8),(8:UInt8),(8:UInt8),(8:UInt8),(8:UInt8),(8:UInt8),(8:UInt8),(8:UInt8),(8:UInt8),(8:UInt8),(8:UInt8),(8:UInt8),(8:UInt8),(8:UInt8),(8:UInt8),(8:UInt8)])).getD (u8.wrap (((↑n:Int).fdiv ((2:Int)^(32:Nat))).fdiv ((2:Int)^(8:Nat)))).toNat (0:UInt8)).toNat:Int))) false)] (SS.mk [] [] true w [])))
   (.need ((0:Int)<=u8.wrap ((↑n:Int).fdiv ((2:Int)^(32:Nat)))/\u8.wrap ((↑n:Int).fdiv ((2:Int)^(32:Nat)))<(↑(256:Nat):Int))
   (.leaf .ret [(.int .i64 (i64.wrap ((32:Int)+i64.wrap (↑((([(0:UInt8),(1:UInt8),(2:UInt8),(2:UInt8),(3:UInt8),(3:UInt8),(3:UInt8),(3:UInt8),(4:UInt8),(4:UInt8),(4:UInt8),(4:UInt8),(4:UInt8),(4:UInt8),(4:UInt8),(4:UInt8),(5:UInt8),(5:UInt8),(5:UInt8),(5:UInt8),(5:UInt8),(5:UInt8),(5:UInt8),(5:UInt8),(5:UInt8),(5:UInt8),(5:UInt8),(5:UInt8),(5:UInt8),(5:UInt8),(5:UInt8),(5:UInt8),(6:UInt8),(6:UInt8),(6:UInt8),(6:UInt8),(6:UInt8),(6:UInt8),(6:UInt8),(6:UInt8),(6:UInt8),(6:UInt8),(6:UInt8),(6:UInt8),(6:UInt8),(6:UInt8),(6:UInt8),(6:UInt8),(6:UInt8),(6:UInt8),(6:UInt8),(6:UInt8),(6:UInt8),(6:UInt8),(6:UInt8),(6:UInt8),(6:UInt8),(6:UInt8),(6:UInt8),(6:UInt8),(6:UInt8),(6:UInt8),(6:UInt8),(6:UInt8)].append [(7:UInt8),(7:UInt8),(7:UInt8),(7:UInt8),(7:UInt8),(7:UInt8),(7:UInt8),(7:UInt8),(7:UInt8),(7:UInt8),(7:UInt8),(7:UInt8),(7:UInt8),(7:UInt8),(7:UInt8),(7:UInt8),(7:UInt8),(7:UInt8),(7:UInt8),(7:UInt8),(7:UInt8),(7:UInt8),(7:UInt8),(7:UInt8),(7:UInt8),(7:UInt8),(7:UInt8),(7:UInt8),(7:UInt8),(7:UInt8),(7:UInt8),(7:UInt8),(7:UInt8),(7:UInt8),(7:UInt8),(7:UInt8),(7:UInt8),(7:UInt8),(7:UInt8),(7:UInt8),(7:UInt8),(7:UInt8),(7:UInt8),(7:UInt8),(7:UInt8),(7:UInt8),(7:UInt8),(7:UInt8),(7:UInt8),(7:UInt8),(7:UInt8),(7:UInt8),(7:UInt8),(7:UInt8),(7:UInt8),(7:UInt8),(7:UInt8),(7:UInt8),(7:UInt8),(7:UInt8),(7:UInt8),(7:UInt8),(7:UInt8),(7:UInt8)]).append ([(8:UInt8),(8:UInt8),(8:UInt8),(8:UInt8),(8:UInt8),(8:UInt8),(8:UInt8),(8:UInt8),(8:UInt8),(8:UInt8),(8:UInt8),(8:UInt8),(8:UInt8),(8:UInt8),(8:UInt8),(8:UInt8),(8:UInt8),(8:UInt8),(8:UInt8),(8:UInt8),(8:UInt8),(8:UInt8),(8:UInt8),(8:UInt8),(8:UInt8),(8:UInt8),(8:UInt8),(8:UInt8),(8:UInt8),(8:UInt8),(8:UInt8),(8:UInt8),(8:UInt8),(8:UInt8),(8:UInt8),(8:UInt8),(8:UInt8),(8:UInt8),(8:UInt8),(8:UInt8),(8:UInt8),(8:UInt8),(8:UInt8),(8:UInt8),(8:UInt8),(8:UInt8),(8:UInt8),(8:UInt8),(8:UInt8),(8:UInt8),(8:UInt8),(8:UInt8),(8:UInt8),(8:UInt8),(8:UInt8),(8:UInt8),(8:UInt8),(8:UInt8),(8:UInt8),(8:UInt8),(8:UInt8),(8:UInt8),(8:UInt8),(8:UInt8)].append [(8:UInt8),(8:UInt8),(8:UInt8),(8:UInt8),(8:UInt8),(8:UInt8),(8:UInt8),(8:UInt8),(8:UInt8),(8:UInt8),(8:UInt8),(8:UInt8),(8:UInt8),(8:UInt8),(8:UInt8),(8:UInt8),(8:UInt8),(8:UInt8),(8:UInt8),(8:UInt8),(8:UInt8),(8:UInt8),(8:UInt8),(8:UInt8),(8:UInt8),(8:UInt8),(8:UInt8),(8:UInt8),(8:UInt8),(8:UInt8),(8:UInt8),(8:UInt8),(8:UInt8),(8:UInt8),(8:UInt8),(8:UInt8),(8:UInt8),(8:UInt8),(8:UInt8),(8:UInt8),(8:UInt8),(8:UInt8),(8:UInt8),(8:UInt8),(8:UInt8),(8:UInt8),(8:UInt8),(8:UInt8),(8:UInt8),(8:UInt8),(8:UInt8),(8:UInt8),(8:UInt8),(8:UInt8),(8:UInt8),(8:UInt8),(8:UInt8),(8:UInt8),(8:UInt8),(8:UInt8),(8:UInt8),(8:UInt8),(8:UInt8),(8:UInt8)])).getD (u8.wrap ((↑n:Int).fdiv ((2:Int)^(32:Nat)))).toNat (0:UInt8)).toNat:Int))) false)] (SS.mk [] [] true w [])))))
  (.split (decide ((↑n:Int) ≥ (65536:Int)))
  (.split (decide ((↑n:Int).fdiv ((2:Int)^(16:Nat)) ≥ (256:Int)))
   (.need ((0:Int)<=u8.wrap (((↑n:Int).fdiv ((2:Int)^(16:Nat))).fdiv ((2:Int)^(8:Nat)))/\u8.wrap (((↑n:Int).fdiv ((2:Int)^(16:Nat))).fdiv ((2:Int)^(8:Nat)))<(↑(256:Nat):Int))
   (.leaf .ret [(.int .i64 (i64.wrap (i64.wrap (i64.wrap ((0:Int)+(16:Int))+(8:Int))+i64.wrap (↑((([(0:UInt8),(1:UInt8),(2:UInt8),(2:UInt8),(3:UInt8),(3:UInt8),(3:UInt8),(3:UInt8),(4:UInt8),(4:UInt8),(4:UInt8),(4:UInt8),(4:UInt8),(4:UInt8),(4:UInt8),(4:UInt8),(5:UInt8),(5:UInt8),(5:UInt8),(5:UInt8),(5:UInt8),(5:UInt8),(5:UInt8),(5:UInt8),(5:UInt8),(5:UInt8),(5:UInt8),(5:UInt8),(5:UInt8),(5:UInt8),(5:UInt8),(5:UInt8),(6:UInt8),(6:UInt8),(6:UInt8),(6:UInt8),(6:UInt8),(6:UInt8),(6:UInt8),(6:UInt8),(6:UInt8),(6:UInt8),(6:UInt8),(6:UInt8),(6:UInt8),(6:UInt8),(6:UInt8),(6:UInt8),(6:UInt8),(6:UInt8),(6:UInt8),(6:UInt8),(6:UInt8),(6:UInt8),(6:UInt8),(6:UInt8),(6:UInt8),(6:UInt8),(6:UInt8),(6:UInt8),(6:UInt8),(6:UInt8),(6:UInt8),(6:UInt8)].append [(7:UInt8),(7:UInt8),(7:UInt8),(7:UInt8),(7:UInt8),(7:UInt8),(7:UInt8),(7:UInt8),(7:UInt8),(7:UInt8),(7:UInt8),(7:UInt8),(7:UInt8),(7:UInt8),(7:UInt8),(7:UInt8),(7:UInt8),(7:UInt8),(7:UInt8),(7:UInt8),(7:UInt8),(7:UInt8),(7:UInt8),(7:UInt8),(7:UInt8),(7:UInt8),(7:UInt8),(7:UInt8),(7:UInt8),(7:UInt8),(7:UInt8),(7:UInt8),(7:UInt8),(7:UInt8),(7:UInt8),(7:UInt8),(7:UInt8),(7:UInt8),(7:UInt8),(7:UInt8),(7:UInt8),(7:UInt8),(7:UInt8),(7:UInt8),(7:UInt8),(7:UInt8),(7:UInt8),(7:UInt8),(7:UInt8),(7:UInt8),(7:UInt8),(7:UInt8),(7:UInt8),(7:UInt8),(7:UInt8),(7:UInt8),(7:UInt8),(7:UInt8),(7:UInt8),(7:UInt8),(7:UInt8),(7:UInt8),(7:UInt8),(7:UInt8)]).append ([(8:UInt8),(8:UInt8),(8:UInt8),(8:UInt8),(8:UInt8),(8:UInt8),(8:UInt8),(8:UInt8),(8:UInt8),(8:UInt8),(8:UInt8),(8:UInt8),(8:UInt8),(8:UInt8),(8:UInt8),(8:UInt8),(8:UInt8),(8:UInt8),(8:UInt8),(8:UInt8),(8:UInt8),(8:UInt8),(8:UInt8),(8:UInt8),(8:UInt8),(8:UInt8),(8:UInt8),(8:UInt8),(8:UInt8),(8:UInt8),(8:UInt8),(8:UInt8),(8:UInt8),(8:UInt8),(8:UInt8),(8:UInt8),(8:UInt8),(8:UInt8),(8:UInt8),(8:UInt8),(8:UInt8),(8:UInt8),(8:UInt8),(8:UInt8),(8:UInt8),(8:UInt8),(8:UInt8),(8:UInt8),(8:UInt8),(8:UInt8),(8:UInt8),(8:UInt8),(8:UInt8),(8:UInt8),(8:UInt8),(8:UInt8),(8:UInt8),(8:UInt8),(8:UInt8),(8:UInt8),(8:UInt8),(8:UInt8),(8:UInt8),(8:UInt8)].append [(8:UInt8),(8:UInt8),(8:UInt8),(8:UInt8),(8:UInt8),(8:UInt8),(8:UInt8),(8:UInt8),(8:UInt8),(8:UInt8),(8:UInt8),(8:UInt8),(8:UInt8),(8:UInt8),(8:UInt8),(8:UInt8),(8:UInt8),(8:UInt8),(8:UInt8),(8:UInt8),(8:UInt8),(8:UInt8),(8:UInt8),(8:UInt8),(8:UInt8),(8:UInt8),(8:UInt8),(8:UInt8),(8:UInt8),(8:UInt8),(8:UInt8),(8:UInt8),(8:UInt8),(8:UInt8),(8:UInt8),(8:UInt8),(8:UInt8),(8:UInt8),(8:UInt8),(8:UInt8),(8:UInt8),(8:UInt8),(8:UInt8),(8:UInt8),(8:UInt8),(8:UInt8),(8:UInt8),(8:UInt8),(8:UInt8),(8:UInt8),(8:UInt8),(8:UInt8),(8:UInt8),(8:UInt8),(8:UInt8),(8:UInt8),(8:UInt8),(8:UInt8),(8:UInt8),(8:UInt8),(8:UInt8),(8:UInt8),(8:UInt8),(8:UInt8)])).getD (u8.wrap (((↑n:Int).fdiv ((2:Int)^(16:Nat))).fdiv ((2:Int)^(8:Nat)))).toNat (0:UInt8)).toNat:Int))) false)] (SS.mk [] [] true w [])))
   (.need ((0:Int)<=u8.wrap ((↑n:Int).fdiv ((2:Int)^(16:Nat)))/\u8.wrap ((↑n:Int).fdiv ((2:Int)^(16:Nat)))<(↑(256:Nat):Int))
   (.leaf .ret [(.int .i64 (i64.wrap (i64.wrap ((0:Int)+(16:Int))+i64.wrap (↑((([(0:UInt8),(1:UInt8),(2:UInt8),(2:UInt8),(3:UInt8),(3:UInt8),(3:UInt8),(3:UInt8),(4:UInt8),(4:UInt8),(4:UInt8),(4:UInt8),(4:UInt8),(4:UInt8),(4:UInt8),(4:UInt8),(5:UInt8),(5:UInt8),(5:UInt8),(5:UInt8),(5:UInt8),(5:UInt8),(5:UInt8),(5:UInt8),(5:UInt8),(5:UInt8),(5:UInt8),(5:UInt8),(5:UInt8),(5:UInt8),(5:UInt8),(5:UInt8),(6:UInt8),(6:UInt8),(6:UInt8),(6:UInt8),(6:UInt8),(6:UInt8),(6:UInt8),(6:UInt8),(6:UInt8),(6:UInt8),(6:UInt8),(6:UInt8),(6:UInt8),(6:UInt8),(6:UInt8),(6:UInt8),(6:UInt8),(6:UInt8),(6:UInt8),(6:UInt8),(6:UInt8),(6:UInt8),(6:UInt8),(6:UInt8),(6:UInt8),(6:UInt8),(6:UInt8),(6:UInt8),(6:UInt8),(6:UInt8),(6:UInt8),(6:UInt8)].append [(7:UInt8),(7:UInt8),(7:UInt8),(7:UInt8),(7:UInt8),(7:UInt8),(7:UInt8),(7:UInt8),(7:UInt8),(7:UInt8),(7:UInt8),(7:UInt8),(7:UInt8),(7:UInt8),(7:UInt8),(7:UInt8),(7:UInt8),(7:UInt8),(7:UInt8),(7:UInt8),(7:UInt8),(7:UInt8),(7:UInt8),(7:UInt8),(7:UInt8),(7:UInt8),(7:UInt8),(7:UInt8),(7:UInt8),(7:UInt8),(7:UInt8),(7:UInt8),(7:UInt8),(7:UInt8),(7:UInt8),(7:UInt8),(7:UInt8),(7:UInt8),(7:UInt8),(7:UInt8),(7:UInt8),(7:UInt8),(7:UInt8),(7:UInt8),(7:UInt8),(7:UInt8),(7:UInt8),(7:UInt8),(7:UInt8),(7:UInt8),(7:UInt8),(7:UInt8),(7:UInt8),(7:UInt8),(7:UInt8),(7:UInt8),(7:UInt8),(7:UInt8),(7:UInt8),(7:UInt8),(7:UInt8),(7:UInt8),(7:UInt8),(7:UInt8)]).append ([(8:UInt8),(8:UInt8),(8:UInt8),(8:UInt8),(8:UInt8),(8:UInt8),(8:UInt8),(8:UInt8),(8:UInt8),(8:UInt8),(8:UInt8),(8:UInt8),(8:UInt8),(8:UInt8),(8:UInt8),(8:UInt8),(8:UInt8),(8:UInt8),(8:UInt8),(8:UInt8),(8:UInt8),(8:UInt8),(8:UInt8),(8:UInt8),(8:UInt8),(8:UInt8),(8:UInt8),(8:UInt8),(8:UInt8),(8:UInt8),(8:UInt8),(8:UInt8),(8:UInt8),(8:UInt8),(8:UInt8),(8:UInt8),(8:UInt8),(8:UInt8),(8:UInt8),(8:UInt8),(8:UInt8),(8:UInt8),(8:UInt8),(8:UInt8),(8:UInt8),(8:UInt8),(8:UInt8),(8:UInt8),(8:UInt8),(8:UInt8),(8:UInt8),(8:UInt8),(8:UInt8),(8:UInt8),(8:UInt8),(8:UInt8),(8:UInt8),(8:UInt8),(8:UInt8),(8:UInt8),(8:UInt8),(8:UInt8),(8:UInt8),(8:UInt8)].append [(8:UInt8),(8:UInt8),(8:UInt8),(8:UInt8),(8:UInt8),(8:UInt8),(8:UInt8),(8:UInt8),(8:UInt8),(8:UInt8),(8:UInt8),(8:UInt8),(8:UInt8),(8:UInt8),(8:UInt8),(8:UInt8),(8:UInt8),(8:UInt8),(8:UInt8),(8:UInt8),(8:UInt8),(8:UInt8),(8:UInt8),(8:UInt8),(8:UInt8),(8:UInt8),(8:UInt8),(8:UInt8),(8:UInt8),(8:UInt8),(8:UInt8),(8:UInt8),(8:UInt8),(8:UInt8),(8:UInt8),(8:UInt8),(8:UInt8),(8:UInt8),(8:UInt8),(8:UInt8),(8:UInt8),(8:UInt8),(8:UInt8),(8:UInt8),(8:UInt8),(8:UInt8),(8:UInt8),(8:UInt8),(8:UInt8),(8:UInt8),(8:UInt8),(8:UInt8),(8:UInt8),(8:UInt8),(8:UInt8),(8:UInt8),(8:UInt8),(8:UInt8),(8:UInt8),(8:UInt8),(8:UInt8),(8:UInt8),(8:UInt8),(8:UInt8)])).getD (u8.wrap ((↑n:Int).fdiv ((2:Int)^(16:Nat)))).toNat (0:UInt8)).toNat:Int))) false)] (SS.mk [] [] true w []))))
  (.split (decide ((↑n:Int) ≥ (256:Int)))
   (.need ((0:Int)<=u8.wrap ((↑n:Int).fdiv ((2:Int)^(8:Nat)))/\u8.wrap ((↑n:Int).fdiv ((2:Int)^(8:Nat)))<(↑(256:Nat):Int))
   (.leaf .ret [(.int .i64 (i64.wrap (i64.wrap ((0:Int)+(8:Int))+i64.wrap (↑((([(0:UInt8),(1:UInt8),(2:UInt8),(2:UInt8),(3:UInt8),(3:UInt8),(3:UInt8),(3:UInt8),(4:UInt8),(4:UInt8),(4:UInt8),(4:UInt8),(4:UInt8),(4:UInt8),(4:UInt8),(4:UInt8),(5:UInt8),(5:UInt8),(5:UInt8),(5:UInt8),(5:UInt8),(5:UInt8),(5:UInt8),(5:UInt8),(5:UInt8),(5:UInt8),(5:UInt8),(5:UInt8),(5:UInt8),(5:UInt8),(5:UInt8),(5:UInt8),(6:UInt8),(6:UInt8),(6:UInt8),(6:UInt8),(6:UInt8),(6:UInt8),(6:UInt8),(6:UInt8),(6:UInt8),(6:UInt8),(6:UInt8),(6:UInt8),(6:UInt8),(6:UInt8),(6:UInt8),(6:UInt8),(6:UInt8),(6:UInt8),(6:UInt8),(6:UInt8),(6:UInt8),(6:UInt8),(6:UInt8),(6:UInt8),(6:UInt8),(6:UInt8),(6:UInt8),(6:UInt8),(6:UInt8),(6:UInt8),(6:UInt8),(6:UInt8)].append [(7:UInt8),(7:UInt8),(7:UInt8),(7:UInt8),(7:UInt8),(7:UInt8),(7:UInt8),(7:UInt8),(7:UInt8),(7:UInt8),(7:UInt8),(7:UInt8),(7:UInt8),(7:UInt8),(7:UInt8),(7:UInt8),(7:UInt8),(7:UInt8),(7:UInt8),(7:UInt8),(7:UInt8),(7:UInt8),(7:UInt8),(7:UInt8),(7:UInt8),(7:UInt8),(7:UInt8),(7:UInt8),(7:UInt8),(7:UInt8),(7:UInt8),(7:UInt8),(7:UInt8),(7:UInt8),(7:UInt8),(7:UInt8),(7:UInt8),(7:UInt8),(7:UInt8),(7:UInt8),(7:UInt8),(7:UInt8),(7:UInt8),(7:UInt8),(7:UInt8),(7:UInt8),(7:UInt8),(7:UInt8),(7:UInt8),(7:UInt8),(7:UInt8),(7:UInt8),(7:UInt8),(7:UInt8),(7:UInt8),(7:UInt8),(7:UInt8),(7:UInt8),(7:UInt8),(7:UInt8),(7:UInt8),(7:UInt8),(7:UInt8),(7:UInt8)]).append ([(8:UInt8),(8:UInt8),(8:UInt8),(8:UInt8),(8:UInt8),(8:UInt8),(8:UInt8),(8:UInt8),(8:UInt8),(8:UInt8),(8:UInt8),(8:UInt8),(8:UInt8),(8:UInt8),(8:UInt8),(8:UInt8),(8:UInt8),(8:UInt8),(8:UInt8),(8:UInt8),(8:UInt8),(8:UInt8),(8:UInt8),(8:UInt8),(8:UInt8),(8:UInt8),(8:UInt8),(8:UInt8),(8:UInt8),(8:UInt8),(8:UInt8),(8:UInt8),(8:UInt8),(8:UInt8),(8:UInt8),(8:UInt8),(8:UInt8),(8:UInt8),(8:UInt8),(8:UInt8),(8:UInt8),(8:UInt8),(8:UInt8),(8:UInt8),(8:UInt8),(8:UInt8),(8:UInt8),(8:UInt8),(8:UInt8),(8:UInt8),(8:UInt8),(8:UInt8),(8:UInt8),(8:UInt8),(8:UInt8),(8:UInt8),(8:UInt8),(8:UInt8),(8:UInt8),(8:UInt8),(8:UInt8),(8:UInt8),(8:UInt8),(8:UInt8)].append [(8:UInt8),(8:UInt8),(8:UInt8),(8:UInt8),(8:UInt8),(8:UInt8),(8:UInt8),(8:UInt8),(8:UInt8),(8:UInt8),(8:UInt8),(8:UInt8),(8:UInt8),(8:UInt8),(8:UInt8),(8:UInt8),(8:UInt8),(8:UInt8),(8:UInt8),(8:UInt8),(8:UInt8),(8:UInt8),(8:UInt8),(8:UInt8),(8:UInt8),(8:UInt8),(8:UInt8),(8:UInt8),(8:UInt8),(8:UInt8),(8:UInt8),(8:UInt8),(8:UInt8),(8:UInt8),(8:UInt8),(8:UInt8),(8:UInt8),(8:UInt8),(8:UInt8),(8:UInt8),(8:UInt8),(8:UInt8),(8:UInt8),(8:UInt8),(8:UInt8),(8:UInt8),(8:UInt8),(8:UInt8),(8:UInt8),(8:UInt8),(8:UInt8),(8:UInt8),(8:UInt8),(8:UInt8),(8:UInt8),(8:UInt8),(8:UInt8),(8:UInt8),(8:UInt8),(8:UInt8),(8:UInt8),(8:UInt8),(8:UInt8),(8:UInt8)])).getD (u8.wrap ((↑n:Int).fdiv ((2:Int)^(8:Nat)))).toNat (0:UInt8)).toNat:Int))) false)] (SS.mk [] [] true w [])))
   (.need ((0:Int)<=u8.wrap (↑n:Int)/\u8.wrap (↑n:Int)<(↑(256:Nat):Int))
   (.leaf .ret [(.int .i64 (i64.wrap ((0:Int)+i64.wrap (↑((([(0:UInt8),(1:UInt8),(2:UInt8),(2:UInt8),(3:UInt8),(3:UInt8),(3:UInt8),(3:UInt8),(4:UInt8),(4:UInt8),(4:UInt8),(4:UInt8),(4:UInt8),(4:UInt8),(4:UInt8),(4:UInt8),(5:UInt8),(5:UInt8),(5:UInt8),(5:UInt8),(5:UInt8),(5:UInt8),(5:UInt8),(5:UInt8),(5:UInt8),(5:UInt8),(5:UInt8),(5:UInt8),(5:UInt8),(5:UInt8),(5:UInt8),(5:UInt8),(6:UInt8),(6:UInt8),(6:UInt8),(6:UInt8),(6:UInt8),(6:UInt8),(6:UInt8),(6:UInt8),(6:UInt8),(6:UInt8),(6:UInt8),(6:UInt8),(6:UInt8),(6:UInt8),(6:UInt8),(6:UInt8),(6:UInt8),(6:UInt8),(6:UInt8),(6:UInt8),(6:UInt8),(6:UInt8),(6:UInt8),(6:UInt8),(6:UInt8),(6:UInt8),(6:UInt8),(6:UInt8),(6:UInt8),(6:UInt8),(6:UInt8),(6:UInt8)].append [(7:UInt8),(7:UInt8),(7:UInt8),(7:UInt8),(7:UInt8),(7:UInt8),(7:UInt8),(7:UInt8),(7:UInt8),(7:UInt8),(7:UInt8),(7:UInt8),(7:UInt8),(7:UInt8),(7:UInt8),(7:UInt8),(7:UInt8),(7:UInt8),(7:UInt8),(7:UInt8),(7:UInt8),(7:UInt8),(7:UInt8),(7:UInt8),(7:UInt8),(7:UInt8),(7:UInt8),(7:UInt8),(7:UInt8),(7:UInt8),(7:UInt8),(7:UInt8),(7:UInt8),(7:UInt8),(7:UInt8),(7:UInt8),(7:UInt8),(7:UInt8),(7:UInt8),(7:UInt8),(7:UInt8),(7:UInt8),(7:UInt8),(7:UInt8),(7:UInt8),(7:UInt8),(7:UInt8),(7:UInt8),(7:UInt8),(7:UInt8),(7:UInt8),(7:UInt8),(7:UInt8),(7:UInt8),(7:UInt8),(7:UInt8),(7:UInt8),(7:UInt8),(7:UInt8),(7:UInt8),(7:UInt8),(7:UInt8),(7:UInt8),(7:UInt8)]).append ([(8:UInt8),(8:UInt8),(8:UInt8),(8:UInt8),(8:UInt8),(8:UInt8),(8:UInt8),(8:UInt8),(8:UInt8),(8:UInt8),(8:UInt8),(8:UInt8),(8:UInt8),(8:UInt8),(8:UInt8),(8:UInt8),(8:UInt8),(8:UInt8),(8:UInt8),(8:UInt8),(8:UInt8),(8:UInt8),(8:UInt8),(8:UInt8),(8:UInt8),(8:UInt8),(8:UInt8),(8:UInt8),(8:UInt8),(8:UInt8),(8:UInt8),(8:UInt8),(8:UInt8),(8:UInt8),(8:UInt8),(8:UInt8),(8:UInt8),(8:UInt8),(8:UInt8),(8:UInt8),(8:UInt8),(8:UInt8),(8:UInt8),(8:UInt8),(8:UInt8),(8:UInt8),(8:UInt8),(8:UInt8),(8:UInt8),(8:UInt8),(8:UInt8),(8:UInt8),(8:UInt8),(8:UInt8),(8:UInt8),(8:UInt8),(8:UInt8),(8:UInt8),(8:UInt8),(8:UInt8),(8:UInt8),(8:UInt8),(8:UInt8),(8:UInt8)].append [(8:UInt8),(8:UInt8),(8:UInt8),(8:UInt8),(8:UInt8),(8:UInt8),(8:UInt8),(8:UInt8),(8:UInt8),(8:UInt8),(8:UInt8),(8:UInt8),(8:UInt8),(8:UInt8),(8:UInt8),(8:UInt8),(8:UInt8),(8:UInt8),(8:UInt8),(8:UInt8),(8:UInt8),(8:UInt8),(8:UInt8),(8:UInt8),(8:UInt8),(8:UInt8),(8:UInt8),(8:UInt8),(8:UInt8),(8:UInt8),(8:UInt8),(8:UInt8),(8:UInt8),(8:UInt8),(8:UInt8),(8:UInt8),(8:UInt8),(8:UInt8),(8:UInt8),(8:UInt8),(8:UInt8),(8:UInt8),(8:UInt8),(8:UInt8),(8:UInt8),(8:UInt8),(8:UInt8),(8:UInt8),(8:UInt8),(8:UInt8),(8:UInt8),(8:UInt8),(8:UInt8),(8:UInt8),(8:UInt8),(8:UInt8),(8:UInt8),(8:UInt8),(8:UInt8),(8:UInt8),(8:UInt8),(8:UInt8),(8:UInt8),(8:UInt8)])).getD (u8.wrap (↑n:Int)).toNat (0:UInt8)).toNat:Int))) false)] (SS.mk [] [] true w [])))))):=by kernel_rfl
theorem NA(n:Nat)(w:World):am Tryz.prog F8 200 89 [.int .u64 n false] (SS.at w) =
 (.hc 136 [(.int .u64 ((↑n:Int)) false)] (SS.mk [] [] true w []) (dn) fun x0 w0 b0=>
 (.split (decide ((↑x0:Int).tmod (7:Int) > (0:Int)))
  (.leaf .ret [(.int .i64 (i64.wrap (i64.wrap ((↑x0:Int).tdiv (7:Int))+(1:Int))) false)] (SS.mk [] [] true w0 b0))
  (.split (i64.wrap ((↑x0:Int).tdiv (7:Int)) == (0:Int))
  (.leaf .ret [(.int .i64 (i64.wrap (i64.wrap ((↑x0:Int).tdiv (7:Int))+(1:Int))) false)] (SS.mk [] [] true w0 b0))
  (.leaf .ret [(.int .i64 (i64.wrap ((↑x0:Int).tdiv (7:Int))) false)] (SS.mk [] [] true w0 b0))))):=by kernel_rfl
noncomputable abbrev AY(x0:(Hook.X (dn)))(n:Nat):List SV:=([(.slc 0 0 ((↑x0:Int).toNat) ((↑x0:Int).toNat) false false),(.int .u64 ((↑n:Int)) false),(.tup []),(.tup []),(.int .i64 0 true),(.int .i64 0 true)]++List.replicate 19 aA)
theorem LH(n:Nat)(w:World):am Tryz.prog Fk 200 69 [.int .u64 n false] (SS.at w) =
(.hc 89 [(.int .u64 ((↑n:Int)) false)] (SS.mk [] [] true w []) (dn) fun x0 w0 b0=>(.need ((0:Int)<=(↑x0:Int)/\(↑x0:Int)<=(↑x0:Int)/\(↑(1:Nat):Int)*(↑x0:Int)<=(2:Int)^48/\(↑x0:Int)<(2:Int)^63) (.loop 90 (ar Tryz.prog 90 3) (AY x0 n) (SS.mk [(.ints .u8 (List.replicate (↑x0:Int).toNat (0:Int)) 5 0 0)] [] true w0 b0) (LoopHook.X (l7)) (LoopHook.out (l7) (AY x0 n) (SS.mk [(.ints .u8 (List.replicate (↑x0:Int).toNat (0:Int)) 5 0 0)] [] true w0 b0)) (fun x1 w1 b1=>(.need ((0:Int)<=(↑x1.fst.i:Int)/\(↑x1.fst.i:Int)<(↑x1.fst.r:Int)) (.need (0+(↑x1.fst.i:Int).toNat*1<x1.fst.l.length) (.need (ap 0 0 (0+(↑x1.fst.i:Int).toNat*1) 1=true) (.need ((0:Int)<=i64.wrap ((↑x1.fst.i:Int)+(1:Int))/\i64.wrap ((↑x1.fst.i:Int)+(1:Int))<=(↑(↑x0:Int).toNat:Int)) (.leaf .ret [(.slc 0 (if(↑x0:Int).toNat=0 then 0 else 0) ((i64.wrap ((↑x1.fst.i:Int)+(1:Int))).toNat-0) ((↑x0:Int).toNat-0) false false)] (SS.mk [(.ints .u8 (x1.fst.l.set (0+(↑x1.fst.i:Int).toNat*1) (u8.wrap (↑x1.fst.x:Int))) 5 0 0)] [] true w1 b1))))))) (LoopHook.Y (l7)) (LoopHook.out' (l7) (AY x0 n) (SS.mk [(.ints .u8 (List.replicate (↑x0:Int).toNat (0:Int)) 5 0 0)] [] true w0 b0)) (fun x1 w1 b1=>(.bad "slice: no integer"))))):=by kernel_rfl
theorem Qj(n:Nat)(w:World):(by have h:=LH n w;unfold AY at h;exact type_of% h):=LH n w
theorem K6(z:UX)(bs:List Nat)(w:World)(g:Nat->Value):aK Tryz.prog au 200 90 (ar Tryz.prog 90 3) (az ((wE .normal).zip (xJ z)) g 25 0) (fun e a s=>.leaf e (ep wE e a) s) (SS.mk (dQ z) [] true w bs) =
 (.split (decide ((↑z.x:Int) ≥ (128:Int)))
  (.need ((0:Int)<=(↑z.i:Int)/\(↑z.i:Int)<(↑z.r:Int))
  (.need ((0:Nat)+(↑z.i:Int).toNat*(1:Nat)<z.l.length)
  (.need (ap (0:Nat) (0:Nat) ((0:Nat)+(↑z.i:Int).toNat*(1:Nat)) (1:Nat)=true)
  (.leaf .normal [(.slc 0 0 z.r z.r false false),(.int .u64 ((↑z.x:Int).fdiv ((2:Int)^(7:Nat))) false),(.int .i64 (i64.wrap ((↑z.i:Int)+(1:Int))) false)] (SS.mk [(.ints .u8 (z.l.set ((0:Nat)+(↑z.i:Int).toNat*(1:Nat)) (u8.wrap (↑(BitVec.ofInt (8:Nat) (u8.wrap (↑z.x:Int)) |||BitVec.ofInt (8:Nat) (128:Int)).toNat:Int))) 5 0 0)] [] true w bs)))))
  (.leaf (.exit 0) [(.slc 0 0 z.r z.r false false),(.int .u64 ((↑z.x:Int)) false),(.int .i64 ((↑z.i:Int)) false)] (SS.mk [(.ints .u8 z.l 5 0 0)] [] true w bs))):=by kernel_rfl
def E0(R:Nat->Prop)(v:Value)(_:World):Prop:=∃r:Nat,v=.int .i64 (r:Int)/\R r
theorem EY(a:Nat):(a:Int).fdiv ((2:Int)^(32:Nat))=((a/4294967296:Nat):Int):=(Int.ofNat_fdiv a 4294967296).symm
theorem EX(a:Nat):(a:Int).fdiv ((2:Int)^(16:Nat))=((a/65536:Nat):Int):=(Int.ofNat_fdiv a 65536).symm
theorem d8(a:Nat):(a:Int).fdiv ((2:Int)^(8:Nat))=((a/256:Nat):Int):=(Int.ofNat_fdiv a 256).symm
theorem d7(a:Nat):(a:Int).fdiv ((2:Int)^(7:Nat))=((a/128:Nat):Int):=(Int.ofNat_fdiv a 128).symm
theorem gg{m:Nat}(h:m<256):u8.wrap (m:Int)=m:=by
 simp[IntKind.wrap,IntKind.bits,IntKind.signed]
 omega
theorem mm(n:Int):0<=u8.wrap n/\u8.wrap n<256:=by
 have:u8.wrap n=n%256:=by
  simp[IntKind.wrap,IntKind.bits,IntKind.signed]
 omega
theorem jo{w:World}{s:SS}(hf:Fine w s){n c m:Nat}{C X:Int}{tab:List UInt8}(hC:C=c)(hX:X=m)(hm:m<256)(hn:n/2^c=m)(hc:c<=56)
  (htab:((List.range 256).all fun k=>decide (k<2^(tab.getD k 0).toNat/\(tab.getD k 0).toNat<=8))=true) :
  (T.need (0<=u8.wrap X/\u8.wrap X<((256:Nat):Int)) (.leaf .ret [.int .i64 (i64.wrap (C+i64.wrap ((tab.getD (u8.wrap X).toNat 0).toNat:Int))) false] s)).holds
   (cS Tryz.prog (bC fun v w'=>E0 (fun r=>n<2^r/\r<=64) v w'/\Below w.heap.size w w')):=by
 subst hC hX
 rw[gg hm]
 rw[List.all_eq_true]at htab
 have h1:=of_decide_eq_true (htab m (List.mem_range.2 hm))
 refine aa (by omega) (aN hf fun β w' _ _=>⟨c+(tab.getD m 0).toNat,?_,?_,by omega⟩)
 ·show Value.int .i64 (i64.wrap (_+i64.wrap ((tab.getD m 0).toNat:Int)))=_
  rw[ax (n:=((tab.getD m 0).toNat:Int)) (by omega) (by omega),ax (by omega) (by omega)]
  simp
 ·rw[Nat.pow_add]
  have h2:n<2^c*(m+1):=by
   have:=Nat.lt_mul_div_succ n (show 0<2^c from Nat.pow_pos (by omega))
   rw[hn]at this
   exact this
  exact Nat.lt_of_lt_of_le h2 (Nat.mul_le_mul_left _ (by omega))
theorem Fs(n:Nat)(w:World)(hn:n<2^64):Calls Tryz.prog 136 #[.int .u64 n] w (bF (E0 fun r=>n<2^r/\r<=64) w):=by
 refine aH (hk:=au) (n:=200) (args:=[.int .u64 n false]) ⟨trivial,trivial⟩ ?_
 rw[NB]
 refine af (fun h1=>?_) (fun h1=>?_) <;> simp only[decide_eq_true_eq,decide_eq_false_iff_not]at h1
 ·refine af (fun h2=>?_) (fun h2=>?_) <;> simp only[decide_eq_true_eq,decide_eq_false_iff_not,EY]at h2
  ·refine af (fun h3=>?_) (fun h3=>?_) <;> simp only[decide_eq_true_eq,decide_eq_false_iff_not,EY,EX]at h3
   ·exact jo (Fine.start _ _) (c:=56) (m:=n/4294967296/65536/256) (by decide) (by simp only[EY,EX,d8]) (by omega) (by omega) (by omega) (by decide +kernel)
   ·exact jo (Fine.start _ _) (c:=48) (m:=n/4294967296/65536) (by decide) (by simp only[EY,EX,d8]) (by omega) (by omega) (by omega) (by decide +kernel)
  ·refine af (fun h3=>?_) (fun h3=>?_) <;> simp only[decide_eq_true_eq,decide_eq_false_iff_not,EY,EX]at h3
   ·exact jo (Fine.start _ _) (c:=40) (m:=n/4294967296/256) (by decide) (by simp only[EY,EX,d8]) (by omega) (by omega) (by omega) (by decide +kernel)
   ·exact jo (Fine.start _ _) (c:=32) (m:=n/4294967296) (by decide) (by simp only[EY,EX,d8]) (by omega) (by omega) (by omega) (by decide +kernel)
 ·refine af (fun h2=>?_) (fun h2=>?_) <;> simp only[decide_eq_true_eq,decide_eq_false_iff_not]at h2
  ·refine af (fun h3=>?_) (fun h3=>?_) <;> simp only[decide_eq_true_eq,decide_eq_false_iff_not,EX]at h3
   ·exact jo (Fine.start _ _) (c:=24) (m:=n/65536/256) (by decide) (by simp only[EY,EX,d8]) (by omega) (by omega) (by omega) (by decide +kernel)
   ·exact jo (Fine.start _ _) (c:=16) (m:=n/65536) (by decide) (by simp only[EY,EX,d8]) (by omega) (by omega) (by omega) (by decide +kernel)
  ·refine af (fun h3=>?_) (fun h3=>?_) <;> simp only[decide_eq_true_eq,decide_eq_false_iff_not]at h3
   ·exact jo (Fine.start _ _) (c:=8) (m:=n/256) (by decide) (by simp only[EY,EX,d8]) (by omega) (by omega) (by omega) (by decide +kernel)
   ·exact jo (Fine.start _ _) (c:=0) (m:=n) (by decide) rfl (by omega) (by omega) (by omega) (by decide +kernel)
theorem o9{Q:SE->List Value->World->Prop}{s:SS}{w:World}{f:FuncId}{args:List SV}{a0:List SV}{s0:SS}{k:Nat->World->List Nat->T}(R:Nat->Prop)(hf:Fine w s)(hs0:s0.objs=s.objs)
  (hc:∀β w0,Below w.heap.size w w0->Calls Tryz.prog f (ae β args).toArray w0 (bF (E0 R) w0))
  (hk:∀r w' bs,R r->Below w.heap.size w w'->(∀b∈bs,w.heap.size<=b)->(k r w' bs).holds (cS Tryz.prog Q)) :
  (T.call f args s (Hook.X dn) (Hook.out dn a0 s0) k).holds (cS Tryz.prog Q):=by
 refine eK (Γ:=cS Tryz.prog Q) (R:=fun x _ _=>R x) hf (fun x=>⟨hs0,trivial⟩) (fun β w0 hst ho hb=>?_) (fun x w0 w' bs _ hr _ hb hbs=>hk x w' bs hr hb hbs)
 refine(hc β w0 hb).mono ?_
 rintro e w' ⟨v,rfl,⟨b,rfl,hr⟩,hb'⟩
 exact⟨b,rfl,hb',hr⟩
theorem xK(n:Nat)(w:World)(hn:n<2^64):Calls Tryz.prog 89 #[.int .u64 n] w (bF (E0 fun r=>n<128^r/\1<=r/\r<=10) w):=by
 refine aH (hk:=F8) (n:=200) (args:=[.int .u64 n false]) ⟨trivial,trivial⟩ ?_
 rw[NA]
 refine o9 (fun r=>n<2^r/\r<=64) (Fine.start _ _) rfl (fun β w0 _=>Fs n w0 hn) ?_
 rintro x w1 bs ⟨hx,hx6⟩ hb hbs
 have hp:∀r,x<=7*r->n<128^r:=fun r hr=>by
  have:(128:Nat)^r=2^(7*r):=by rw[Nat.pow_mul]
  rw[this]
  exact Nat.lt_of_lt_of_le hx (Nat.pow_le_pow_right (by omega) hr)
 have e1:((x:Int).tmod 7)=((x%7:Nat):Int):=rfl
 have e2:((x:Int).tdiv 7)=((x/7:Nat):Int):=rfl
 rw[e1,e2,ax (n:=((x/7:Nat):Int)) (by omega) (by omega),ax (n:=((x/7:Nat):Int)+1) (by omega) (by omega)]
 refine af (fun h1=>?_) (fun h1=>af (fun h2=>?_) (fun h2=>?_))
 ·exact aN (Fine.mk' hb hbs) fun β w' _ _=>⟨x/7+1,rfl,hp _ (by omega),by omega,by omega⟩
 ·exact aN (Fine.mk' hb hbs) fun β w' _ _=>⟨x/7+1,rfl,hp _ (by omega),by omega,by omega⟩
 ·simp at h1 h2
  exact aN (Fine.mk' hb hbs) fun β w' _ _=>⟨x/7,rfl,hp _ (by omega),by omega,by omega⟩
def uv(n:Nat):List UInt8:=if h:n<128 then[UInt8.ofNat n] else UInt8.ofNat (n%128+128) :: uv (n/128)
termination_by n
decreasing_by omega
theorem cb{n:Nat}(h:n<128):uv n=[UInt8.ofNat n]:=by rw[uv,dif_pos h]
theorem cI{n:Nat}(h:¬n<128):uv n=UInt8.ofNat (n%128+128) :: uv (n/128):=by rw[uv,dif_neg h]
theorem Gm:∀m:Fin 256,u8.wrap (((BitVec.ofInt 8 ((m.val:Nat):Int) |||BitVec.ofInt 8 (128:Int)).toNat:Nat):Int)=((m.val%128+128:Nat):Int):=by decide +kernel
theorem qJ(x:Nat):u8.wrap (x:Int)=((x%256:Nat):Int):=by
 simp[IntKind.wrap,IntKind.bits,IntKind.signed]
theorem eE(l:List Int)(i:Nat)(v:Int)(h:i<l.length):(l.set i v).take (i+1)=l.take i++[v]:=by
 rw[List.take_add_one,List.getElem?_set_self h,List.take_set_of_le (Nat.le_refl _)]
 rfl
theorem jw:∀(k n:Nat),n<128^(k+1)->(uv n).length<=k+1
 |0,n,h=>by rw[cb (by simpa using h)];simp
 |k+1,n,h=>by
  by_cases h1:n<128
  ·rw[cb h1];simp
  ·rw[cI h1,List.length_cons]
   have:=jw k (n/128) (Nat.div_lt_of_lt_mul (by rw[Nat.pow_succ,Nat.mul_comm]at h;exact h))
   omega
theorem BX(n:Nat)(w:World)(hn:n<2^64):Calls Tryz.prog 69 #[.int .u64 n] w (bF (fun v w'=>∃A k c,v=.slice A k c/\k<=c/\Bts w' w'.heap.size A k (uv n)/\Fresh w A) w):=by
 refine aH (hk:=Fk) (n:=200) (args:=[.int .u64 n false]) ⟨trivial,trivial⟩ ?_
 rw[Qj]
 refine o9 (fun r=>n<128^r/\1<=r/\r<=10) (Fine.start _ _) rfl (fun β w0 _=>xK n w0 hn) ?_
 rintro r w1 bs ⟨hr1,hr2,hr3⟩ hb hbs
 refine aa ⟨by omega,by omega,by omega,by omega⟩ ?_
 refine iJ (w:=w) (Fine.mk' hb hbs) rfl 1 rfl wE xJ dQ (fun z=>z.r-z.i) (fun _ z _=>z.r=r/\z.l.length=r/\z.i<r/\z.x<128^(r-z.i)/\(∀v∈z.l,0<=v/\v<256)/\((z.l.take z.i).map fun v=>UInt8.ofNat v.toNat)++uv z.x=uv n)
  (fun _ z _=>z.r=r/\z.l.length=r/\z.i<r/\z.x<128/\(∀v∈z.l,0<=v/\v<256)/\((z.l.take z.i).map fun v=>UInt8.ofNat v.toNat)++uv z.x=uv n) (fun _ _ _=>False) (fun _=>au) 200 (by simp) (by simp[wE]) (by simp[wE]) (fun _=>⟨by simp[SV.ok],trivial,trivial,trivial⟩) (fun _=>⟨rfl,by simp[dQ,SObj.ok]⟩)
  rfl rfl (by simp) (by simp) (fun _=>⟨⟨by simp[SV.ok],trivial,trivial,trivial⟩,rfl,by simp[dQ,SObj.ok]⟩) (fun _=>⟨trivial,rfl,by simp[dQ,SObj.ok]⟩) ?_ ?_ ?_ ?_
 ·rintro β w0 z w2 g hb0 ⟨rfl,hl,hi,hx,hv,hu⟩ hk hge
  refine ah (K6 z (ac β 1) w2 g) ?_
  have hkf:KFine (ac β 1) w0 (SS.mk (dQ z) [] true w2 (ac β 1)):=⟨rfl,hk,fun b hb=>.inl hb⟩
  refine af (fun h128=>?_) (fun h128=>?_)
  ·simp only[decide_eq_true_eq]at h128
   have h1:z.i+1<z.r:=by
    rcases Nat.lt_or_ge (z.i+1) z.r with h |h
    ·exact h
    ·have:z.r-z.i=1:=by omega
     rw[this]at hx
     omega
   refine aa ⟨by omega,by omega⟩ (aa (by simp;omega) (aa (by simp[ap]) ?_))
   refine aM ⟨rfl,hk,fun b hb=>.inl hb⟩ fun β' w' hst hk'=>?_
   refine⟨⟨z.x/128,z.i+1,z.r,_⟩,?_,?_,hst.objsAt rfl (by simp[dQ,SObj.ok]),⟨rfl,by simp[hl],h1,?_,?_,?_⟩,hk'⟩
   ·show z.r-(z.i+1)<z.r-z.i
    omega
   ·rw[d7,ax (by omega) (by omega)]
    have:=hst.base 0 (by show 0<1;omega)
    simp only[xJ,ae,SV.den]
    rw[this]
    rfl
   ·have h2:z.r-z.i=(z.r-(z.i+1))+1:=by omega
    rw[h2,Nat.pow_succ]at hx
    exact Nat.div_lt_of_lt_mul (by rw[Nat.mul_comm];exact hx)
   ·intro v hv'
    rcases List.mem_or_eq_of_mem_set hv' with h |h
    ·exact hv v h
    ·rw[h];exact mm _
   ·have e1:(0:Nat)+(z.i:Int).toNat*1=z.i:=by simp
    have e2:=Gm ⟨z.x%256,Nat.mod_lt _ (by omega)⟩
    dsimp only at e2 ⊢
    rw[e1,qJ z.x,e2,eE _ _ _ (by omega),List.map_append,List.append_assoc,<- hu]
    congr 1
    rw[cI (n:=z.x) (by omega)]
    simp only[List.map_cons,List.map_nil,List.cons_append,List.nil_append,Int.toNat_natCast]
    rw[show z.x%256%128=z.x%128 by omega]
  ·simp only[decide_eq_false_iff_not]at h128
   refine aM ⟨rfl,hk,fun b hb=>.inl hb⟩ fun β' w' hst hk'=>⟨.inl ⟨z,rfl,?_,hst.objsAt rfl (by simp[dQ,SObj.ok]),rfl,hl,hi,by omega,hv,hu⟩,hk'⟩
   have:=hst.base 0 (by show 0<1;omega)
   simp only[xJ,ae,SV.den]
   rw[this]
 ·intro β w0 hst hb0
  refine⟨⟨n,0,r,List.replicate r 0⟩,rfl,?_,rfl,by simp,by show 0<r;omega,by simpa using hr1,by simp,by simp⟩
  intro i o hi
  exact hst.at_ i o (by simpa [dQ] using hi)
 ·rintro w0 z w' ⟨rfl,hl,hi,hx,hv,hu⟩ hb0 hb1 g bs' hbs'
  dsimp only
  refine aa ⟨by omega,by omega⟩ (aa (by simp;omega) (aa (by simp[ap]) (aa (by show(0:Int)<=i64.wrap ((z.i:Int)+1)/\_;rw[ax (by omega) (by omega)];omega) ?_)))
  refine aN (Fine.mk' hb1 hbs') fun β w2 hst hb2=>?_
  have h0:=hst.at_ 0 _ rfl
  have hlt:=hst.lt 0 (by simp[SS.n])
  have e1:(i64.wrap ((z.i:Int)+1)).toNat-0=z.i+1:=by rw[ax (by omega) (by omega)];omega
  have hbt:=cp (k:=z.i+1) h0 ?_ (by simp;omega) hlt
  ·have e2:(0:Nat)+(z.i:Int).toNat*1=z.i:=by simp
   rw[e2,eE _ _ _ (by omega),List.map_append,qJ]at hbt
   have e3:((z.l.take z.i).map fun v=>UInt8.ofNat v.toNat)++[((z.x%256:Nat):Int)].map (fun v=>UInt8.ofNat v.toNat)=uv n:=by
    rw[<- hu,cb hx]
    simp only[List.map_cons,List.map_nil,Int.toNat_natCast]
    rw[Nat.mod_eq_of_lt (show z.x<256 by omega)]
   rw[e3]at hbt
   refine⟨some ⟨β 0,0,none⟩,z.i+1,z.r,?_,by omega,hbt,fun a ha=>?_⟩
   ·rw[e1]
    simp[SV.den]
   ·cases ha
    exact(Fine.mk' hb1 hbs').new (hst.old rfl) 0 (by simp[SS.n])
  ·intro v hv'
   rcases List.mem_or_eq_of_mem_set hv' with h |h
   ·exact hv v h
   ·rw[h];exact mm _
 ·rintro w0 z w' h
  exact h.elim
end
section
open Go Go.Rx Go.RowKit
def Lr:SE->List Nat
 | .normal=>[8,9,10]
 | .ret=>[2]
 |_=>[]
def Kz:LoopHook:=bK 18 Unit .ret [2] (fun _=>[.bool false true]) Unit (.exit 0) [] (fun _=>[])
def o8:Hooks:={ calls:=fun _=>none,loops:=fun f k=>if f=21/\k=5 then some Kz else none }
noncomputable abbrev AR(A:Option Addr)(n c:Nat):List SV:=([(.xs A n c),(.tup []),(.bool false true),(.tup []),(.tup []),(.xs A n c),(.int .i64 ((↑n:Int)) false),(.bool false true),(.xs A n c),(.int .i64 ((↑n:Int)) false),(.int .i64 0 true)]++List.replicate 7 aA)
theorem Oq(A:Option Addr)(n c:Nat)(w:World):am Tryz.prog o8 1000 21 [.xs A n c] (SS.at w) =
(.split (decide ((↑n:Int) > (2147483647:Int))) (.leaf .ret [(.bool false true)] (SS.mk [] [] true w [])) (.loop 21 (ar Tryz.prog 21 5) (AR A n c) (SS.mk [] [] true w []) (LoopHook.X (Kz)) (LoopHook.out (Kz) (AR A n c) (SS.mk [] [] true w [])) (fun x0 w0 b0=>(.leaf .ret [(.bool false true)] (SS.mk [] [] true w0 b0))) (LoopHook.Y (Kz)) (LoopHook.out' (Kz) (AR A n c) (SS.mk [] [] true w [])) (fun x0 w0 b0=>(.leaf .ret [(.bool true true)] (SS.mk [] [] true w0 b0))))):=by kernel_rfl
theorem t5(A:Option Addr)(n c:Nat)(w:World):(by have h:=Oq A n c w;unfold AR at h;exact type_of% h):=Oq A n c w
noncomputable abbrev xT(w:World)(A:Option Addr)(i:Nat):SObj:=(.cells [(.int .i64 (ai w (((A.getD default).add ((↑i:Int).toNat*2)).add 0)) false),(.xs (kD w (((A.getD default).add ((↑i:Int).toNat*2)).add 1)) (iO w (((A.getD default).add ((↑i:Int).toNat*2)).add 1)) (m8 w (((A.getD default).add ((↑i:Int).toNat*2)).add 1)))] 2 31 0 0)
theorem Ol(A:Option Addr)(n c i:Nat)(w:World)(g:Nat->Value):aK Tryz.prog au 1000 21 (ar Tryz.prog 21 5) (az ((Lr .normal).zip [.xs A n c,.int .i64 n false,.int .i64 i false]) g 18 0) (fun e a s=>.leaf e (ep Lr e a) s) (SS.at w) =
(.split (decide ((↑i:Int)<(↑n:Int))) (.need ((0:Int)<=(↑i:Int)/\(↑i:Int)<(↑n:Int)) (.need (A.isSome=true) (.need (canRead w [] ((A.getD default).add ((↑i:Int).toNat*2)) [SV.int i64 (ai w (((A.getD default).add ((↑i:Int).toNat*2)).add 0)) false,SV.xs (kD w (((A.getD default).add ((↑i:Int).toNat*2)).add 1)) (iO w (((A.getD default).add ((↑i:Int).toNat*2)).add 1)) (m8 w (((A.getD default).add ((↑i:Int).toNat*2)).add 1))]) (.split (decide ((↑(iO w (((A.getD default).add ((↑i:Int).toNat*2)).add 1)):Int) > (2147483647:Int))) (.leaf .ret [(.bool false true)] (SS.mk [(xT w A i),(xT w A i)] [] true w [])) (.leaf .normal [(.xs A n c),(.int .i64 ((↑n:Int)) false),(.int .i64 (i64.wrap ((↑i:Int)+(1:Int))) false)] (SS.mk [(xT w A i),(xT w A i)] [] true w [])))))) (.leaf (.exit 0) [] (SS.mk [] [] true w []))):=by kernel_rfl
theorem r5(A:Option Addr)(n c i:Nat)(w:World)(g:Nat->Value):(by have h:=Ol A n c i w g;unfold xT at h;exact type_of% h):=Ol A n c i w g
end
section
open Go Go.Rx Go.RowKit
structure PX where
 name:ByteArray
 cd:Int
 size:Int
 path:Bool
 ok:Bool
def bL:Hook:={ X:=PX,out:=fun _ s x=>(.tup [.agg [.str x.name false,.int .i64 x.cd false,.int .i64 x.size false,.bool x.path false,.one (.slice none 0 0) rfl],.bool x.ok false],s.objs) }
def J0:Hooks:={ calls:=fun f=>if f=14 then some bL else if f=37∨f=38 then some bl else none,loops:=fun f k=>none }
noncomputable abbrev bB(code:Int)(w:World)(k0_:ByteArray)(k1_:Int):T:=(.leaf .ret [(.tup [(.agg [(.str k0_ true),(.int .i64 code false),(.int .i64 k1_ true),(.bool (code == (400:Int)) false),(.one (.slice none 0 0) rfl)]),(.bool true true)])] (SS.mk [(.cells [(.str k0_ true),(.int .i64 code false),(.int .i64 k1_ true),(.bool (code == (400:Int)) false),(.one (.slice none 0 0) rfl)] 5 34 0 0)] [] true w []))
noncomputable abbrev EL:List SV:=[(.str (ByteArray.mk #[]) true),(.int .i64 0 true),(.int .i64 0 true),(.bool false true),(.one (.slice none 0 0) rfl)]
theorem Lx(code:Int)(w:World):am Tryz.prog au 1000 14 [.int .i64 code false] (SS.at w) =
(.split (code == (4:Int)) (bB code w (ByteArray.mk #[105,112,52]) 32) (.split (code == (6:Int)) (bB code w (ByteArray.mk #[116,99,112]) 16) (.split (code == (33:Int)) (bB code w (ByteArray.mk #[100,99,99,112]) 16) (.split (code == (41:Int)) (bB code w (ByteArray.mk #[105,112,54]) 128) (.split (code == (42:Int)) (bB code w (ByteArray.mk #[105,112,54,122,111,110,101]) (-1)) (.split (code == (43:Int)) (bB code w (ByteArray.mk #[105,112,99,105,100,114]) 8) (.split (code == (53:Int)) (bB code w (ByteArray.mk #[100,110,115]) (-1)) (.split (code == (54:Int)) (bB code w (ByteArray.mk #[100,110,115,52]) (-1)) (.split (code == (55:Int)) (bB code w (ByteArray.mk #[100,110,115,54]) (-1)) (.split (code == (56:Int)) (bB code w (ByteArray.mk #[100,110,115,97,100,100,114]) (-1)) (.split (code == (132:Int)) (bB code w (ByteArray.mk #[115,99,116,112]) 16) (.split (code == (273:Int)) (bB code w (ByteArray.mk #[117,100,112]) 16) (.split (code == (276:Int)) (bB code w (ByteArray.mk #[112,50,112,45,119,101,98,114,116,99,45,100,105,114,101,99,116]) 0) (.split (code == (280:Int)) (bB code w (ByteArray.mk #[119,101,98,114,116,99,45,100,105,114,101,99,116]) 0) (.split (code == (281:Int)) (bB code w (ByteArray.mk #[119,101,98,114,116,99]) 0) (.split (code == (290:Int)) (bB code w (ByteArray.mk #[112,50,112,45,99,105,114,99,117,105,116]) 0) (.split (code == (301:Int)) (bB code w (ByteArray.mk #[117,100,116]) 0) (.split (code == (302:Int)) (bB code w (ByteArray.mk #[117,116,112]) 0) (.split (code == (400:Int)) (bB code w (ByteArray.mk #[117,110,105,120]) (-1)) (.split (code == (421:Int)) (bB code w (ByteArray.mk #[112,50,112]) (-1)) (.split (code == (443:Int)) (bB code w (ByteArray.mk #[104,116,116,112,115]) 0) (.split (code == (444:Int)) (bB code w (ByteArray.mk #[111,110,105,111,110]) 96) (.split (code == (445:Int)) (bB code w (ByteArray.mk #[111,110,105,111,110,51]) 296) (.split (code == (446:Int)) (bB code w (ByteArray.mk #[103,97,114,108,105,99,54,52]) (-1)) (.split (code == (447:Int)) (bB code w (ByteArray.mk #[103,97,114,108,105,99,51,50]) (-1)) (.split (code == (448:Int)) (bB code w (ByteArray.mk #[116,108,115]) 0) (.split (code == (449:Int)) (bB code w (ByteArray.mk #[115,110,105]) (-1)) (.split (code == (454:Int)) (bB code w (ByteArray.mk #[110,111,105,115,101]) 0) (.split (code == (460:Int)) (bB code w (ByteArray.mk #[113,117,105,99]) 0) (.split (code == (461:Int)) (bB code w (ByteArray.mk #[113,117,105,99,45,118,49]) 0) (.split (code == (465:Int)) (bB code w (ByteArray.mk #[119,101,98,116,114,97,110,115,112,111,114,116]) 0) (.split (code == (466:Int)) (bB code w (ByteArray.mk #[99,101,114,116,104,97,115,104]) (-1)) (.split (code == (477:Int)) (bB code w (ByteArray.mk #[119,115]) 0) (.split (code == (478:Int)) (bB code w (ByteArray.mk #[119,115,115]) 0) (.split (code == (480:Int)) (bB code w (ByteArray.mk #[104,116,116,112]) 0) (.split (code == (481:Int)) (bB code w (ByteArray.mk #[104,116,116,112,45,112,97,116,104]) (-1)) (.split (code == (777:Int)) (bB code w (ByteArray.mk #[109,101,109,111,114,121]) 64) (.split (code == (7367777:Int)) (bB code w (ByteArray.mk #[112,108,97,105,110,116,101,120,116,118,50]) 0) (.leaf .ret [(.tup [(.agg EL),(.bool false true)])] (SS.mk [(.cells EL 5 34 0 0)] [] true w [])))))))))))))))))))))))))))))))))))))))):=by kernel_rfl
theorem Qd(code:Int)(w:World):(by have h:=Lx code w;unfold EL bB at h;exact type_of% h):=Lx code w
noncomputable abbrev kJ(code:Int)(A:Option Addr)(n c:Nat)(x0:(Hook.X (bL)))(w0:World)(b0:List Nat):SS:=(SS.mk [(.cells [(.int .i64 code false),(.xs A n c)] 2 31 0 0),(.cells [(.str x0.name false),(.int .i64 x0.cd false),(.int .i64 x0.size false),(.bool x0.path false),(.one (.slice none 0 0) rfl)] 5 34 0 0)] [] true w0 b0)
noncomputable abbrev sE(w0:World)(b0:List Nat)(A:Option Addr)(n:Nat)(code:Int)(c:Nat)(x0:(Hook.X (bL)))(k0_:Nat):T:=(.need (canBytes w0 b0 A n) (.call k0_ [(.str (bytesAt w0 A n) false)] (kJ code A n c x0 w0 b0) (Hook.X (bl)) (Hook.out (bl) [(.str (bytesAt w0 A n) false)] (kJ code A n c x0 w0 b0)) fun x1 w1 b1=>(.leaf .ret [(.bool x1 false)] (kJ code A n c x0 w1 b1))))
theorem Lq(code:Int)(A:Option Addr)(n c:Nat)(w:World):am Tryz.prog J0 1000 13 [.agg [.int .i64 code false,.xs A n c]] (SS.at w) =
(.hc 14 [(.int .i64 code false)] (SS.mk [(.cells [(.int .i64 code false),(.xs A n c)] 2 31 0 0)] [] true w []) (bL) fun x0 w0 b0=>(.split (!x0.ok) (.leaf .ret [(.bool false true)] (kJ code A n c x0 w0 b0)) (.split (decide (x0.size ≥ (0:Int))) (.split ((↑n:Int) == i64.wrap (x0.size.tdiv (8:Int))) (.split (code != (444:Int)) (.leaf .ret [(.bool (code != (445:Int)) false)] (kJ code A n c x0 w0 b0)) (.leaf .ret [(.bool false true)] (kJ code A n c x0 w0 b0))) (.leaf .ret [(.bool false true)] (kJ code A n c x0 w0 b0))) (.split (code == (400:Int)) (sE w0 b0 A n code c x0 37) (.split (code == (42:Int)) (sE w0 b0 A n code c x0 38) (.split (decide (code ≥ (53:Int))) (.split (decide (code<=(56:Int))) (sE w0 b0 A n code c x0 38) (.split (code == (449:Int)) (sE w0 b0 A n code c x0 38) (.leaf .ret [(.bool false true)] (kJ code A n c x0 w0 b0)))) (.split (code == (449:Int)) (sE w0 b0 A n code c x0 38) (.leaf .ret [(.bool false true)] (kJ code A n c x0 w0 b0))))))))):=by kernel_rfl
theorem Qa(code:Int)(A:Option Addr)(n c:Nat)(w:World):(by have h:=Lq code A n c w;unfold sE kJ at h;exact type_of% h):=Lq code A n c w
def JD:SE->List Nat
 | .normal=>[0]
 | .ret=>[2]
 |_=>[]
def Cf(s:ByteArray):SE->List Nat
 | .normal=>[0,3]
 | .ret=>[]
 |_=>[0,3]
def Da:LoopHook:=bK 32 Bool .ret [2] (fun b=>[.bool b false]) Unit (.exit 0) [] (fun _=>[])
def wZ(s:ByteArray):LoopHook:=bK 32 Nat (.exit 2) [0,3] (fun n=>[.str s false,.int .i64 n false]) Unit .ret [] (fun _=>[])
def J1:Hooks:={ calls:=fun f=>none,loops:=fun f k=>if k=2 then some Da else none }
def Gc(s:ByteArray):Hooks:={ calls:=fun f=>if f=38 then some bl else none,loops:=fun f k=>some (wZ s) }
noncomputable abbrev AV(s:ByteArray):List SV:=([(.str s false),(.tup []),(.bool false true)]++List.replicate 29 aA)
theorem Ly(s:ByteArray)(w:World):am Tryz.prog J1 1000 37 [.str s false] (SS.at w) =
(.loop 37 (ar Tryz.prog 37 2) (AV s) (SS.mk [] [] true w []) (LoopHook.X (Da)) (LoopHook.out (Da) (AV s) (SS.mk [] [] true w [])) (fun x0 w0 b0=>(.leaf .ret [(.bool x0.fst false)] (SS.mk [] [] true w0 b0))) (LoopHook.Y (Da)) (LoopHook.out' (Da) (AV s) (SS.mk [] [] true w [])) (fun x0 w0 b0=>(.leaf .ret [(.bool false true)] (SS.mk [] [] true w0 b0)))):=by kernel_rfl
theorem Qe(s:ByteArray)(w:World):(by have h:=Ly s w;unfold AV at h;exact type_of% h):=Ly s w
noncomputable abbrev AU(s:ByteArray)(g:Nat->Value):List SV:=[(.str s false),(.raw (g 1)),(.raw (g 2)),(.int .i64 1 true),(.str s false),(.int .i64 ((↑s.size:Int)) false),(.bool true true),(.str s false),(.int .u8 ((↑(s.data.toList.getD 0 (0:UInt8)).toNat:Int)) false),(.bool false true),(.raw (g 10)),(.raw (g 11)),(.raw (g 12)),(.raw (g 13)),(.raw (g 14)),(.raw (g 15)),(.raw (g 16)),(.raw (g 17)),(.raw (g 18)),(.raw (g 19)),(.raw (g 20)),(.raw (g 21)),(.raw (g 22)),(.raw (g 23)),(.raw (g 24)),(.raw (g 25)),(.raw (g 26)),(.raw (g 27)),(.raw (g 28)),(.raw (g 29)),(.raw (g 30)),(.raw (g 31))]
theorem La(s:ByteArray)(w:World)(g:Nat->Value):aK Tryz.prog (Gc s) 1000 37 (ar Tryz.prog 37 2) (az ((JD .normal).zip [.str s false]) g 32 0) (fun e a s=>.leaf e (ep JD e a) s) (SS.at w) =
(.split (decide ((↑s.size:Int) > (0:Int))) (.need ((0:Int)<=(0:Int)/\(0:Int)<(↑s.size:Int)) (.split ((↑(s.data.toList.getD 0 (0:UInt8)).toNat:Int) != (47:Int)) (.leaf .ret [(.bool false true)] (SS.mk [] [] true w [])) (.loop 37 (ar Tryz.prog 37 6) (AU s g) (SS.mk [] [] true w []) (LoopHook.X (wZ s)) (LoopHook.out (wZ s) (AU s g) (SS.mk [] [] true w [])) (fun x0 w0 b0=>(.need ((0:Int)<=(↑x0.fst:Int)/\(↑x0.fst:Int)<=(↑s.size:Int)) (.need ((0:Int)<=(1:Int)/\(1:Int)<=(↑(↑x0.fst:Int).toNat:Int)) (.hc 38 [(.str (s.extract 1 (↑x0.fst:Int).toNat) false)] (SS.mk [] [] true w0 b0) (bl) fun x1 w1 b1=>(.split (!x1) (.leaf .ret [(.bool false true)] (SS.mk [] [] true w1 b1)) (.need ((0:Int)<=(↑x0.fst:Int)/\(↑x0.fst:Int)<=(↑s.size:Int)) (.split ((s.extract (↑x0.fst:Int).toNat s.size).toList == (ByteArray.mk #[]).toList) (.leaf .ret [(.bool true true)] (SS.mk [] [] true w1 b1)) (.leaf .normal [(.str (s.extract (↑x0.fst:Int).toNat s.size) false)] (SS.mk [] [] true w1 b1))))))))) (LoopHook.Y (wZ s)) (LoopHook.out' (wZ s) (AU s g) (SS.mk [] [] true w [])) (fun x0 w0 b0=>(.leaf .ret [(.raw (x0.snd 2))] (SS.mk [] [] true w0 b0)))))) (.leaf (.exit 0) [] (SS.mk [] [] true w []))):=by kernel_rfl
theorem P0(s:ByteArray)(w:World)(g:Nat->Value):(by have h:=La s w g;unfold AU at h;exact type_of% h):=La s w g
theorem Nq(s:ByteArray)(n:Nat)(w:World)(g:Nat->Value):aK Tryz.prog au 1000 37 (ar Tryz.prog 37 6) (az ((Cf s .normal).zip [.str s false,.int .i64 n false]) g 32 0) (fun e a t=>.leaf e (ep (Cf s) e a) t) (SS.at w) =
 (.split (decide ((↑n:Int)<(↑s.size:Int)))
  (.need ((0:Int)<=(↑n:Int)/\(↑n:Int)<(↑s.size:Int))
  (.split ((↑(s.data.toList.getD (↑n:Int).toNat (0:UInt8)).toNat:Int) != (47:Int))
  (.leaf .normal [(.str s false),(.int .i64 (i64.wrap ((↑n:Int)+(1:Int))) false)] (SS.mk [] [] true w []))
  (.leaf (.exit 2) [(.str s false),(.int .i64 ((↑n:Int)) false)] (SS.mk [] [] true w []))))
  (.leaf (.exit 2) [(.str s false),(.int .i64 ((↑n:Int)) false)] (SS.mk [] [] true w []))):=by kernel_rfl
def aY:List Int:=[4,6,33,41,42,43,53,54,55,56,132,273,276,280,281,290,301,302,400,421,443,444,445,446,447,448,449,454,460,461,465,466,477,478,480,481,777,7367777]
end
section
open Go Go.Rx Go.RowKit
structure PS where
 name:List UInt8
 vc:List UInt8
 size:Int
 path:Bool
 tr:Value
instance:Inhabited PS:=⟨⟨[],[],0,false,.nilIface⟩⟩
def dd(a b:FuncId)(c:Value):Value:=.iface 147 (.agg #[.func (.func a) #[] #[],.func (.func b) #[] #[],c])
def KV:List (Nat×PS):=[
 (4,⟨[105,112,52],[4],32,false,dd 163 164 .nilFunc⟩),
 (6,⟨[116,99,112],[6],16,false,dd 165 166 .nilFunc⟩),
 (33,⟨[100,99,99,112],[33],16,false,dd 165 166 .nilFunc⟩),
 (41,⟨[105,112,54],[41],128,false,dd 170 171 .nilFunc⟩),
 (42,⟨[105,112,54,122,111,110,101],[42],-1,false,dd 172 173 (.func (.func 174) #[] #[])⟩),
 (43,⟨[105,112,99,105,100,114],[43],8,false,dd 175 176 (.func (.func 177) #[] #[])⟩),
 (53,⟨[100,110,115],[53],-1,false,dd 167 168 (.func (.func 169) #[] #[])⟩),
 (54,⟨[100,110,115,52],[54],-1,false,dd 167 168 (.func (.func 169) #[] #[])⟩),
 (55,⟨[100,110,115,54],[55],-1,false,dd 167 168 (.func (.func 169) #[] #[])⟩),
 (56,⟨[100,110,115,97,100,100,114],[56],-1,false,dd 167 168 (.func (.func 169) #[] #[])⟩),
 (132,⟨[115,99,116,112],[132,1],16,false,dd 165 166 .nilFunc⟩),
 (273,⟨[117,100,112],[145,2],16,false,dd 165 166 .nilFunc⟩),
 (276,⟨[112,50,112,45,119,101,98,114,116,99,45,100,105,114,101,99,116],[148,2],0,false,.nilIface⟩),
 (280,⟨[119,101,98,114,116,99,45,100,105,114,101,99,116],[152,2],0,false,.nilIface⟩),
 (281,⟨[119,101,98,114,116,99],[153,2],0,false,.nilIface⟩),
 (290,⟨[112,50,112,45,99,105,114,99,117,105,116],[162,2],0,false,.nilIface⟩),
 (301,⟨[117,100,116],[173,2],0,false,.nilIface⟩),
 (302,⟨[117,116,112],[174,2],0,false,.nilIface⟩),
 (400,⟨[117,110,105,120],[144,3],-1,true,dd 199 200 (.func (.func 201) #[] #[])⟩),
 (421,⟨[112,50,112],[165,3],-1,false,dd 196 197 (.func (.func 198) #[] #[])⟩),
 (443,⟨[104,116,116,112,115],[187,3],0,false,.nilIface⟩),
 (444,⟨[111,110,105,111,110],[188,3],96,false,dd 178 179 (.func (.func 180) #[] #[])⟩),
 (445,⟨[111,110,105,111,110,51],[189,3],296,false,dd 181 182 (.func (.func 183) #[] #[])⟩),
 (446,⟨[103,97,114,108,105,99,54,52],[190,3],-1,false,dd 184 185 (.func (.func 186) #[] #[])⟩),
 (447,⟨[103,97,114,108,105,99,51,50],[191,3],-1,false,dd 187 188 (.func (.func 189) #[] #[])⟩),
 (448,⟨[116,108,115],[192,3],0,false,.nilIface⟩),
 (449,⟨[115,110,105],[193,3],-1,false,dd 167 168 (.func (.func 169) #[] #[])⟩),
 (454,⟨[110,111,105,115,101],[198,3],0,false,.nilIface⟩),
 (460,⟨[113,117,105,99],[204,3],0,false,.nilIface⟩),
 (461,⟨[113,117,105,99,45,118,49],[205,3],0,false,.nilIface⟩),
 (465,⟨[119,101,98,116,114,97,110,115,112,111,114,116],[209,3],0,false,.nilIface⟩),
 (466,⟨[99,101,114,116,104,97,115,104],[210,3],-1,false,dd 190 191 (.func (.func 192) #[] #[])⟩),
 (477,⟨[119,115],[221,3],0,false,.nilIface⟩),
 (478,⟨[119,115,115],[222,3],0,false,.nilIface⟩),
 (480,⟨[104,116,116,112],[224,3],0,false,.nilIface⟩),
 (481,⟨[104,116,116,112,45,112,97,116,104],[225,3],-1,false,dd 193 194 (.func (.func 195) #[] #[])⟩),
 (777,⟨[109,101,109,111,114,121],[137,6],64,false,dd 202 203 (.func (.func 204) #[] #[])⟩),
 (7367777,⟨[112,108,97,105,110,116,101,120,116,118,50],[225,216,193,3],0,false,.nilIface⟩)]
def an(k:Int):PS:=(KV.lookup k.toNat).getD default
noncomputable abbrev cm(k0_:ByteArray)(k1_:Int)(k2_:Nat)(k3_:Int)(k4_ k5_:Nat):List SV:=[(.str k0_ true),(.int .i64 k1_ true),(.slc 2 0 k2_ k2_ true true),(.int .i64 k3_ true),(.bool false true),(.ifc 147 (.agg [(.fn (.func k4_) [] []),(.fn (.func k5_) [] []),(.one .nilFunc rfl)]))]
noncomputable abbrev vI(w:World):T:=(.leaf .ret [(.agg (cm (ByteArray.mk #[105,112,52]) 4 1 32 163 164))] (SS.mk [(.cells (cm (ByteArray.mk #[105,112,52]) 4 1 32 163 164) 6 88 0 0),(.cells (cm (ByteArray.mk #[105,112,52]) 4 1 32 163 164) 6 88 0 0),(.cells [(.int .u8 4 true)] 1 5 0 0)] [] true w []))
theorem Oh(w:World):am Tryz.prog au 3000 84 [.int .i64 4 true] (SS.at w) =
(vI w):=by kernel_rfl
theorem p4(w:World):(by have h:=Oh w;unfold vI cm at h;exact type_of% h):=Oh w
noncomputable abbrev vX(w:World):T:=(.leaf .ret [(.agg (cm (ByteArray.mk #[116,99,112]) 6 1 16 165 166))] (SS.mk [(.cells (cm (ByteArray.mk #[116,99,112]) 6 1 16 165 166) 6 88 0 0),(.cells (cm (ByteArray.mk #[116,99,112]) 6 1 16 165 166) 6 88 0 0),(.cells [(.int .u8 6 true)] 1 5 0 0)] [] true w []))
theorem Oi(w:World):am Tryz.prog au 3000 84 [.int .i64 6 true] (SS.at w) =
(vX w):=by kernel_rfl
theorem p6(w:World):(by have h:=Oi w;unfold vX cm at h;exact type_of% h):=Oi w
noncomputable abbrev vG(w:World):T:=(.leaf .ret [(.agg (cm (ByteArray.mk #[100,99,99,112]) 33 1 16 165 166))] (SS.mk [(.cells (cm (ByteArray.mk #[100,99,99,112]) 33 1 16 165 166) 6 88 0 0),(.cells (cm (ByteArray.mk #[100,99,99,112]) 33 1 16 165 166) 6 88 0 0),(.cells [(.int .u8 33 true)] 1 5 0 0)] [] true w []))
theorem KM(w:World):am Tryz.prog au 3000 84 [.int .i64 33 true] (SS.at w) =
(vG w):=by kernel_rfl
theorem PD(w:World):(by have h:=KM w;unfold vG cm at h;exact type_of% h):=KM w
noncomputable abbrev vH(w:World):T:=(.leaf .ret [(.agg (cm (ByteArray.mk #[105,112,54]) 41 1 128 170 171))] (SS.mk [(.cells (cm (ByteArray.mk #[105,112,54]) 41 1 128 170 171) 6 88 0 0),(.cells (cm (ByteArray.mk #[105,112,54]) 41 1 128 170 171) 6 88 0 0),(.cells [(.int .u8 41 true)] 1 5 0 0)] [] true w []))
theorem KN(w:World):am Tryz.prog au 3000 84 [.int .i64 41 true] (SS.at w) =
(vH w):=by kernel_rfl
theorem PE(w:World):(by have h:=KN w;unfold vH cm at h;exact type_of% h):=KN w
noncomputable abbrev aI(k0_:ByteArray)(k1_:Int)(k2_:Nat)(k3_:Int)(k4_ k5_ k6_:Nat):List SV:=[(.str k0_ true),(.int .i64 k1_ true),(.slc 2 0 k2_ k2_ true true),(.int .i64 k3_ true),(.bool false true),(.ifc 147 (.agg [(.fn (.func k4_) [] []),(.fn (.func k5_) [] []),(.fn (.func k6_) [] [])]))]
noncomputable abbrev A5(w:World):T:=(.leaf .ret [(.agg (aI (ByteArray.mk #[105,112,54,122,111,110,101]) 42 1 (-1) 172 173 174))] (SS.mk [(.cells (aI (ByteArray.mk #[105,112,54,122,111,110,101]) 42 1 (-1) 172 173 174) 6 88 0 0),(.cells (aI (ByteArray.mk #[105,112,54,122,111,110,101]) 42 1 (-1) 172 173 174) 6 88 0 0),(.cells [(.int .u8 42 true)] 1 5 0 0)] [] true w []))
theorem KO(w:World):am Tryz.prog au 3000 84 [.int .i64 42 true] (SS.at w) =
(A5 w):=by kernel_rfl
theorem PF(w:World):(by have h:=KO w;unfold A5 aI at h;exact type_of% h):=KO w
noncomputable abbrev vy(w:World):T:=(.leaf .ret [(.agg (aI (ByteArray.mk #[105,112,99,105,100,114]) 43 1 8 175 176 177))] (SS.mk [(.cells (aI (ByteArray.mk #[105,112,99,105,100,114]) 43 1 8 175 176 177) 6 88 0 0),(.cells (aI (ByteArray.mk #[105,112,99,105,100,114]) 43 1 8 175 176 177) 6 88 0 0),(.cells [(.int .u8 43 true)] 1 5 0 0)] [] true w []))
theorem KP(w:World):am Tryz.prog au 3000 84 [.int .i64 43 true] (SS.at w) =
(vy w):=by kernel_rfl
theorem PG(w:World):(by have h:=KP w;unfold vy aI at h;exact type_of% h):=KP w
noncomputable abbrev vE(w:World):T:=(.leaf .ret [(.agg (aI (ByteArray.mk #[100,110,115]) 53 1 (-1) 167 168 169))] (SS.mk [(.cells (aI (ByteArray.mk #[100,110,115]) 53 1 (-1) 167 168 169) 6 88 0 0),(.cells (aI (ByteArray.mk #[100,110,115]) 53 1 (-1) 167 168 169) 6 88 0 0),(.cells [(.int .u8 53 true)] 1 5 0 0)] [] true w []))
theorem KQ(w:World):am Tryz.prog au 3000 84 [.int .i64 53 true] (SS.at w) =
(vE w):=by kernel_rfl
theorem PH(w:World):(by have h:=KQ w;unfold vE aI at h;exact type_of% h):=KQ w
noncomputable abbrev vz(w:World):T:=(.leaf .ret [(.agg (aI (ByteArray.mk #[100,110,115,52]) 54 1 (-1) 167 168 169))] (SS.mk [(.cells (aI (ByteArray.mk #[100,110,115,52]) 54 1 (-1) 167 168 169) 6 88 0 0),(.cells (aI (ByteArray.mk #[100,110,115,52]) 54 1 (-1) 167 168 169) 6 88 0 0),(.cells [(.int .u8 54 true)] 1 5 0 0)] [] true w []))
theorem KR(w:World):am Tryz.prog au 3000 84 [.int .i64 54 true] (SS.at w) =
(vz w):=by kernel_rfl
theorem PI(w:World):(by have h:=KR w;unfold vz aI at h;exact type_of% h):=KR w
noncomputable abbrev vB(w:World):T:=(.leaf .ret [(.agg (aI (ByteArray.mk #[100,110,115,54]) 55 1 (-1) 167 168 169))] (SS.mk [(.cells (aI (ByteArray.mk #[100,110,115,54]) 55 1 (-1) 167 168 169) 6 88 0 0),(.cells (aI (ByteArray.mk #[100,110,115,54]) 55 1 (-1) 167 168 169) 6 88 0 0),(.cells [(.int .u8 55 true)] 1 5 0 0)] [] true w []))
theorem KS(w:World):am Tryz.prog au 3000 84 [.int .i64 55 true] (SS.at w) =
(vB w):=by kernel_rfl
theorem PJ(w:World):(by have h:=KS w;unfold vB aI at h;exact type_of% h):=KS w
noncomputable abbrev A6(w:World):T:=(.leaf .ret [(.agg (aI (ByteArray.mk #[100,110,115,97,100,100,114]) 56 1 (-1) 167 168 169))] (SS.mk [(.cells (aI (ByteArray.mk #[100,110,115,97,100,100,114]) 56 1 (-1) 167 168 169) 6 88 0 0),(.cells (aI (ByteArray.mk #[100,110,115,97,100,100,114]) 56 1 (-1) 167 168 169) 6 88 0 0),(.cells [(.int .u8 56 true)] 1 5 0 0)] [] true w []))
theorem KT(w:World):am Tryz.prog au 3000 84 [.int .i64 56 true] (SS.at w) =
(A6 w):=by kernel_rfl
theorem PK(w:World):(by have h:=KT w;unfold A6 aI at h;exact type_of% h):=KT w
noncomputable abbrev bD(k0_ k1_:Int):SObj:=(.cells [(.int .u8 k0_ true),(.int .u8 k1_ true)] 2 5 0 0)
noncomputable abbrev vY(w:World):T:=(.leaf .ret [(.agg (cm (ByteArray.mk #[115,99,116,112]) 132 2 16 165 166))] (SS.mk [(.cells (cm (ByteArray.mk #[115,99,116,112]) 132 2 16 165 166) 6 88 0 0),(.cells (cm (ByteArray.mk #[115,99,116,112]) 132 2 16 165 166) 6 88 0 0),(bD 132 1)] [] true w []))
theorem Gn(w:World):am Tryz.prog au 3000 84 [.int .i64 132 true] (SS.at w) =
(vY w):=by kernel_rfl
theorem Mp(w:World):(by have h:=Gn w;unfold vY bD cm at h;exact type_of% h):=Gn w
noncomputable abbrev v8(w:World):T:=(.leaf .ret [(.agg (cm (ByteArray.mk #[117,100,112]) 273 2 16 165 166))] (SS.mk [(.cells (cm (ByteArray.mk #[117,100,112]) 273 2 16 165 166) 6 88 0 0),(.cells (cm (ByteArray.mk #[117,100,112]) 273 2 16 165 166) 6 88 0 0),(bD 145 2)] [] true w []))
theorem Gp(w:World):am Tryz.prog au 3000 84 [.int .i64 273 true] (SS.at w) =
(v8 w):=by kernel_rfl
theorem Mq(w:World):(by have h:=Gp w;unfold v8 bD cm at h;exact type_of% h):=Gp w
noncomputable abbrev aX(w:World)(k0_:ByteArray)(k1_ k2_ k3_:Int):T:=(.leaf .ret [(.agg [(.str k0_ true),(.int .i64 k1_ true),(.slc 2 0 2 2 true true),(.int .i64 0 true),(.bool false true),(.one .nilIface rfl)])] (SS.mk [(.cells [(.str k0_ true),(.int .i64 k1_ true),(.slc 2 0 2 2 true true),(.int .i64 0 true),(.bool false true),(.one .nilIface rfl)] 6 88 0 0),(.cells [(.str k0_ true),(.int .i64 k1_ true),(.slc 2 0 2 2 true true),(.int .i64 0 true),(.bool false true),(.one .nilIface rfl)] 6 88 0 0),(.cells [(.int .u8 k2_ true),(.int .u8 k3_ true)] 2 5 0 0)] [] true w []))
theorem Gq(w:World):am Tryz.prog au 3000 84 [.int .i64 276 true] (SS.at w) =
(aX w (ByteArray.mk #[112,50,112,45,119,101,98,114,116,99,45,100,105,114,101,99,116]) 276 148 2):=by kernel_rfl
theorem Mr(w:World):(by have h:=Gq w;unfold aX at h;exact type_of% h):=Gq w
theorem Gr(w:World):am Tryz.prog au 3000 84 [.int .i64 280 true] (SS.at w) =
(aX w (ByteArray.mk #[119,101,98,114,116,99,45,100,105,114,101,99,116]) 280 152 2):=by kernel_rfl
theorem Ms(w:World):(by have h:=Gr w;unfold aX at h;exact type_of% h):=Gr w
theorem Gs(w:World):am Tryz.prog au 3000 84 [.int .i64 281 true] (SS.at w) =
(aX w (ByteArray.mk #[119,101,98,114,116,99]) 281 153 2):=by kernel_rfl
theorem Mt(w:World):(by have h:=Gs w;unfold aX at h;exact type_of% h):=Gs w
theorem Gu(w:World):am Tryz.prog au 3000 84 [.int .i64 290 true] (SS.at w) =
(aX w (ByteArray.mk #[112,50,112,45,99,105,114,99,117,105,116]) 290 162 2):=by kernel_rfl
theorem Mu(w:World):(by have h:=Gu w;unfold aX at h;exact type_of% h):=Gu w
theorem Gv(w:World):am Tryz.prog au 3000 84 [.int .i64 301 true] (SS.at w) =
(aX w (ByteArray.mk #[117,100,116]) 301 173 2):=by kernel_rfl
theorem Mv(w:World):(by have h:=Gv w;unfold aX at h;exact type_of% h):=Gv w
theorem Gw(w:World):am Tryz.prog au 3000 84 [.int .i64 302 true] (SS.at w) =
(aX w (ByteArray.mk #[117,116,112]) 302 174 2):=by kernel_rfl
theorem Mw(w:World):(by have h:=Gw w;unfold aX at h;exact type_of% h):=Gw w
noncomputable abbrev oL:List SV:=[(.str (ByteArray.mk #[117,110,105,120]) true),(.int .i64 400 true),(.slc 2 0 2 2 true true),(.int .i64 (-1) true),(.bool true true),(.ifc 147 (.agg [(.fn (.func 199) [] []),(.fn (.func 200) [] []),(.fn (.func 201) [] [])]))]
theorem Gx(w:World):am Tryz.prog au 3000 84 [.int .i64 400 true] (SS.at w) =
(.leaf .ret [(.agg oL)] (SS.mk [(.cells oL 6 88 0 0),(.cells oL 6 88 0 0),(bD 144 3)] [] true w [])):=by kernel_rfl
theorem Mx(w:World):(by have h:=Gx w;unfold bD oL at h;exact type_of% h):=Gx w
noncomputable abbrev vW(w:World):T:=(.leaf .ret [(.agg (aI (ByteArray.mk #[112,50,112]) 421 2 (-1) 196 197 198))] (SS.mk [(.cells (aI (ByteArray.mk #[112,50,112]) 421 2 (-1) 196 197 198) 6 88 0 0),(.cells (aI (ByteArray.mk #[112,50,112]) 421 2 (-1) 196 197 198) 6 88 0 0),(bD 165 3)] [] true w []))
theorem Gy(w:World):am Tryz.prog au 3000 84 [.int .i64 421 true] (SS.at w) =
(vW w):=by kernel_rfl
theorem My(w:World):(by have h:=Gy w;unfold vW bD aI at h;exact type_of% h):=Gy w
theorem Gz(w:World):am Tryz.prog au 3000 84 [.int .i64 443 true] (SS.at w) =
(aX w (ByteArray.mk #[104,116,116,112,115]) 443 187 3):=by kernel_rfl
theorem Mz(w:World):(by have h:=Gz w;unfold aX at h;exact type_of% h):=Gz w
noncomputable abbrev vT(w:World):T:=(.leaf .ret [(.agg (aI (ByteArray.mk #[111,110,105,111,110]) 444 2 96 178 179 180))] (SS.mk [(.cells (aI (ByteArray.mk #[111,110,105,111,110]) 444 2 96 178 179 180) 6 88 0 0),(.cells (aI (ByteArray.mk #[111,110,105,111,110]) 444 2 96 178 179 180) 6 88 0 0),(bD 188 3)] [] true w []))
theorem GA(w:World):am Tryz.prog au 3000 84 [.int .i64 444 true] (SS.at w) =
(vT w):=by kernel_rfl
theorem MA(w:World):(by have h:=GA w;unfold vT bD aI at h;exact type_of% h):=GA w
noncomputable abbrev vQ(w:World):T:=(.leaf .ret [(.agg (aI (ByteArray.mk #[111,110,105,111,110,51]) 445 2 296 181 182 183))] (SS.mk [(.cells (aI (ByteArray.mk #[111,110,105,111,110,51]) 445 2 296 181 182 183) 6 88 0 0),(.cells (aI (ByteArray.mk #[111,110,105,111,110,51]) 445 2 296 181 182 183) 6 88 0 0),(bD 189 3)] [] true w []))
theorem GB(w:World):am Tryz.prog au 3000 84 [.int .i64 445 true] (SS.at w) =
(vQ w):=by kernel_rfl
theorem MB(w:World):(by have h:=GB w;unfold vQ bD aI at h;exact type_of% h):=GB w
noncomputable abbrev vK(w:World):T:=(.leaf .ret [(.agg (aI (ByteArray.mk #[103,97,114,108,105,99,54,52]) 446 2 (-1) 184 185 186))] (SS.mk [(.cells (aI (ByteArray.mk #[103,97,114,108,105,99,54,52]) 446 2 (-1) 184 185 186) 6 88 0 0),(.cells (aI (ByteArray.mk #[103,97,114,108,105,99,54,52]) 446 2 (-1) 184 185 186) 6 88 0 0),(bD 190 3)] [] true w []))
theorem GC(w:World):am Tryz.prog au 3000 84 [.int .i64 446 true] (SS.at w) =
(vK w):=by kernel_rfl
theorem MD(w:World):(by have h:=GC w;unfold vK bD aI at h;exact type_of% h):=GC w
noncomputable abbrev vL(w:World):T:=(.leaf .ret [(.agg (aI (ByteArray.mk #[103,97,114,108,105,99,51,50]) 447 2 (-1) 187 188 189))] (SS.mk [(.cells (aI (ByteArray.mk #[103,97,114,108,105,99,51,50]) 447 2 (-1) 187 188 189) 6 88 0 0),(.cells (aI (ByteArray.mk #[103,97,114,108,105,99,51,50]) 447 2 (-1) 187 188 189) 6 88 0 0),(bD 191 3)] [] true w []))
theorem GD(w:World):am Tryz.prog au 3000 84 [.int .i64 447 true] (SS.at w) =
(vL w):=by kernel_rfl
theorem ME(w:World):(by have h:=GD w;unfold vL bD aI at h;exact type_of% h):=GD w
theorem GF(w:World):am Tryz.prog au 3000 84 [.int .i64 448 true] (SS.at w) =
(aX w (ByteArray.mk #[116,108,115]) 448 192 3):=by kernel_rfl
theorem MF(w:World):(by have h:=GF w;unfold aX at h;exact type_of% h):=GF w
noncomputable abbrev vV(w:World):T:=(.leaf .ret [(.agg (aI (ByteArray.mk #[115,110,105]) 449 2 (-1) 167 168 169))] (SS.mk [(.cells (aI (ByteArray.mk #[115,110,105]) 449 2 (-1) 167 168 169) 6 88 0 0),(.cells (aI (ByteArray.mk #[115,110,105]) 449 2 (-1) 167 168 169) 6 88 0 0),(bD 193 3)] [] true w []))
theorem GG(w:World):am Tryz.prog au 3000 84 [.int .i64 449 true] (SS.at w) =
(vV w):=by kernel_rfl
theorem MG(w:World):(by have h:=GG w;unfold vV bD aI at h;exact type_of% h):=GG w
theorem GH(w:World):am Tryz.prog au 3000 84 [.int .i64 454 true] (SS.at w) =
(aX w (ByteArray.mk #[110,111,105,115,101]) 454 198 3):=by kernel_rfl
theorem MH(w:World):(by have h:=GH w;unfold aX at h;exact type_of% h):=GH w
theorem GI(w:World):am Tryz.prog au 3000 84 [.int .i64 460 true] (SS.at w) =
(aX w (ByteArray.mk #[113,117,105,99]) 460 204 3):=by kernel_rfl
theorem MI(w:World):(by have h:=GI w;unfold aX at h;exact type_of% h):=GI w
theorem GJ(w:World):am Tryz.prog au 3000 84 [.int .i64 461 true] (SS.at w) =
(aX w (ByteArray.mk #[113,117,105,99,45,118,49]) 461 205 3):=by kernel_rfl
theorem MJ(w:World):(by have h:=GJ w;unfold aX at h;exact type_of% h):=GJ w
theorem GK(w:World):am Tryz.prog au 3000 84 [.int .i64 465 true] (SS.at w) =
(aX w (ByteArray.mk #[119,101,98,116,114,97,110,115,112,111,114,116]) 465 209 3):=by kernel_rfl
theorem MK(w:World):(by have h:=GK w;unfold aX at h;exact type_of% h):=GK w
noncomputable abbrev vJ(w:World):T:=(.leaf .ret [(.agg (aI (ByteArray.mk #[99,101,114,116,104,97,115,104]) 466 2 (-1) 190 191 192))] (SS.mk [(.cells (aI (ByteArray.mk #[99,101,114,116,104,97,115,104]) 466 2 (-1) 190 191 192) 6 88 0 0),(.cells (aI (ByteArray.mk #[99,101,114,116,104,97,115,104]) 466 2 (-1) 190 191 192) 6 88 0 0),(bD 210 3)] [] true w []))
theorem GL(w:World):am Tryz.prog au 3000 84 [.int .i64 466 true] (SS.at w) =
(vJ w):=by kernel_rfl
theorem ML(w:World):(by have h:=GL w;unfold vJ bD aI at h;exact type_of% h):=GL w
theorem GM(w:World):am Tryz.prog au 3000 84 [.int .i64 477 true] (SS.at w) =
(aX w (ByteArray.mk #[119,115]) 477 221 3):=by kernel_rfl
theorem MM(w:World):(by have h:=GM w;unfold aX at h;exact type_of% h):=GM w
theorem GN(w:World):am Tryz.prog au 3000 84 [.int .i64 478 true] (SS.at w) =
(aX w (ByteArray.mk #[119,115,115]) 478 222 3):=by kernel_rfl
theorem MO(w:World):(by have h:=GN w;unfold aX at h;exact type_of% h):=GN w
theorem GO(w:World):am Tryz.prog au 3000 84 [.int .i64 480 true] (SS.at w) =
(aX w (ByteArray.mk #[104,116,116,112]) 480 224 3):=by kernel_rfl
theorem MP(w:World):(by have h:=GO w;unfold aX at h;exact type_of% h):=GO w
noncomputable abbrev jK:ByteArray:=(ByteArray.mk #[104,116,116,112,45,112,97,116,104])
theorem GP(w:World):am Tryz.prog au 3000 84 [.int .i64 481 true] (SS.at w) =
(.leaf .ret [(.agg (aI jK 481 2 (-1) 193 194 195))] (SS.mk [(.cells (aI jK 481 2 (-1) 193 194 195) 6 88 0 0),(.cells (aI jK 481 2 (-1) 193 194 195) 6 88 0 0),(bD 225 3)] [] true w [])):=by kernel_rfl
theorem MQ(w:World):(by have h:=GP w;unfold jK bD aI at h;exact type_of% h):=GP w
noncomputable abbrev vR(w:World):T:=(.leaf .ret [(.agg (aI (ByteArray.mk #[109,101,109,111,114,121]) 777 2 64 202 203 204))] (SS.mk [(.cells (aI (ByteArray.mk #[109,101,109,111,114,121]) 777 2 64 202 203 204) 6 88 0 0),(.cells (aI (ByteArray.mk #[109,101,109,111,114,121]) 777 2 64 202 203 204) 6 88 0 0),(bD 137 6)] [] true w []))
theorem GQ(w:World):am Tryz.prog au 3000 84 [.int .i64 777 true] (SS.at w) =
(vR w):=by kernel_rfl
theorem MR(w:World):(by have h:=GQ w;unfold vR bD aI at h;exact type_of% h):=GQ w
noncomputable abbrev xU:List SV:=[(.str (ByteArray.mk #[112,108,97,105,110,116,101,120,116,118,50]) true),(.int .i64 7367777 true),(.slc 2 0 4 4 true true),(.int .i64 0 true),(.bool false true),(.one .nilIface rfl)]
noncomputable abbrev AZ(w:World):T:=(.leaf .ret [(.agg xU)] (SS.mk [(.cells xU 6 88 0 0),(.cells xU 6 88 0 0),(.cells [(.int .u8 225 true),(.int .u8 216 true),(.int .u8 193 true),(.int .u8 3 true)] 4 5 0 0)] [] true w []))
theorem si(w:World):am Tryz.prog au 3000 84 [.int .i64 7367777 true] (SS.at w) =
(AZ w):=by kernel_rfl
theorem DF(w:World):(by have h:=si w;unfold AZ xU at h;exact type_of% h):=si w
theorem Oj(w:World):am Tryz.prog au 3000 88 [.str ⟨#[105,112,52]⟩ true] (SS.at w) =
(vI w):=by kernel_rfl
theorem q4(w:World):(by have h:=Oj w;unfold vI cm at h;exact type_of% h):=Oj w
theorem Ok(w:World):am Tryz.prog au 3000 88 [.str ⟨#[116,99,112]⟩ true] (SS.at w) =
(vX w):=by kernel_rfl
theorem q6(w:World):(by have h:=Ok w;unfold vX cm at h;exact type_of% h):=Ok w
theorem KX(w:World):am Tryz.prog au 3000 88 [.str ⟨#[100,99,99,112]⟩ true] (SS.at w) =
(vG w):=by kernel_rfl
theorem PL(w:World):(by have h:=KX w;unfold vG cm at h;exact type_of% h):=KX w
theorem KY(w:World):am Tryz.prog au 3000 88 [.str ⟨#[105,112,54]⟩ true] (SS.at w) =
(vH w):=by kernel_rfl
theorem PM(w:World):(by have h:=KY w;unfold vH cm at h;exact type_of% h):=KY w
theorem KZ(w:World):am Tryz.prog au 3000 88 [.str ⟨#[105,112,54,122,111,110,101]⟩ true] (SS.at w) =
(A5 w):=by kernel_rfl
theorem PN(w:World):(by have h:=KZ w;unfold A5 aI at h;exact type_of% h):=KZ w
theorem K0(w:World):am Tryz.prog au 3000 88 [.str ⟨#[105,112,99,105,100,114]⟩ true] (SS.at w) =
(vy w):=by kernel_rfl
theorem PO(w:World):(by have h:=K0 w;unfold vy aI at h;exact type_of% h):=K0 w
theorem K1(w:World):am Tryz.prog au 3000 88 [.str ⟨#[100,110,115]⟩ true] (SS.at w) =
(vE w):=by kernel_rfl
theorem PP(w:World):(by have h:=K1 w;unfold vE aI at h;exact type_of% h):=K1 w
theorem K2(w:World):am Tryz.prog au 3000 88 [.str ⟨#[100,110,115,52]⟩ true] (SS.at w) =
(vz w):=by kernel_rfl
theorem PQ(w:World):(by have h:=K2 w;unfold vz aI at h;exact type_of% h):=K2 w
theorem K3(w:World):am Tryz.prog au 3000 88 [.str ⟨#[100,110,115,54]⟩ true] (SS.at w) =
(vB w):=by kernel_rfl
theorem PR(w:World):(by have h:=K3 w;unfold vB aI at h;exact type_of% h):=K3 w
theorem K4(w:World):am Tryz.prog au 3000 88 [.str ⟨#[100,110,115,97,100,100,114]⟩ true] (SS.at w) =
(A6 w):=by kernel_rfl
theorem PT(w:World):(by have h:=K4 w;unfold A6 aI at h;exact type_of% h):=K4 w
theorem GU(w:World):am Tryz.prog au 3000 88 [.str ⟨#[115,99,116,112]⟩ true] (SS.at w) =
(vY w):=by kernel_rfl
theorem MS(w:World):(by have h:=GU w;unfold vY bD cm at h;exact type_of% h):=GU w
theorem GV(w:World):am Tryz.prog au 3000 88 [.str ⟨#[117,100,112]⟩ true] (SS.at w) =
(v8 w):=by kernel_rfl
theorem MT(w:World):(by have h:=GV w;unfold v8 bD cm at h;exact type_of% h):=GV w
theorem GW(w:World):am Tryz.prog au 3000 88 [.str ⟨#[112,50,112,45,119,101,98,114,116,99,45,100,105,114,101,99,116]⟩ true] (SS.at w) =
(aX w (ByteArray.mk #[112,50,112,45,119,101,98,114,116,99,45,100,105,114,101,99,116]) 276 148 2):=by kernel_rfl
theorem MU(w:World):(by have h:=GW w;unfold aX at h;exact type_of% h):=GW w
theorem GX(w:World):am Tryz.prog au 3000 88 [.str ⟨#[119,101,98,114,116,99,45,100,105,114,101,99,116]⟩ true] (SS.at w) =
(aX w (ByteArray.mk #[119,101,98,114,116,99,45,100,105,114,101,99,116]) 280 152 2):=by kernel_rfl
theorem MW(w:World):(by have h:=GX w;unfold aX at h;exact type_of% h):=GX w
theorem GY(w:World):am Tryz.prog au 3000 88 [.str ⟨#[119,101,98,114,116,99]⟩ true] (SS.at w) =
(aX w (ByteArray.mk #[119,101,98,114,116,99]) 281 153 2):=by kernel_rfl
theorem MX(w:World):(by have h:=GY w;unfold aX at h;exact type_of% h):=GY w
theorem GZ(w:World):am Tryz.prog au 3000 88 [.str ⟨#[112,50,112,45,99,105,114,99,117,105,116]⟩ true] (SS.at w) =
(aX w (ByteArray.mk #[112,50,112,45,99,105,114,99,117,105,116]) 290 162 2):=by kernel_rfl
theorem MY(w:World):(by have h:=GZ w;unfold aX at h;exact type_of% h):=GZ w
theorem G4(w:World):am Tryz.prog au 3000 88 [.str ⟨#[117,100,116]⟩ true] (SS.at w) =
(aX w (ByteArray.mk #[117,100,116]) 301 173 2):=by kernel_rfl
theorem MZ(w:World):(by have h:=G4 w;unfold aX at h;exact type_of% h):=G4 w
theorem G5(w:World):am Tryz.prog au 3000 88 [.str ⟨#[117,116,112]⟩ true] (SS.at w) =
(aX w (ByteArray.mk #[117,116,112]) 302 174 2):=by kernel_rfl
theorem M0(w:World):(by have h:=G5 w;unfold aX at h;exact type_of% h):=G5 w
theorem G7(w:World):am Tryz.prog au 3000 88 [.str ⟨#[117,110,105,120]⟩ true] (SS.at w) =
(.leaf .ret [(.agg oL)] (SS.mk [(.cells oL 6 88 0 0),(.cells oL 6 88 0 0),(bD 144 3)] [] true w [])):=by kernel_rfl
theorem M1(w:World):(by have h:=G7 w;unfold bD oL at h;exact type_of% h):=G7 w
theorem G8(w:World):am Tryz.prog au 3000 88 [.str ⟨#[112,50,112]⟩ true] (SS.at w) =
(vW w):=by kernel_rfl
theorem M3(w:World):(by have h:=G8 w;unfold vW bD aI at h;exact type_of% h):=G8 w
theorem G9(w:World):am Tryz.prog au 3000 88 [.str ⟨#[104,116,116,112,115]⟩ true] (SS.at w) =
(aX w (ByteArray.mk #[104,116,116,112,115]) 443 187 3):=by kernel_rfl
theorem M4(w:World):(by have h:=G9 w;unfold aX at h;exact type_of% h):=G9 w
theorem Ha(w:World):am Tryz.prog au 3000 88 [.str ⟨#[111,110,105,111,110]⟩ true] (SS.at w) =
(vT w):=by kernel_rfl
theorem M5(w:World):(by have h:=Ha w;unfold vT bD aI at h;exact type_of% h):=Ha w
theorem Hb(w:World):am Tryz.prog au 3000 88 [.str ⟨#[111,110,105,111,110,51]⟩ true] (SS.at w) =
(vQ w):=by kernel_rfl
theorem M6(w:World):(by have h:=Hb w;unfold vQ bD aI at h;exact type_of% h):=Hb w
theorem Hc(w:World):am Tryz.prog au 3000 88 [.str ⟨#[103,97,114,108,105,99,54,52]⟩ true] (SS.at w) =
(vK w):=by kernel_rfl
theorem M7(w:World):(by have h:=Hc w;unfold vK bD aI at h;exact type_of% h):=Hc w
theorem Hd(w:World):am Tryz.prog au 3000 88 [.str ⟨#[103,97,114,108,105,99,51,50]⟩ true] (SS.at w) =
(vL w):=by kernel_rfl
theorem M8(w:World):(by have h:=Hd w;unfold vL bD aI at h;exact type_of% h):=Hd w
theorem He(w:World):am Tryz.prog au 3000 88 [.str ⟨#[116,108,115]⟩ true] (SS.at w) =
(aX w (ByteArray.mk #[116,108,115]) 448 192 3):=by kernel_rfl
theorem M9(w:World):(by have h:=He w;unfold aX at h;exact type_of% h):=He w
theorem Hf(w:World):am Tryz.prog au 3000 88 [.str ⟨#[115,110,105]⟩ true] (SS.at w) =
(vV w):=by kernel_rfl
theorem Na(w:World):(by have h:=Hf w;unfold vV bD aI at h;exact type_of% h):=Hf w
theorem Hg(w:World):am Tryz.prog au 3000 88 [.str ⟨#[110,111,105,115,101]⟩ true] (SS.at w) =
(aX w (ByteArray.mk #[110,111,105,115,101]) 454 198 3):=by kernel_rfl
theorem Nb(w:World):(by have h:=Hg w;unfold aX at h;exact type_of% h):=Hg w
theorem Hh(w:World):am Tryz.prog au 3000 88 [.str ⟨#[113,117,105,99]⟩ true] (SS.at w) =
(aX w (ByteArray.mk #[113,117,105,99]) 460 204 3):=by kernel_rfl
theorem Nc(w:World):(by have h:=Hh w;unfold aX at h;exact type_of% h):=Hh w
theorem Hi(w:World):am Tryz.prog au 3000 88 [.str ⟨#[113,117,105,99,45,118,49]⟩ true] (SS.at w) =
(aX w (ByteArray.mk #[113,117,105,99,45,118,49]) 461 205 3):=by kernel_rfl
theorem Nd(w:World):(by have h:=Hi w;unfold aX at h;exact type_of% h):=Hi w
theorem Hj(w:World):am Tryz.prog au 3000 88 [.str ⟨#[119,101,98,116,114,97,110,115,112,111,114,116]⟩ true] (SS.at w) =
(aX w (ByteArray.mk #[119,101,98,116,114,97,110,115,112,111,114,116]) 465 209 3):=by kernel_rfl
theorem Nf(w:World):(by have h:=Hj w;unfold aX at h;exact type_of% h):=Hj w
theorem Hk(w:World):am Tryz.prog au 3000 88 [.str ⟨#[99,101,114,116,104,97,115,104]⟩ true] (SS.at w) =
(vJ w):=by kernel_rfl
theorem Ng(w:World):(by have h:=Hk w;unfold vJ bD aI at h;exact type_of% h):=Hk w
theorem Hl(w:World):am Tryz.prog au 3000 88 [.str ⟨#[119,115]⟩ true] (SS.at w) =
(aX w (ByteArray.mk #[119,115]) 477 221 3):=by kernel_rfl
theorem Nh(w:World):(by have h:=Hl w;unfold aX at h;exact type_of% h):=Hl w
theorem Hm(w:World):am Tryz.prog au 3000 88 [.str ⟨#[119,115,115]⟩ true] (SS.at w) =
(aX w (ByteArray.mk #[119,115,115]) 478 222 3):=by kernel_rfl
theorem Ni(w:World):(by have h:=Hm w;unfold aX at h;exact type_of% h):=Hm w
theorem Hn(w:World):am Tryz.prog au 3000 88 [.str ⟨#[104,116,116,112]⟩ true] (SS.at w) =
(aX w (ByteArray.mk #[104,116,116,112]) 480 224 3):=by kernel_rfl
theorem Nj(w:World):(by have h:=Hn w;unfold aX at h;exact type_of% h):=Hn w
theorem Ho(w:World):am Tryz.prog au 3000 88 [.str ⟨#[104,116,116,112,45,112,97,116,104]⟩ true] (SS.at w) =
(.leaf .ret [(.agg (aI jK 481 2 (-1) 193 194 195))] (SS.mk [(.cells (aI jK 481 2 (-1) 193 194 195) 6 88 0 0),(.cells (aI jK 481 2 (-1) 193 194 195) 6 88 0 0),(bD 225 3)] [] true w [])):=by kernel_rfl
theorem Nk(w:World):(by have h:=Ho w;unfold jK bD aI at h;exact type_of% h):=Ho w
theorem Hp(w:World):am Tryz.prog au 3000 88 [.str ⟨#[109,101,109,111,114,121]⟩ true] (SS.at w) =
(vR w):=by kernel_rfl
theorem Nl(w:World):(by have h:=Hp w;unfold vR bD aI at h;exact type_of% h):=Hp w
theorem sn(w:World):am Tryz.prog au 3000 88 [.str ⟨#[112,108,97,105,110,116,101,120,116,118,50]⟩ true] (SS.at w) =
(AZ w):=by kernel_rfl
theorem DK(w:World):(by have h:=sn w;unfold AZ xU at h;exact type_of% h):=sn w
structure PV where
 name:ByteArray
 A:Option Addr
 n:Nat
 c:Nat
 size:Int
 path:Bool
 tr:{ v:Value // v.oneCell'=true }
def PV.val(x:PV)(k:Int):Value:=.agg #[.string x.name,.int .i64 k,.slice x.A x.n x.c,.int .i64 x.size,.bool x.path,x.tr.1]
structure PV.Is (x:PV) (k:Int):Prop where
 name:x.name=⟨(an k).name.toArray⟩
 size:x.size=(an k).size
 path:x.path=(an k).path
 tr:x.tr.1=(an k).tr
 cap:x.n<=x.c
def Jy(k:Int)(w:World)(v:Value)(w':World):Prop:=∃x:PV,v=x.val k/\x.Is k/\Fresh w x.A/\Bts w' w'.heap.size x.A x.n (an k).vc
theorem aq{w:World}{k size:Int}{nm:ByteArray}{b:Bool}{tr:SV}{vc:List UInt8}{o0 o1:SObj}{cs:List SV}{n m:Nat}(hone:(tr.den id).oneCell'=true)(htr:∀β,tr.den β=(an k).tr)
  (hnm:nm=⟨(an k).name.toArray⟩) (hvc:(an k).vc=vc) (hsz:size=(an k).size) (hp:b=(an k).path) (hcs:cs=vc.map fun x=>SV.int .u8 (x.toNat:Int) true) (hlen:n=vc.length/\m=vc.length) :
  (T.leaf .ret [.agg [.str nm true,.int .i64 k true,.slc 2 0 n n true true,.int .i64 size true,.bool b true,tr]] (SS.mk [o0,o1,.cells cs m 5 0 0] [] true w [])).holds (cS Tryz.prog (bC fun v w'=>Jy k w v w'/\Below w.heap.size w w')):=by
 subst hcs hnm hsz hp
 refine aN (Fine.start _ _) fun β w' hst hb=>⟨⟨_,some ⟨β 2,0,none⟩,n,n,_,_,⟨tr.den id,hone⟩⟩,?_,⟨rfl,rfl,rfl,htr id,Nat.le_refl _⟩,?_,?_⟩
 ·simp only[SV.den,ae,PV.val];rw[htr β,htr id]
 ·intro a ha
  cases ha
  exact(Fine.start w _).new (hst.old rfl) 2 (by simp[SS.n])
 ·obtain⟨rest,h1,h2⟩:=hst.at_ 2 _ rfl
  have hr:rest=[]:=List.eq_nil_of_length_eq_zero (by simp at h2;omega)
  subst hr
  have e1:ae β (vc.map fun x=>SV.int .u8 (x.toNat:Int) true)++[]=(vc.map fun x=>(x.toNat:Int)).map (Value.int .u8):=by
   rw[List.append_nil,cD]
   simp[SV.den]
  rw[e1]at h1
  have hbt:=cp (k:=n) h1 (by
   intro v hv
   obtain⟨x,_,rfl⟩:=List.mem_map.1 hv
   have:=x.toNat_lt
   omega) (by simp;omega) (hst.lt 2 (by simp[SS.n]))
  have e2:(((vc.map fun x:UInt8=>(x.toNat:Int)).take n).map fun v=>UInt8.ofNat v.toNat)=vc:=by
   rw[List.take_of_length_le (by simp;omega),List.map_map]
   refine(List.map_congr_left (g:=id) fun x _=>?_).trans (List.map_id vc)
   simp
  rw[e2]at hbt
  rw[hvc]
  exact hbt
theorem z8(k:Int)(hk:k∈aY)(w:World):Calls Tryz.prog 84 #[.int .i64 k] w (bF (Jy k w) w):=by
 refine aH (hk:=au) (n:=3000) (args:=[.int .i64 k true]) ⟨trivial,trivial⟩ ?_
 simp only[aY,List.mem_cons,List.not_mem_nil,or_false]at hk
 rcases hk with rfl |rfl |rfl |rfl |rfl |rfl |rfl |rfl |rfl |rfl |rfl |rfl |rfl |rfl |rfl |rfl |rfl |rfl |rfl |rfl |rfl |rfl |rfl |rfl |rfl |rfl |rfl |rfl |rfl |rfl |rfl |rfl |rfl |rfl |rfl |rfl |rfl |rfl
 ·rw[p4];exact aq (vc:=[4]) rfl (fun _=>rfl) rfl rfl rfl rfl rfl ⟨rfl,rfl⟩
 ·rw[p6];exact aq (vc:=[6]) rfl (fun _=>rfl) rfl rfl rfl rfl rfl ⟨rfl,rfl⟩
 ·rw[PD];exact aq (vc:=[33]) rfl (fun _=>rfl) rfl rfl rfl rfl rfl ⟨rfl,rfl⟩
 ·rw[PE];exact aq (vc:=[41]) rfl (fun _=>rfl) rfl rfl rfl rfl rfl ⟨rfl,rfl⟩
 ·rw[PF];exact aq (vc:=[42]) rfl (fun _=>rfl) rfl rfl rfl rfl rfl ⟨rfl,rfl⟩
 ·rw[PG];exact aq (vc:=[43]) rfl (fun _=>rfl) rfl rfl rfl rfl rfl ⟨rfl,rfl⟩
 ·rw[PH];exact aq (vc:=[53]) rfl (fun _=>rfl) rfl rfl rfl rfl rfl ⟨rfl,rfl⟩
 ·rw[PI];exact aq (vc:=[54]) rfl (fun _=>rfl) rfl rfl rfl rfl rfl ⟨rfl,rfl⟩
 ·rw[PJ];exact aq (vc:=[55]) rfl (fun _=>rfl) rfl rfl rfl rfl rfl ⟨rfl,rfl⟩
 ·rw[PK];exact aq (vc:=[56]) rfl (fun _=>rfl) rfl rfl rfl rfl rfl ⟨rfl,rfl⟩
 ·rw[Mp];exact aq (vc:=[132,1]) rfl (fun _=>rfl) rfl rfl rfl rfl rfl ⟨rfl,rfl⟩
 ·rw[Mq];exact aq (vc:=[145,2]) rfl (fun _=>rfl) rfl rfl rfl rfl rfl ⟨rfl,rfl⟩
 ·rw[Mr];exact aq (vc:=[148,2]) rfl (fun _=>rfl) rfl rfl rfl rfl rfl ⟨rfl,rfl⟩
 ·rw[Ms];exact aq (vc:=[152,2]) rfl (fun _=>rfl) rfl rfl rfl rfl rfl ⟨rfl,rfl⟩
 ·rw[Mt];exact aq (vc:=[153,2]) rfl (fun _=>rfl) rfl rfl rfl rfl rfl ⟨rfl,rfl⟩
 ·rw[Mu];exact aq (vc:=[162,2]) rfl (fun _=>rfl) rfl rfl rfl rfl rfl ⟨rfl,rfl⟩
 ·rw[Mv];exact aq (vc:=[173,2]) rfl (fun _=>rfl) rfl rfl rfl rfl rfl ⟨rfl,rfl⟩
 ·rw[Mw];exact aq (vc:=[174,2]) rfl (fun _=>rfl) rfl rfl rfl rfl rfl ⟨rfl,rfl⟩
 ·rw[Mx];exact aq (vc:=[144,3]) rfl (fun _=>rfl) rfl rfl rfl rfl rfl ⟨rfl,rfl⟩
 ·rw[My];exact aq (vc:=[165,3]) rfl (fun _=>rfl) rfl rfl rfl rfl rfl ⟨rfl,rfl⟩
 ·rw[Mz];exact aq (vc:=[187,3]) rfl (fun _=>rfl) rfl rfl rfl rfl rfl ⟨rfl,rfl⟩
 ·rw[MA];exact aq (vc:=[188,3]) rfl (fun _=>rfl) rfl rfl rfl rfl rfl ⟨rfl,rfl⟩
 ·rw[MB];exact aq (vc:=[189,3]) rfl (fun _=>rfl) rfl rfl rfl rfl rfl ⟨rfl,rfl⟩
 ·rw[MD];exact aq (vc:=[190,3]) rfl (fun _=>rfl) rfl rfl rfl rfl rfl ⟨rfl,rfl⟩
 ·rw[ME];exact aq (vc:=[191,3]) rfl (fun _=>rfl) rfl rfl rfl rfl rfl ⟨rfl,rfl⟩
 ·rw[MF];exact aq (vc:=[192,3]) rfl (fun _=>rfl) rfl rfl rfl rfl rfl ⟨rfl,rfl⟩
 ·rw[MG];exact aq (vc:=[193,3]) rfl (fun _=>rfl) rfl rfl rfl rfl rfl ⟨rfl,rfl⟩
 ·rw[MH];exact aq (vc:=[198,3]) rfl (fun _=>rfl) rfl rfl rfl rfl rfl ⟨rfl,rfl⟩
 ·rw[MI];exact aq (vc:=[204,3]) rfl (fun _=>rfl) rfl rfl rfl rfl rfl ⟨rfl,rfl⟩
 ·rw[MJ];exact aq (vc:=[205,3]) rfl (fun _=>rfl) rfl rfl rfl rfl rfl ⟨rfl,rfl⟩
 ·rw[MK];exact aq (vc:=[209,3]) rfl (fun _=>rfl) rfl rfl rfl rfl rfl ⟨rfl,rfl⟩
 ·rw[ML];exact aq (vc:=[210,3]) rfl (fun _=>rfl) rfl rfl rfl rfl rfl ⟨rfl,rfl⟩
 ·rw[MM];exact aq (vc:=[221,3]) rfl (fun _=>rfl) rfl rfl rfl rfl rfl ⟨rfl,rfl⟩
 ·rw[MO];exact aq (vc:=[222,3]) rfl (fun _=>rfl) rfl rfl rfl rfl rfl ⟨rfl,rfl⟩
 ·rw[MP];exact aq (vc:=[224,3]) rfl (fun _=>rfl) rfl rfl rfl rfl rfl ⟨rfl,rfl⟩
 ·rw[MQ];exact aq (vc:=[225,3]) rfl (fun _=>rfl) rfl rfl rfl rfl rfl ⟨rfl,rfl⟩
 ·rw[MR];exact aq (vc:=[137,6]) rfl (fun _=>rfl) rfl rfl rfl rfl rfl ⟨rfl,rfl⟩
 ·rw[DF];exact aq (vc:=[225,216,193,3]) rfl (fun _=>rfl) rfl rfl rfl rfl rfl ⟨rfl,rfl⟩
theorem Fy(k:Int)(hk:k∈aY)(w:World):Calls Tryz.prog 88 #[.string ⟨(an k).name.toArray⟩] w (bF (Jy k w) w):=by
 simp only[aY,List.mem_cons,List.not_mem_nil,or_false]at hk
 rcases hk with rfl |rfl |rfl |rfl |rfl |rfl |rfl |rfl |rfl |rfl |rfl |rfl |rfl |rfl |rfl |rfl |rfl |rfl |rfl |rfl |rfl |rfl |rfl |rfl |rfl |rfl |rfl |rfl |rfl |rfl |rfl |rfl |rfl |rfl |rfl |rfl |rfl |rfl
 ·refine aH (hk:=au) (n:=3000) (args:=[.str ⟨#[105,112,52]⟩ true]) ⟨trivial,trivial⟩ ?_;rw[q4];exact aq (vc:=[4]) rfl (fun _=>rfl) rfl rfl rfl rfl rfl ⟨rfl,rfl⟩
 ·refine aH (hk:=au) (n:=3000) (args:=[.str ⟨#[116,99,112]⟩ true]) ⟨trivial,trivial⟩ ?_;rw[q6];exact aq (vc:=[6]) rfl (fun _=>rfl) rfl rfl rfl rfl rfl ⟨rfl,rfl⟩
 ·refine aH (hk:=au) (n:=3000) (args:=[.str ⟨#[100,99,99,112]⟩ true]) ⟨trivial,trivial⟩ ?_;rw[PL];exact aq (vc:=[33]) rfl (fun _=>rfl) rfl rfl rfl rfl rfl ⟨rfl,rfl⟩
 ·refine aH (hk:=au) (n:=3000) (args:=[.str ⟨#[105,112,54]⟩ true]) ⟨trivial,trivial⟩ ?_;rw[PM];exact aq (vc:=[41]) rfl (fun _=>rfl) rfl rfl rfl rfl rfl ⟨rfl,rfl⟩
 ·refine aH (hk:=au) (n:=3000) (args:=[.str ⟨#[105,112,54,122,111,110,101]⟩ true]) ⟨trivial,trivial⟩ ?_;rw[PN];exact aq (vc:=[42]) rfl (fun _=>rfl) rfl rfl rfl rfl rfl ⟨rfl,rfl⟩
 ·refine aH (hk:=au) (n:=3000) (args:=[.str ⟨#[105,112,99,105,100,114]⟩ true]) ⟨trivial,trivial⟩ ?_;rw[PO];exact aq (vc:=[43]) rfl (fun _=>rfl) rfl rfl rfl rfl rfl ⟨rfl,rfl⟩
 ·refine aH (hk:=au) (n:=3000) (args:=[.str ⟨#[100,110,115]⟩ true]) ⟨trivial,trivial⟩ ?_;rw[PP];exact aq (vc:=[53]) rfl (fun _=>rfl) rfl rfl rfl rfl rfl ⟨rfl,rfl⟩
 ·refine aH (hk:=au) (n:=3000) (args:=[.str ⟨#[100,110,115,52]⟩ true]) ⟨trivial,trivial⟩ ?_;rw[PQ];exact aq (vc:=[54]) rfl (fun _=>rfl) rfl rfl rfl rfl rfl ⟨rfl,rfl⟩
 ·refine aH (hk:=au) (n:=3000) (args:=[.str ⟨#[100,110,115,54]⟩ true]) ⟨trivial,trivial⟩ ?_;rw[PR];exact aq (vc:=[55]) rfl (fun _=>rfl) rfl rfl rfl rfl rfl ⟨rfl,rfl⟩
 ·refine aH (hk:=au) (n:=3000) (args:=[.str ⟨#[100,110,115,97,100,100,114]⟩ true]) ⟨trivial,trivial⟩ ?_;rw[PT];exact aq (vc:=[56]) rfl (fun _=>rfl) rfl rfl rfl rfl rfl ⟨rfl,rfl⟩
 ·refine aH (hk:=au) (n:=3000) (args:=[.str ⟨#[115,99,116,112]⟩ true]) ⟨trivial,trivial⟩ ?_;rw[MS];exact aq (vc:=[132,1]) rfl (fun _=>rfl) rfl rfl rfl rfl rfl ⟨rfl,rfl⟩
 ·refine aH (hk:=au) (n:=3000) (args:=[.str ⟨#[117,100,112]⟩ true]) ⟨trivial,trivial⟩ ?_;rw[MT];exact aq (vc:=[145,2]) rfl (fun _=>rfl) rfl rfl rfl rfl rfl ⟨rfl,rfl⟩
 ·refine aH (hk:=au) (n:=3000) (args:=[.str ⟨#[112,50,112,45,119,101,98,114,116,99,45,100,105,114,101,99,116]⟩ true]) ⟨trivial,trivial⟩ ?_;rw[MU];exact aq (vc:=[148,2]) rfl (fun _=>rfl) rfl rfl rfl rfl rfl ⟨rfl,rfl⟩
 ·refine aH (hk:=au) (n:=3000) (args:=[.str ⟨#[119,101,98,114,116,99,45,100,105,114,101,99,116]⟩ true]) ⟨trivial,trivial⟩ ?_;rw[MW];exact aq (vc:=[152,2]) rfl (fun _=>rfl) rfl rfl rfl rfl rfl ⟨rfl,rfl⟩
 ·refine aH (hk:=au) (n:=3000) (args:=[.str ⟨#[119,101,98,114,116,99]⟩ true]) ⟨trivial,trivial⟩ ?_;rw[MX];exact aq (vc:=[153,2]) rfl (fun _=>rfl) rfl rfl rfl rfl rfl ⟨rfl,rfl⟩
 ·refine aH (hk:=au) (n:=3000) (args:=[.str ⟨#[112,50,112,45,99,105,114,99,117,105,116]⟩ true]) ⟨trivial,trivial⟩ ?_;rw[MY];exact aq (vc:=[162,2]) rfl (fun _=>rfl) rfl rfl rfl rfl rfl ⟨rfl,rfl⟩
 ·refine aH (hk:=au) (n:=3000) (args:=[.str ⟨#[117,100,116]⟩ true]) ⟨trivial,trivial⟩ ?_;rw[MZ];exact aq (vc:=[173,2]) rfl (fun _=>rfl) rfl rfl rfl rfl rfl ⟨rfl,rfl⟩
 ·refine aH (hk:=au) (n:=3000) (args:=[.str ⟨#[117,116,112]⟩ true]) ⟨trivial,trivial⟩ ?_;rw[M0];exact aq (vc:=[174,2]) rfl (fun _=>rfl) rfl rfl rfl rfl rfl ⟨rfl,rfl⟩
 ·refine aH (hk:=au) (n:=3000) (args:=[.str ⟨#[117,110,105,120]⟩ true]) ⟨trivial,trivial⟩ ?_;rw[M1];exact aq (vc:=[144,3]) rfl (fun _=>rfl) rfl rfl rfl rfl rfl ⟨rfl,rfl⟩
 ·refine aH (hk:=au) (n:=3000) (args:=[.str ⟨#[112,50,112]⟩ true]) ⟨trivial,trivial⟩ ?_;rw[M3];exact aq (vc:=[165,3]) rfl (fun _=>rfl) rfl rfl rfl rfl rfl ⟨rfl,rfl⟩
 ·refine aH (hk:=au) (n:=3000) (args:=[.str ⟨#[104,116,116,112,115]⟩ true]) ⟨trivial,trivial⟩ ?_;rw[M4];exact aq (vc:=[187,3]) rfl (fun _=>rfl) rfl rfl rfl rfl rfl ⟨rfl,rfl⟩
 ·refine aH (hk:=au) (n:=3000) (args:=[.str ⟨#[111,110,105,111,110]⟩ true]) ⟨trivial,trivial⟩ ?_;rw[M5];exact aq (vc:=[188,3]) rfl (fun _=>rfl) rfl rfl rfl rfl rfl ⟨rfl,rfl⟩
 ·refine aH (hk:=au) (n:=3000) (args:=[.str ⟨#[111,110,105,111,110,51]⟩ true]) ⟨trivial,trivial⟩ ?_;rw[M6];exact aq (vc:=[189,3]) rfl (fun _=>rfl) rfl rfl rfl rfl rfl ⟨rfl,rfl⟩
 ·refine aH (hk:=au) (n:=3000) (args:=[.str ⟨#[103,97,114,108,105,99,54,52]⟩ true]) ⟨trivial,trivial⟩ ?_;rw[M7];exact aq (vc:=[190,3]) rfl (fun _=>rfl) rfl rfl rfl rfl rfl ⟨rfl,rfl⟩
 ·refine aH (hk:=au) (n:=3000) (args:=[.str ⟨#[103,97,114,108,105,99,51,50]⟩ true]) ⟨trivial,trivial⟩ ?_;rw[M8];exact aq (vc:=[191,3]) rfl (fun _=>rfl) rfl rfl rfl rfl rfl ⟨rfl,rfl⟩
 ·refine aH (hk:=au) (n:=3000) (args:=[.str ⟨#[116,108,115]⟩ true]) ⟨trivial,trivial⟩ ?_;rw[M9];exact aq (vc:=[192,3]) rfl (fun _=>rfl) rfl rfl rfl rfl rfl ⟨rfl,rfl⟩
 ·refine aH (hk:=au) (n:=3000) (args:=[.str ⟨#[115,110,105]⟩ true]) ⟨trivial,trivial⟩ ?_;rw[Na];exact aq (vc:=[193,3]) rfl (fun _=>rfl) rfl rfl rfl rfl rfl ⟨rfl,rfl⟩
 ·refine aH (hk:=au) (n:=3000) (args:=[.str ⟨#[110,111,105,115,101]⟩ true]) ⟨trivial,trivial⟩ ?_;rw[Nb];exact aq (vc:=[198,3]) rfl (fun _=>rfl) rfl rfl rfl rfl rfl ⟨rfl,rfl⟩
 ·refine aH (hk:=au) (n:=3000) (args:=[.str ⟨#[113,117,105,99]⟩ true]) ⟨trivial,trivial⟩ ?_;rw[Nc];exact aq (vc:=[204,3]) rfl (fun _=>rfl) rfl rfl rfl rfl rfl ⟨rfl,rfl⟩
 ·refine aH (hk:=au) (n:=3000) (args:=[.str ⟨#[113,117,105,99,45,118,49]⟩ true]) ⟨trivial,trivial⟩ ?_;rw[Nd];exact aq (vc:=[205,3]) rfl (fun _=>rfl) rfl rfl rfl rfl rfl ⟨rfl,rfl⟩
 ·refine aH (hk:=au) (n:=3000) (args:=[.str ⟨#[119,101,98,116,114,97,110,115,112,111,114,116]⟩ true]) ⟨trivial,trivial⟩ ?_;rw[Nf];exact aq (vc:=[209,3]) rfl (fun _=>rfl) rfl rfl rfl rfl rfl ⟨rfl,rfl⟩
 ·refine aH (hk:=au) (n:=3000) (args:=[.str ⟨#[99,101,114,116,104,97,115,104]⟩ true]) ⟨trivial,trivial⟩ ?_;rw[Ng];exact aq (vc:=[210,3]) rfl (fun _=>rfl) rfl rfl rfl rfl rfl ⟨rfl,rfl⟩
 ·refine aH (hk:=au) (n:=3000) (args:=[.str ⟨#[119,115]⟩ true]) ⟨trivial,trivial⟩ ?_;rw[Nh];exact aq (vc:=[221,3]) rfl (fun _=>rfl) rfl rfl rfl rfl rfl ⟨rfl,rfl⟩
 ·refine aH (hk:=au) (n:=3000) (args:=[.str ⟨#[119,115,115]⟩ true]) ⟨trivial,trivial⟩ ?_;rw[Ni];exact aq (vc:=[222,3]) rfl (fun _=>rfl) rfl rfl rfl rfl rfl ⟨rfl,rfl⟩
 ·refine aH (hk:=au) (n:=3000) (args:=[.str ⟨#[104,116,116,112]⟩ true]) ⟨trivial,trivial⟩ ?_;rw[Nj];exact aq (vc:=[224,3]) rfl (fun _=>rfl) rfl rfl rfl rfl rfl ⟨rfl,rfl⟩
 ·refine aH (hk:=au) (n:=3000) (args:=[.str ⟨#[104,116,116,112,45,112,97,116,104]⟩ true]) ⟨trivial,trivial⟩ ?_;rw[Nk];exact aq (vc:=[225,3]) rfl (fun _=>rfl) rfl rfl rfl rfl rfl ⟨rfl,rfl⟩
 ·refine aH (hk:=au) (n:=3000) (args:=[.str ⟨#[109,101,109,111,114,121]⟩ true]) ⟨trivial,trivial⟩ ?_;rw[Nl];exact aq (vc:=[137,6]) rfl (fun _=>rfl) rfl rfl rfl rfl rfl ⟨rfl,rfl⟩
 ·refine aH (hk:=au) (n:=3000) (args:=[.str ⟨#[112,108,97,105,110,116,101,120,116,118,50]⟩ true]) ⟨trivial,trivial⟩ ?_;rw[DK];exact aq (vc:=[225,216,193,3]) rfl (fun _=>rfl) rfl rfl rfl rfl rfl ⟨rfl,rfl⟩
theorem iL:∀k∈aY,1<=(an k).vc.length/\(an k).vc.length<=16:=by decide
end
section
open Go Go.Rx Go.RowKit
def Ih(args:List SV):SV:=
 match args with
 |v :: _=>v
 |[]=>.tup []
@[reducible] def ba:Hook:={ X:=PV,out:=fun args s x=>(.agg [.str x.name false,Ih args,.xs x.A x.n x.c,.int .i64 x.size false,.bool x.path false,.one x.tr.1 x.tr.2],s.objs) }
structure UV where
 A:Option Addr
 k:Nat
 c:Nat
@[reducible] def aW:Hook:={ X:=UV,out:=fun _ s x=>(.xs x.A x.k x.c,s.objs) }
@[reducible] def bU:Hook:={ X:=Addr,out:=fun _ s x=>(.xp x,s.objs) }
def Fj:Hooks:={ calls:=fun f=>if f=84 then some ba else none,loops:=fun _ _=>none }
def J2:Hooks:={ calls:=fun f=>if f=67 then some ba else if f=85 then some bU else if f=69 then some aW else none,loops:=fun _ _=>none }
noncomputable abbrev rB(x0:(Hook.X (ba)))(k:Int):List SV:=[(.str x0.name false),(.int .i64 k false),(.xs x0.A x0.n x0.c),(.int .i64 x0.size false),(.bool x0.path false),(.one (x0.tr).1 (x0.tr).2)]
noncomputable abbrev bW(x0:(Hook.X (ba)))(k:Int):SObj:=(.cells (rB x0 k) 6 88 0 0)
noncomputable abbrev EP(w:World):SS:=(SS.mk [(.cells [(.str (ByteArray.mk #[]) true),(.int .i64 0 true),(.one (.slice none 0 0) rfl),(.int .i64 0 true),(.bool false true),(.one .nilIface rfl)] 6 88 0 0)] [] true w [])
theorem LG(k:Int)(w:World):am Tryz.prog Fj 200 67 [.int .i64 k false] (SS.at w) =
(.hc 84 [(.int .i64 k false)] (EP w) (ba) fun x0 w0 b0=>(.leaf .ret [(.agg (rB x0 k))] (SS.mk [(bW x0 k)] [] true w0 b0))):=by kernel_rfl
theorem Qi(k:Int)(w:World):(by have h:=LG k w;unfold EP bW rB at h;exact type_of% h):=LG k w
theorem LJ(k:Int)(w:World):am Tryz.prog Fj 200 85 [.int .i64 k false] (SS.at w) =
(.hc 84 [(.int .i64 k false)] (SS.mk [] [] true w []) (ba) fun x0 w0 b0=>(.split (k == (0:Int)) (.leaf .ret [(.one (.pointer none) rfl)] (SS.mk [(bW x0 k)] [] true w0 b0)) (.leaf .ret [(.ptr 0 0)] (SS.mk [(bW x0 k)] [] true w0 b0)))):=by kernel_rfl
theorem Qk(k:Int)(w:World):(by have h:=LJ k w;unfold bW rB at h;exact type_of% h):=LJ k w
noncomputable abbrev du:List Value:=(ae id (c9 0 [SV.int u8 (0:Int) true]))
noncomputable abbrev bi:List Value:=(List.drop 0 du)
noncomputable abbrev cn:List SV:=[(.str (ByteArray.mk #[]) true),(.one (.pointer none) rfl),(.int .i64 0 true)]
noncomputable abbrev bG(w0:World)(x0:(Hook.X (ba))):List Value:=(ae id (c9 0 [SV.int u8 (0:Int) true])++valsAt w0 x0.A x0.n)
noncomputable abbrev iT(w0:World)(x0:(Hook.X (ba)))(w1:World)(x1:(Hook.X (aW))):List Value:=(ae id (c9 0 [SV.int u8 (0:Int) true])++valsAt w0 x0.A x0.n++valsAt w1 x1.A x1.k)
noncomputable abbrev mJ(x0:(Hook.X (ba)))(x1:(Hook.X (aW))):SV:=(.int .i64 ((↑(0+x0.n+x1.k):Int)) false)
noncomputable abbrev sI(w0:World)(x0:(Hook.X (ba)))(w1:World)(x1:(Hook.X (aW)))(A:Option Addr)(n:Nat):List Value:=(ae id (c9 0 [SV.int u8 (0:Int) true])++valsAt w0 x0.A x0.n++valsAt w1 x1.A x1.k++valsAt w1 A n)
noncomputable abbrev sJ(w0:World)(x0:(Hook.X (ba)))(A:Option Addr)(n:Nat):List Value:=(ae id (c9 0 [SV.int u8 (0:Int) true])++valsAt w0 x0.A x0.n++valsAt w0 A n)
noncomputable abbrev xV(x0:(Hook.X (ba))):SV:=(.int .i64 ((↑(0+x0.n):Int)) false)
noncomputable abbrev zO(n:Nat):SV:=(.int .u64 (u64.wrap (↑n:Int)) false)
noncomputable abbrev bx(k:Int)(A:Option Addr)(n c:Nat):SObj:=(.cells [(.int .i64 k false),(.xs A n c)] 2 31 0 0)
noncomputable abbrev wb(x0:(Hook.X (ba)))(x2:(Hook.X (aW)))(n:Nat)(w0 w2:World)(A:Option Addr)(x5:(Hook.X (bU))):List SV:=[(.str (bytesOf (List.map bT (List.take (0+x0.n+x2.k+n) (List.drop 0 (List.take ((0+x0.n+x2.k)*1) (List.drop 0 (List.take ((0+x0.n)*1) (List.drop 0 (List.take 0 bi++valsAt w0 x0.A x0.n))++valsAt w2 x2.A x2.k))++valsAt w2 A n))))) false),(.xp x5),(mJ x0 x2)]
noncomputable abbrev wl(x0:(Hook.X (ba)))(x1:(Hook.X (aW)))(n:Nat)(w0 w1:World)(A:Option Addr)(x4:(Hook.X (bU))):List SV:=[(.str (bytesOf (List.map bT (List.take (0+x0.n+x1.k+n) (List.drop 0 (List.take ((0+x0.n+x1.k)*1) (List.drop 0 (List.take ((0+x0.n)*1) (List.drop 0 (bG w0 x0))++valsAt w1 x1.A x1.k))++valsAt w1 A n))))) false),(.xp x4),(mJ x0 x1)]
noncomputable abbrev wm(x0:(Hook.X (ba)))(x2:(Hook.X (aW)))(n:Nat)(w0 w2:World)(A:Option Addr)(x4:(Hook.X (bU))):List SV:=[(.str (bytesOf (List.map bT (List.take (0+x0.n+x2.k+n) (List.drop 0 (List.take ((0+x0.n+x2.k)*1) (List.drop 0 (List.take 0 bi++valsAt w0 x0.A x0.n++valsAt w2 x2.A x2.k))++valsAt w2 A n))))) false),(.xp x4),(mJ x0 x2)]
noncomputable abbrev wn(x0:(Hook.X (ba)))(x2:(Hook.X (aW)))(n:Nat)(w0 w2:World)(A:Option Addr)(x4:(Hook.X (bU))):List SV:=[(.str (bytesOf (List.map bT (List.take (0+x0.n+x2.k+n) (List.drop 0 (List.take ((0+x0.n)*1) (List.drop 0 (List.take 0 bi++valsAt w0 x0.A x0.n))++valsAt w2 x2.A x2.k++valsAt w2 A n))))) false),(.xp x4),(mJ x0 x2)]
noncomputable abbrev wo(x0:(Hook.X (ba)))(n:Nat)(w0:World)(A:Option Addr)(x3:(Hook.X (bU))):List SV:=[(.str (bytesOf (List.map bT (List.take (0+x0.n+n) (List.drop 0 (List.take ((0+x0.n)*1) (List.drop 0 (List.take 0 bi++valsAt w0 x0.A x0.n))++valsAt w0 A n))))) false),(.xp x3),(xV x0)]
noncomputable abbrev wq(x0:(Hook.X (ba)))(x1:(Hook.X (aW)))(n:Nat)(w0 w1:World)(A:Option Addr)(x3:(Hook.X (bU))):List SV:=[(.str (bytesOf (List.map bT (List.take (0+x0.n+x1.k+n) (List.drop 0 (List.take ((0+x0.n)*1) (List.drop 0 (bG w0 x0))++valsAt w1 x1.A x1.k++valsAt w1 A n))))) false),(.xp x3),(mJ x0 x1)]
noncomputable abbrev ws(x0:(Hook.X (ba)))(n:Nat)(w0:World)(A:Option Addr)(x2:(Hook.X (bU))):List SV:=[(.str (bytesOf (List.map bT (List.take (0+x0.n+n) (List.drop 0 (List.take ((0+x0.n)*1) (List.drop 0 (bG w0 x0))++valsAt w0 A n))))) false),(.xp x2),(xV x0)]
noncomputable abbrev wu(x0:(Hook.X (ba)))(x1:(Hook.X (aW)))(n:Nat)(w0 w1:World)(A:Option Addr)(x3:(Hook.X (bU))):List SV:=[(.str (bytesOf (List.map bT (List.take (0+x0.n+x1.k+n) (List.drop 0 (List.take ((0+x0.n+x1.k)*1) (List.drop 0 (iT w0 x0 w1 x1))++valsAt w1 A n))))) false),(.xp x3),(mJ x0 x1)]
noncomputable abbrev wv(x0:(Hook.X (ba)))(x2:(Hook.X (aW)))(n:Nat)(w0 w2:World)(A:Option Addr)(x3:(Hook.X (bU))):List SV:=[(.str (bytesOf (List.map bT (List.take (0+x0.n+x2.k+n) (List.drop 0 (List.take 0 bi++valsAt w0 x0.A x0.n++valsAt w2 x2.A x2.k++valsAt w2 A n))))) false),(.xp x3),(mJ x0 x2)]
noncomputable abbrev ww(x0:(Hook.X (ba)))(n:Nat)(w0:World)(A:Option Addr)(x2:(Hook.X (bU))):List SV:=[(.str (bytesOf (List.map bT (List.take (0+x0.n+n) (List.drop 0 (List.take 0 bi++valsAt w0 x0.A x0.n++valsAt w0 A n))))) false),(.xp x2),(xV x0)]
noncomputable abbrev jL(w0:World)(x0:(Hook.X (ba)))(c1:Nat):SObj:=(.vals (List.take 0 bi++valsAt w0 x0.A x0.n) (c1*1) 5 0 0)
noncomputable abbrev ES(k:Int)(A:Option Addr)(n c:Nat)(x0:(Hook.X (ba)))(w0 w1:World)(x1:(Hook.X (aW)))(c2 c3:Nat)(b1:List Nat):SS:=(SS.mk [(bx k A n c),(.cells cn 3 64 0 0),(bW x0 k),(.vals (bG w0 x0) 0 5 0 0),(.vals (List.take ((0+x0.n)*1) (List.drop 0 (bG w0 x0))++valsAt w1 x1.A x1.k) (c2*1) 5 0 0),(.vals (List.take ((0+x0.n+x1.k)*1) (List.drop 0 (List.take ((0+x0.n)*1) (List.drop 0 (bG w0 x0))++valsAt w1 x1.A x1.k))++valsAt w1 A n) (c3*1) 5 0 0),(.cells cn 3 64 0 0)] [] true w1 b1)
noncomputable abbrev ET(k:Int)(A:Option Addr)(n c:Nat)(x0:(Hook.X (ba)))(w0 w2:World)(x2:(Hook.X (aW)))(c1 c3:Nat)(b2:List Nat):SS:=(SS.mk [(bx k A n c),(.cells cn 3 64 0 0),(bW x0 k),(.vals du 0 5 0 0),(.vals (List.take 0 bi++valsAt w0 x0.A x0.n++valsAt w2 x2.A x2.k) (c1*1) 5 0 0),(.vals (List.take ((0+x0.n+x2.k)*1) (List.drop 0 (List.take 0 bi++valsAt w0 x0.A x0.n++valsAt w2 x2.A x2.k))++valsAt w2 A n) (c3*1) 5 0 0),(.cells cn 3 64 0 0)] [] true w2 b2)
noncomputable abbrev wx(x0:(Hook.X (ba)))(n:Nat)(w0:World)(A:Option Addr)(x1:(Hook.X (bU))):List SV:=[(.str (bytesOf (List.map bT (List.take (0+x0.n+n) (List.drop 0 (sJ w0 x0 A n))))) false),(.xp x1),(xV x0)]
noncomputable abbrev wy(x0:(Hook.X (ba)))(x1:(Hook.X (aW)))(n:Nat)(w0 w1:World)(A:Option Addr)(x2:(Hook.X (bU))):List SV:=[(.str (bytesOf (List.map bT (List.take (0+x0.n+x1.k+n) (List.drop 0 (sI w0 x0 w1 x1 A n))))) false),(.xp x2),(mJ x0 x1)]
noncomputable abbrev EU(k:Int)(A:Option Addr)(n c:Nat)(x0:(Hook.X (ba)))(w0:World)(c1:Nat)(b0:List Nat):SS:=(SS.mk [(bx k A n c),(.cells cn 3 64 0 0),(bW x0 k),(.vals (bG w0 x0) 0 5 0 0),(.vals (List.take ((0+x0.n)*1) (List.drop 0 (bG w0 x0))++valsAt w0 A n) (c1*1) 5 0 0),(.cells cn 3 64 0 0)] [] true w0 b0)
noncomputable abbrev EV(k:Int)(A:Option Addr)(n c:Nat)(x0:(Hook.X (ba)))(w0:World)(c1:Nat)(w2:World)(x2:(Hook.X (aW)))(c3 c4:Nat)(b2:List Nat):SS:=(SS.mk [(bx k A n c),(.cells cn 3 64 0 0),(bW x0 k),(.vals du 0 5 0 0),(jL w0 x0 c1),(.vals (List.take ((0+x0.n)*1) (List.drop 0 (List.take 0 bi++valsAt w0 x0.A x0.n))++valsAt w2 x2.A x2.k) (c3*1) 5 0 0),(.vals (List.take ((0+x0.n+x2.k)*1) (List.drop 0 (List.take ((0+x0.n)*1) (List.drop 0 (List.take 0 bi++valsAt w0 x0.A x0.n))++valsAt w2 x2.A x2.k))++valsAt w2 A n) (c4*1) 5 0 0),(.cells cn 3 64 0 0)] [] true w2 b2)
noncomputable abbrev zP(x0:(Hook.X (ba)))(w0:World)(A:Option Addr)(n c2:Nat):SObj:=(.vals (List.take ((0+x0.n)*1) (List.drop 0 (List.take 0 bi++valsAt w0 x0.A x0.n))++valsAt w0 A n) (c2*1) 5 0 0)
noncomputable abbrev zQ(x0:(Hook.X (ba)))(w0 w2:World)(x2:(Hook.X (aW)))(A:Option Addr)(n c3:Nat):SObj:=(.vals (List.take ((0+x0.n)*1) (List.drop 0 (List.take 0 bi++valsAt w0 x0.A x0.n))++valsAt w2 x2.A x2.k++valsAt w2 A n) (c3*1) 5 0 0)
theorem LD(k:Int)(A:Option Addr)(n c:Nat)(w:World):am Tryz.prog J2 500 39 [.agg [.int .i64 k false,.xs A n c]] (SS.at w) =
(.hc 67 [(.int .i64 k false)] (SS.mk [(bx k A n c),(.cells cn 3 64 0 0)] [] true w []) (ba) fun x0 w0 b0=>(.split (k == (0:Int)) (.need (canBytes w0 b0 A n) (.hc 85 [(.int .i64 k false)] (SS.mk [(bx k A n c),(.cells cn 3 64 0 0),(bW x0 k),(.cells cn 3 64 0 0)] [] true w0 b0) (bU) fun x1 w1 b1=>(.leaf .ret [(.agg [(.str (bytesAt w0 A n) false),(.xp x1),(.int .i64 0 true)])] (SS.mk [(bx k A n c),(.cells [(.str (bytesAt w0 A n) false),(.xp x1),(.int .i64 0 true)] 3 64 0 0),(bW x0 k),(.cells [(.str (bytesAt w0 A n) false),(.xp x1),(.int .i64 0 true)] 3 64 0 0)] [] true w1 b1)))) (.need (canBytes w0 b0 x0.A x0.n) (.split (decide (0+x0.n<=0)) (.need (0=0/\0+(valsAt w0 x0.A x0.n).length<=0/\ap 0 0 0 (valsAt w0 x0.A x0.n).length=true) (.split (decide (x0.size<(0:Int))) (.hc 69 [(zO n)] (SS.mk [(bx k A n c),(.cells cn 3 64 0 0),(bW x0 k),(.vals (bG w0 x0) 0 5 0 0)] [] true w0 b0) (aW) fun x1 w1 b1=>(.need (canBytes w1 b1 x1.A x1.k) (.split (decide (0+x0.n+x1.k<=0)) (.need (0+(0+x0.n)*1=(bG w0 x0).length/\(bG w0 x0).length+(valsAt w1 x1.A x1.k).length<=0/\ap 0 0 (bG w0 x0).length (valsAt w1 x1.A x1.k).length=true) (.need (canBytes w1 b1 A n) (.split (decide (0+x0.n+x1.k+n<=0)) (.need (0+(0+x0.n+x1.k)*1=(iT w0 x0 w1 x1).length/\(iT w0 x0 w1 x1).length+(valsAt w1 A n).length<=0/\ap 0 0 (iT w0 x0 w1 x1).length (valsAt w1 A n).length=true) (.need (k=k) (.need (0+(0+x0.n+x1.k+n)<=(sI w0 x0 w1 x1 A n).length/\bX (List.take (0+x0.n+x1.k+n) (List.drop 0 (sI w0 x0 w1 x1 A n)))) (.hc 85 [(.int .i64 k false)] (SS.mk [(bx k A n c),(.cells cn 3 64 0 0),(bW x0 k),(.vals (sI w0 x0 w1 x1 A n) 0 5 0 0),(.cells cn 3 64 0 0)] [] true w1 b1) (bU) fun x2 w2 b2=>(.leaf .ret [(.agg (wy x0 x1 n w0 w1 A x2))] (SS.mk [(bx k A n c),(.cells (wy x0 x1 n w0 w1 A x2) 3 64 0 0),(bW x0 k),(.vals (sI w0 x0 w1 x1 A n) 0 5 0 0),(.cells (wy x0 x1 n w0 w1 A x2) 3 64 0 0)] [] true w2 b2)))))) (.need (0+(0+x0.n+x1.k)*1<=(iT w0 x0 w1 x1).length/\Builtin.nextslicecap (0+x0.n+x1.k+n) 0*1<=281474976710656/\(↑(0+x0.n+x1.k+n):Int)<=i64.max) (.choose (.appendCap (0+x0.n+x1.k+n) 0 5) fun c2=>(.need (k=k) (.need (0+(0+x0.n+x1.k+n)<=(List.take ((0+x0.n+x1.k)*1) (List.drop 0 (iT w0 x0 w1 x1))++valsAt w1 A n).length/\bX (List.take (0+x0.n+x1.k+n) (List.drop 0 (List.take ((0+x0.n+x1.k)*1) (List.drop 0 (iT w0 x0 w1 x1))++valsAt w1 A n)))) (.hc 85 [(.int .i64 k false)] (SS.mk [(bx k A n c),(.cells cn 3 64 0 0),(bW x0 k),(.vals (iT w0 x0 w1 x1) 0 5 0 0),(.vals (List.take ((0+x0.n+x1.k)*1) (List.drop 0 (iT w0 x0 w1 x1))++valsAt w1 A n) (c2*1) 5 0 0),(.cells cn 3 64 0 0)] [] true w1 b1) (bU) fun x3 w3 b3=>(.leaf .ret [(.agg (wu x0 x1 n w0 w1 A x3))] (SS.mk [(bx k A n c),(.cells (wu x0 x1 n w0 w1 A x3) 3 64 0 0),(bW x0 k),(.vals (iT w0 x0 w1 x1) 0 5 0 0),(.vals (List.take ((0+x0.n+x1.k)*1) (List.drop 0 (iT w0 x0 w1 x1))++valsAt w1 A n) (c2*1) 5 0 0),(.cells (wu x0 x1 n w0 w1 A x3) 3 64 0 0)] [] true w3 b3)))))))))) (.need (0+(0+x0.n)*1<=(bG w0 x0).length/\Builtin.nextslicecap (0+x0.n+x1.k) 0*1<=281474976710656/\(↑(0+x0.n+x1.k):Int)<=i64.max) (.choose (.appendCap (0+x0.n+x1.k) 0 5) fun c2=>(.need (canBytes w1 b1 A n) (.split (decide (0+x0.n+x1.k+n<=c2)) (.need (0+(0+x0.n+x1.k)*1=(List.take ((0+x0.n)*1) (List.drop 0 (bG w0 x0))++valsAt w1 x1.A x1.k).length/\(List.take ((0+x0.n)*1) (List.drop 0 (bG w0 x0))++valsAt w1 x1.A x1.k).length+(valsAt w1 A n).length<=c2*1/\ap 0 0 (List.take ((0+x0.n)*1) (List.drop 0 (bG w0 x0))++valsAt w1 x1.A x1.k).length (valsAt w1 A n).length=true) (.need (k=k) (.need (0+(0+x0.n+x1.k+n)<=(List.take ((0+x0.n)*1) (List.drop 0 (bG w0 x0))++valsAt w1 x1.A x1.k++valsAt w1 A n).length/\bX (List.take (0+x0.n+x1.k+n) (List.drop 0 (List.take ((0+x0.n)*1) (List.drop 0 (bG w0 x0))++valsAt w1 x1.A x1.k++valsAt w1 A n)))) (.hc 85 [(.int .i64 k false)] (SS.mk [(bx k A n c),(.cells cn 3 64 0 0),(bW x0 k),(.vals (bG w0 x0) 0 5 0 0),(.vals (List.take ((0+x0.n)*1) (List.drop 0 (bG w0 x0))++valsAt w1 x1.A x1.k++valsAt w1 A n) (c2*1) 5 0 0),(.cells cn 3 64 0 0)] [] true w1 b1) (bU) fun x3 w3 b3=>(.leaf .ret [(.agg (wq x0 x1 n w0 w1 A x3))] (SS.mk [(bx k A n c),(.cells (wq x0 x1 n w0 w1 A x3) 3 64 0 0),(bW x0 k),(.vals (bG w0 x0) 0 5 0 0),(.vals (List.take ((0+x0.n)*1) (List.drop 0 (bG w0 x0))++valsAt w1 x1.A x1.k++valsAt w1 A n) (c2*1) 5 0 0),(.cells (wq x0 x1 n w0 w1 A x3) 3 64 0 0)] [] true w3 b3)))))) (.need (0+(0+x0.n+x1.k)*1<=(List.take ((0+x0.n)*1) (List.drop 0 (bG w0 x0))++valsAt w1 x1.A x1.k).length/\Builtin.nextslicecap (0+x0.n+x1.k+n) c2*1<=281474976710656/\(↑(0+x0.n+x1.k+n):Int)<=i64.max) (.choose (.appendCap (0+x0.n+x1.k+n) c2 5) fun c3=>(.need (k=k) (.need (0+(0+x0.n+x1.k+n)<=(List.take ((0+x0.n+x1.k)*1) (List.drop 0 (List.take ((0+x0.n)*1) (List.drop 0 (bG w0 x0))++valsAt w1 x1.A x1.k))++valsAt w1 A n).length/\bX (List.take (0+x0.n+x1.k+n) (List.drop 0 (List.take ((0+x0.n+x1.k)*1) (List.drop 0 (List.take ((0+x0.n)*1) (List.drop 0 (bG w0 x0))++valsAt w1 x1.A x1.k))++valsAt w1 A n)))) (.hc 85 [(.int .i64 k false)] (ES k A n c x0 w0 w1 x1 c2 c3 b1) (bU) fun x4 w4 b4=>(.leaf .ret [(.agg (wl x0 x1 n w0 w1 A x4))] (SS.mk [(bx k A n c),(.cells (wl x0 x1 n w0 w1 A x4) 3 64 0 0),(bW x0 k),(.vals (bG w0 x0) 0 5 0 0),(.vals (List.take ((0+x0.n)*1) (List.drop 0 (bG w0 x0))++valsAt w1 x1.A x1.k) (c2*1) 5 0 0),(.vals (List.take ((0+x0.n+x1.k)*1) (List.drop 0 (List.take ((0+x0.n)*1) (List.drop 0 (bG w0 x0))++valsAt w1 x1.A x1.k))++valsAt w1 A n) (c3*1) 5 0 0),(.cells (wl x0 x1 n w0 w1 A x4) 3 64 0 0)] [] true w4 b4)))))))))))))) (.need (canBytes w0 b0 A n) (.split (decide (0+x0.n+n<=0)) (.need (0+(0+x0.n)*1=(bG w0 x0).length/\(bG w0 x0).length+(valsAt w0 A n).length<=0/\ap 0 0 (bG w0 x0).length (valsAt w0 A n).length=true) (.need (k=k) (.need (0+(0+x0.n+n)<=(sJ w0 x0 A n).length/\bX (List.take (0+x0.n+n) (List.drop 0 (sJ w0 x0 A n)))) (.hc 85 [(.int .i64 k false)] (SS.mk [(bx k A n c),(.cells cn 3 64 0 0),(bW x0 k),(.vals (sJ w0 x0 A n) 0 5 0 0),(.cells cn 3 64 0 0)] [] true w0 b0) (bU) fun x1 w1 b1=>(.leaf .ret [(.agg (wx x0 n w0 A x1))] (SS.mk [(bx k A n c),(.cells (wx x0 n w0 A x1) 3 64 0 0),(bW x0 k),(.vals (sJ w0 x0 A n) 0 5 0 0),(.cells (wx x0 n w0 A x1) 3 64 0 0)] [] true w1 b1)))))) (.need (0+(0+x0.n)*1<=(bG w0 x0).length/\Builtin.nextslicecap (0+x0.n+n) 0*1<=281474976710656/\(↑(0+x0.n+n):Int)<=i64.max) (.choose (.appendCap (0+x0.n+n) 0 5) fun c1=>(.need (k=k) (.need (0+(0+x0.n+n)<=(List.take ((0+x0.n)*1) (List.drop 0 (bG w0 x0))++valsAt w0 A n).length/\bX (List.take (0+x0.n+n) (List.drop 0 (List.take ((0+x0.n)*1) (List.drop 0 (bG w0 x0))++valsAt w0 A n)))) (.hc 85 [(.int .i64 k false)] (EU k A n c x0 w0 c1 b0) (bU) fun x2 w2 b2=>(.leaf .ret [(.agg (ws x0 n w0 A x2))] (SS.mk [(bx k A n c),(.cells (ws x0 n w0 A x2) 3 64 0 0),(bW x0 k),(.vals (bG w0 x0) 0 5 0 0),(.vals (List.take ((0+x0.n)*1) (List.drop 0 (bG w0 x0))++valsAt w0 A n) (c1*1) 5 0 0),(.cells (ws x0 n w0 A x2) 3 64 0 0)] [] true w2 b2))))))))))) (.need (0<=0/\Builtin.nextslicecap (0+x0.n) 0*1<=281474976710656/\(↑(0+x0.n):Int)<=i64.max) (.choose (.appendCap (0+x0.n) 0 5) fun c1=>(.split (decide (x0.size<(0:Int))) (.hc 69 [(zO n)] (SS.mk [(bx k A n c),(.cells cn 3 64 0 0),(bW x0 k),(.vals du 0 5 0 0),(jL w0 x0 c1)] [] true w0 b0) (aW) fun x2 w2 b2=>(.need (canBytes w2 b2 x2.A x2.k) (.split (decide (0+x0.n+x2.k<=c1)) (.need (0+(0+x0.n)*1=(List.take 0 bi++valsAt w0 x0.A x0.n).length/\(List.take 0 bi++valsAt w0 x0.A x0.n).length+(valsAt w2 x2.A x2.k).length<=c1*1/\ap 0 0 (List.take 0 bi++valsAt w0 x0.A x0.n).length (valsAt w2 x2.A x2.k).length=true) (.need (canBytes w2 b2 A n) (.split (decide (0+x0.n+x2.k+n<=c1)) (.need (0+(0+x0.n+x2.k)*1=(List.take 0 bi++valsAt w0 x0.A x0.n++valsAt w2 x2.A x2.k).length/\(List.take 0 bi++valsAt w0 x0.A x0.n++valsAt w2 x2.A x2.k).length+(valsAt w2 A n).length<=c1*1/\ap 0 0 (List.take 0 bi++valsAt w0 x0.A x0.n++valsAt w2 x2.A x2.k).length (valsAt w2 A n).length=true) (.need (k=k) (.need (0+(0+x0.n+x2.k+n)<=(List.take 0 bi++valsAt w0 x0.A x0.n++valsAt w2 x2.A x2.k++valsAt w2 A n).length/\bX (List.take (0+x0.n+x2.k+n) (List.drop 0 (List.take 0 bi++valsAt w0 x0.A x0.n++valsAt w2 x2.A x2.k++valsAt w2 A n)))) (.hc 85 [(.int .i64 k false)] (SS.mk [(bx k A n c),(.cells cn 3 64 0 0),(bW x0 k),(.vals du 0 5 0 0),(.vals (List.take 0 bi++valsAt w0 x0.A x0.n++valsAt w2 x2.A x2.k++valsAt w2 A n) (c1*1) 5 0 0),(.cells cn 3 64 0 0)] [] true w2 b2) (bU) fun x3 w3 b3=>(.leaf .ret [(.agg (wv x0 x2 n w0 w2 A x3))] (SS.mk [(bx k A n c),(.cells (wv x0 x2 n w0 w2 A x3) 3 64 0 0),(bW x0 k),(.vals du 0 5 0 0),(.vals (List.take 0 bi++valsAt w0 x0.A x0.n++valsAt w2 x2.A x2.k++valsAt w2 A n) (c1*1) 5 0 0),(.cells (wv x0 x2 n w0 w2 A x3) 3 64 0 0)] [] true w3 b3)))))) (.need (0+(0+x0.n+x2.k)*1<=(List.take 0 bi++valsAt w0 x0.A x0.n++valsAt w2 x2.A x2.k).length/\Builtin.nextslicecap (0+x0.n+x2.k+n) c1*1<=281474976710656/\(↑(0+x0.n+x2.k+n):Int)<=i64.max) (.choose (.appendCap (0+x0.n+x2.k+n) c1 5) fun c3=>(.need (k=k) (.need (0+(0+x0.n+x2.k+n)<=(List.take ((0+x0.n+x2.k)*1) (List.drop 0 (List.take 0 bi++valsAt w0 x0.A x0.n++valsAt w2 x2.A x2.k))++valsAt w2 A n).length/\bX (List.take (0+x0.n+x2.k+n) (List.drop 0 (List.take ((0+x0.n+x2.k)*1) (List.drop 0 (List.take 0 bi++valsAt w0 x0.A x0.n++valsAt w2 x2.A x2.k))++valsAt w2 A n)))) (.hc 85 [(.int .i64 k false)] (ET k A n c x0 w0 w2 x2 c1 c3 b2) (bU) fun x4 w4 b4=>(.leaf .ret [(.agg (wm x0 x2 n w0 w2 A x4))] (SS.mk [(bx k A n c),(.cells (wm x0 x2 n w0 w2 A x4) 3 64 0 0),(bW x0 k),(.vals du 0 5 0 0),(.vals (List.take 0 bi++valsAt w0 x0.A x0.n++valsAt w2 x2.A x2.k) (c1*1) 5 0 0),(.vals (List.take ((0+x0.n+x2.k)*1) (List.drop 0 (List.take 0 bi++valsAt w0 x0.A x0.n++valsAt w2 x2.A x2.k))++valsAt w2 A n) (c3*1) 5 0 0),(.cells (wm x0 x2 n w0 w2 A x4) 3 64 0 0)] [] true w4 b4)))))))))) (.need (0+(0+x0.n)*1<=(List.take 0 bi++valsAt w0 x0.A x0.n).length/\Builtin.nextslicecap (0+x0.n+x2.k) c1*1<=281474976710656/\(↑(0+x0.n+x2.k):Int)<=i64.max) (.choose (.appendCap (0+x0.n+x2.k) c1 5) fun c3=>(.need (canBytes w2 b2 A n) (.split (decide (0+x0.n+x2.k+n<=c3)) (.need (0+(0+x0.n+x2.k)*1=(List.take ((0+x0.n)*1) (List.drop 0 (List.take 0 bi++valsAt w0 x0.A x0.n))++valsAt w2 x2.A x2.k).length/\(List.take ((0+x0.n)*1) (List.drop 0 (List.take 0 bi++valsAt w0 x0.A x0.n))++valsAt w2 x2.A x2.k).length+(valsAt w2 A n).length<=c3*1/\ap 0 0 (List.take ((0+x0.n)*1) (List.drop 0 (List.take 0 bi++valsAt w0 x0.A x0.n))++valsAt w2 x2.A x2.k).length (valsAt w2 A n).length=true) (.need (k=k) (.need (0+(0+x0.n+x2.k+n)<=(List.take ((0+x0.n)*1) (List.drop 0 (List.take 0 bi++valsAt w0 x0.A x0.n))++valsAt w2 x2.A x2.k++valsAt w2 A n).length/\bX (List.take (0+x0.n+x2.k+n) (List.drop 0 (List.take ((0+x0.n)*1) (List.drop 0 (List.take 0 bi++valsAt w0 x0.A x0.n))++valsAt w2 x2.A x2.k++valsAt w2 A n)))) (.hc 85 [(.int .i64 k false)] (SS.mk [(bx k A n c),(.cells cn 3 64 0 0),(bW x0 k),(.vals du 0 5 0 0),(jL w0 x0 c1),(zQ x0 w0 w2 x2 A n c3),(.cells cn 3 64 0 0)] [] true w2 b2) (bU) fun x4 w4 b4=>(.leaf .ret [(.agg (wn x0 x2 n w0 w2 A x4))] (SS.mk [(bx k A n c),(.cells (wn x0 x2 n w0 w2 A x4) 3 64 0 0),(bW x0 k),(.vals du 0 5 0 0),(jL w0 x0 c1),(zQ x0 w0 w2 x2 A n c3),(.cells (wn x0 x2 n w0 w2 A x4) 3 64 0 0)] [] true w4 b4)))))) (.need (0+(0+x0.n+x2.k)*1<=(List.take ((0+x0.n)*1) (List.drop 0 (List.take 0 bi++valsAt w0 x0.A x0.n))++valsAt w2 x2.A x2.k).length/\Builtin.nextslicecap (0+x0.n+x2.k+n) c3*1<=281474976710656/\(↑(0+x0.n+x2.k+n):Int)<=i64.max) (.choose (.appendCap (0+x0.n+x2.k+n) c3 5) fun c4=>(.need (k=k) (.need (0+(0+x0.n+x2.k+n)<=(List.take ((0+x0.n+x2.k)*1) (List.drop 0 (List.take ((0+x0.n)*1) (List.drop 0 (List.take 0 bi++valsAt w0 x0.A x0.n))++valsAt w2 x2.A x2.k))++valsAt w2 A n).length/\bX (List.take (0+x0.n+x2.k+n) (List.drop 0 (List.take ((0+x0.n+x2.k)*1) (List.drop 0 (List.take ((0+x0.n)*1) (List.drop 0 (List.take 0 bi++valsAt w0 x0.A x0.n))++valsAt w2 x2.A x2.k))++valsAt w2 A n)))) (.hc 85 [(.int .i64 k false)] (EV k A n c x0 w0 c1 w2 x2 c3 c4 b2) (bU) fun x5 w5 b5=>(.leaf .ret [(.agg (wb x0 x2 n w0 w2 A x5))] (SS.mk [(bx k A n c),(.cells (wb x0 x2 n w0 w2 A x5) 3 64 0 0),(bW x0 k),(.vals du 0 5 0 0),(jL w0 x0 c1),(.vals (List.take ((0+x0.n)*1) (List.drop 0 (List.take 0 bi++valsAt w0 x0.A x0.n))++valsAt w2 x2.A x2.k) (c3*1) 5 0 0),(.vals (List.take ((0+x0.n+x2.k)*1) (List.drop 0 (List.take ((0+x0.n)*1) (List.drop 0 (List.take 0 bi++valsAt w0 x0.A x0.n))++valsAt w2 x2.A x2.k))++valsAt w2 A n) (c4*1) 5 0 0),(.cells (wb x0 x2 n w0 w2 A x5) 3 64 0 0)] [] true w5 b5)))))))))))))) (.need (canBytes w0 b0 A n) (.split (decide (0+x0.n+n<=c1)) (.need (0+(0+x0.n)*1=(List.take 0 bi++valsAt w0 x0.A x0.n).length/\(List.take 0 bi++valsAt w0 x0.A x0.n).length+(valsAt w0 A n).length<=c1*1/\ap 0 0 (List.take 0 bi++valsAt w0 x0.A x0.n).length (valsAt w0 A n).length=true) (.need (k=k) (.need (0+(0+x0.n+n)<=(List.take 0 bi++valsAt w0 x0.A x0.n++valsAt w0 A n).length/\bX (List.take (0+x0.n+n) (List.drop 0 (List.take 0 bi++valsAt w0 x0.A x0.n++valsAt w0 A n)))) (.hc 85 [(.int .i64 k false)] (SS.mk [(bx k A n c),(.cells cn 3 64 0 0),(bW x0 k),(.vals du 0 5 0 0),(.vals (List.take 0 bi++valsAt w0 x0.A x0.n++valsAt w0 A n) (c1*1) 5 0 0),(.cells cn 3 64 0 0)] [] true w0 b0) (bU) fun x2 w2 b2=>(.leaf .ret [(.agg (ww x0 n w0 A x2))] (SS.mk [(bx k A n c),(.cells (ww x0 n w0 A x2) 3 64 0 0),(bW x0 k),(.vals du 0 5 0 0),(.vals (List.take 0 bi++valsAt w0 x0.A x0.n++valsAt w0 A n) (c1*1) 5 0 0),(.cells (ww x0 n w0 A x2) 3 64 0 0)] [] true w2 b2)))))) (.need (0+(0+x0.n)*1<=(List.take 0 bi++valsAt w0 x0.A x0.n).length/\Builtin.nextslicecap (0+x0.n+n) c1*1<=281474976710656/\(↑(0+x0.n+n):Int)<=i64.max) (.choose (.appendCap (0+x0.n+n) c1 5) fun c2=>(.need (k=k) (.need (0+(0+x0.n+n)<=(List.take ((0+x0.n)*1) (List.drop 0 (List.take 0 bi++valsAt w0 x0.A x0.n))++valsAt w0 A n).length/\bX (List.take (0+x0.n+n) (List.drop 0 (List.take ((0+x0.n)*1) (List.drop 0 (List.take 0 bi++valsAt w0 x0.A x0.n))++valsAt w0 A n)))) (.hc 85 [(.int .i64 k false)] (SS.mk [(bx k A n c),(.cells cn 3 64 0 0),(bW x0 k),(.vals du 0 5 0 0),(jL w0 x0 c1),(zP x0 w0 A n c2),(.cells cn 3 64 0 0)] [] true w0 b0) (bU) fun x3 w3 b3=>(.leaf .ret [(.agg (wo x0 n w0 A x3))] (SS.mk [(bx k A n c),(.cells (wo x0 n w0 A x3) 3 64 0 0),(bW x0 k),(.vals du 0 5 0 0),(jL w0 x0 c1),(zP x0 w0 A n c2),(.cells (wo x0 n w0 A x3) 3 64 0 0)] [] true w3 b3)))))))))))))))):=by kernel_rfl
theorem Qg(k:Int)(A:Option Addr)(n c:Nat)(w:World):(by have h:=LD k A n c w;unfold zQ zP EV EU wy wx ET ES jL ww wv wu ws wq wo wn wm wl wb bx zO xV sJ sI mJ iT bG cn bi du bW rB at h;exact type_of% h):=LD k A n c w
def ProtAt(w:World)(B:Nat)(p:Addr)(k:Int):Prop:=p.block<B/\∃x:PV,∀i v,[Value.string x.name,.int .i64 k,.slice x.A x.n x.c,.int .i64 x.size,.bool x.path,x.tr.1][i]?=some v->w.cell? (p.add i)=some v
theorem ProtAt.below{w w':World}{B B':Nat}{p:Addr}{k:Int}(h:ProtAt w B p k)(hb:Below B w w')(hB:B<=B'):ProtAt w' B' p k:=by
 obtain⟨h1,x,h2⟩:=h
 exact⟨by omega,x,fun i v hi=>by rw[cM hb (by rw[aD];exact h1)];exact h2 i v hi⟩
def HP(b:UInt8):Value:=.int .u8 (b.toNat:Int)
theorem pN(l:List Int)(r:ByteArray):(l.foldl (fun r n=>r.push (UInt8.ofNat n.toNat)) r).data=r.data++(l.map fun n=>UInt8.ofNat n.toNat).toArray:=by
 induction l generalizing r with
 |nil=>simp
 |cons a l ih=>rw[List.foldl_cons,ih];simp[ByteArray.push]
theorem sT(l:List UInt8):bytesOf (List.map bT (l.map HP))=⟨l.toArray⟩:=by
 have h:=pN (List.map bT (l.map HP)) ByteArray.empty
 have h2:(bytesOf (List.map bT (l.map HP))).data=l.toArray:=by
  unfold bytesOf
  rw[h]
  simp[HP,bT,Function.comp_def]
 cases hb:bytesOf (List.map bT (l.map HP)) with
 |mk d=>rw[hb]at h2;simp at h2;rw[h2]
theorem sS(l:List UInt8):bX (l.map HP):=by
 intro v hv
 simp only[List.mem_map]at hv
 obtain⟨b,_,rfl⟩:=hv
 exact⟨b,rfl⟩
theorem _root_.Go.Rx.Bts.vals{w:World}{B:Nat}{A:Option Addr}{n:Nat}{l:List UInt8}(h:Bts w B A n l):valsAt w A n=l.map HP:=h.valsAt
theorem wM{need old:Nat}(h:¬need<=old)(hb:need<=2^47):Builtin.nextslicecap need old*1<=281474976710656:=by
 have:=nextslicecap_le (show old<need by omega)
 omega
theorem be:i64.max=9223372036854775807:=by decide
theorem ak{Γ:Ctx}{p:Prop}[Decidable p]{t f:T}(h1:p->t.holds Γ)(h2:¬p->f.holds Γ):(T.split (decide p) t f).holds Γ:=
 af (fun h=>h1 (of_decide_eq_true h)) (fun h=>h2 (of_decide_eq_false h))
end
section
open Go Go.Rx Go.RowKit
@[reducible] def aL:Hook:={ X:=ByteArray,out:=fun _ s x=>(.str x false,s.objs) }
structure IV where
 A:Option Addr
 n:Nat
 c:Nat
structure IZ where
 f:Nat
 t:Nat
 i:Nat
 j:Nat
structure IT where
 f:Nat
 t:Nat
 i:Nat
 s:ByteArray
@[reducible] def ci(v:IV):List SObj:=[.cells [.xs v.A v.n v.c] 1 148 0 0]
@[reducible] def rT:SV:=.fn (.func 242) [] [.ptr 0 0]
def Ch:SE->List Nat
 | .normal=>[7,8,9,10]
 | .exit _=>[7,8,9]
 |_=>[]
def Cg:SE->List Nat
 | .normal=>[7,8,9,10,11]
 | .exit _=>[7,8,9,10,11]
 |_=>[]
def Ci:SE->List Nat
 | .normal=>[7,8,9,13,14]
 | .exit _=>[13]
 |_=>[]
def xe(v:IV)(z:IZ):LoopHook:=bv 129 Nat (.exit 4) [7,8,9,10,11] (fun j=>[rT,.int .i64 z.f false,.int .i64 z.t false,.int .i64 z.i false,.int .i64 j false]) (fun _=>ci v) Unit .ret [] (fun _=>[]) (fun _=>ci v)
def Gf(v:IV)(z:IZ):Hooks:={ calls:=fun _=>none,loops:=fun _ _=>some (xe v z) }
def Gg:Hooks:={ calls:=fun f=>if f=241 then some aL else none,loops:=fun _ _=>none }
def jp(v:IV):LoopHook:=bv 129 (Nat×Nat) (.exit 2) [7,8,9] (fun p=>[rT,.int .i64 p.1 false,.int .i64 p.2 false]) (fun _=>ci v) Unit .ret [] (fun _=>[]) (fun _=>ci v)
def xf(v:IV):LoopHook:=bv 129 ByteArray (.exit 6) [13] (fun s=>[.str s false]) (fun _=>ci v) Unit .ret [] (fun _=>[]) (fun _=>ci v)
def KA:LoopHook:=bK 129 Unit .ret [] (fun _=>[]) Unit (.exit 0) [] (fun _=>[])
def IA(v:IV):Hooks:={ calls:=fun f=>if f=206 then some aW else if f=241∨f=215 then some aL else none,loops:=fun _ k=>if k=19 then some (jp v) else if k=29 then some (xf v) else some KA }
noncomputable abbrev kp(z:IZ):Int:=(i64.wrap ((2:Int)*(↑z.j:Int))+(1:Int))
noncomputable abbrev aU(v:IV)(w:World)(bs:List Nat):SS:=(SS.mk [(.cells [(.xs v.A v.n v.c)] 1 148 0 0)] [] true w bs)
noncomputable abbrev u1(z:IZ)(v:IV)(w:World)(bs:List Nat):T:=(.leaf (.exit 4) [(.fn (.func 242) [] [(.ptr 0 0)]),(.int .i64 ((↑z.f:Int)) false),(.int .i64 ((↑z.t:Int)) false),(.int .i64 ((↑z.i:Int)) false),(.int .i64 ((↑z.j:Int)) false)] (aU v w bs))
theorem Hv(v:IV)(z:IZ)(w:World)(bs:List Nat)(g:Nat->Value):aK Tryz.prog au 1000 207 (ar Tryz.prog 207 22) (az ((Cg .normal).zip [rT,.int .i64 z.f false,.int .i64 z.t false,.int .i64 z.i false,.int .i64 z.j false]) g 129 0) (fun e a s=>.leaf e (ep Cg e a) s) (SS.mk (ci v) [] true w bs) =
(.split (decide ((↑z.j:Int)<(8:Int))) (.need ((0:Int)<=i64.wrap ((2:Int)*(↑z.j:Int))/\i64.wrap ((2:Int)*(↑z.j:Int))<(↑v.n:Int)) (.need (v.A.isSome=true) (.need (canRead w bs ((v.A.getD default).add ((i64.wrap ((2:Int)*(↑z.j:Int))).toNat*1)) [SV.int u8 (ai w (((v.A.getD default).add ((i64.wrap ((2:Int)*(↑z.j:Int))).toNat*1)).add 0)) false]) (.need ((0:Int)<=i64.wrap (kp z)/\i64.wrap (kp z)<(↑v.n:Int)) (.need (v.A.isSome=true) (.need (canRead w bs ((v.A.getD default).add ((i64.wrap (kp z)).toNat*1)) [SV.int u8 (ai w (((v.A.getD default).add ((i64.wrap (kp z)).toNat*1)).add 0)) false]) (.split (i64.wrap (↑(BitVec.ofInt 64 (i64.wrap (i64.wrap (ai w (((v.A.getD default).add ((i64.wrap ((2:Int)*(↑z.j:Int))).toNat*1)).add 0))*(2:Int)^8)) |||BitVec.ofInt 64 (i64.wrap (ai w (((v.A.getD default).add ((i64.wrap (kp z)).toNat*1)).add 0)))).toNat:Int) == (0:Int)) (.leaf .normal [(.fn (.func 242) [] [(.ptr 0 0)]),(.int .i64 ((↑z.f:Int)) false),(.int .i64 ((↑z.t:Int)) false),(.int .i64 ((↑z.i:Int)) false),(.int .i64 (i64.wrap ((↑z.j:Int)+(1:Int))) false)] (aU v w bs)) (u1 z v w bs)))))))) (u1 z v w bs)):=by kernel_rfl
theorem Nt(v:IV)(z:IZ)(w:World)(bs:List Nat)(g:Nat->Value):(by have h:=Hv v z w bs g;unfold u1 aU kp at h;exact type_of% h):=Hv v z w bs g
noncomputable abbrev u6(g:Nat->Value)(z:IZ):List SV:=[(.raw (g 0)),(.raw (g 1)),(.raw (g 2)),(.raw (g 3)),(.raw (g 4)),(.raw (g 5)),(.raw (g 6)),(.fn (.func 242) [] [(.ptr 0 0)]),(.int .i64 ((↑z.f:Int)) false),(.int .i64 ((↑z.t:Int)) false),(.int .i64 ((↑z.i:Int)) false),(.int .i64 ((↑z.i:Int)) false),(.raw (g 12)),(.raw (g 13)),(.raw (g 14)),(.raw (g 15)),(.raw (g 16)),(.raw (g 17)),(.raw (g 18)),(.raw (g 19)),(.raw (g 20)),(.raw (g 21)),(.raw (g 22)),(.raw (g 23)),(.raw (g 24)),(.raw (g 25)),(.raw (g 26)),(.raw (g 27)),(.raw (g 28)),(.raw (g 29)),(.raw (g 30)),(.raw (g 31)),(.raw (g 32)),(.raw (g 33)),(.raw (g 34)),(.raw (g 35)),(.raw (g 36)),(.raw (g 37)),(.raw (g 38)),(.raw (g 39)),(.raw (g 40)),(.raw (g 41)),(.raw (g 42)),(.raw (g 43)),(.raw (g 44)),(.raw (g 45)),(.raw (g 46)),(.raw (g 47)),(.raw (g 48)),(.raw (g 49)),(.raw (g 50)),(.raw (g 51)),(.raw (g 52)),(.raw (g 53)),(.raw (g 54)),(.raw (g 55)),(.raw (g 56)),(.raw (g 57)),(.raw (g 58)),(.raw (g 59)),(.raw (g 60)),(.raw (g 61)),(.raw (g 62)),(.raw (g 63)),(.raw (g 64)),(.raw (g 65)),(.raw (g 66)),(.raw (g 67)),(.raw (g 68)),(.raw (g 69)),(.raw (g 70)),(.raw (g 71)),(.raw (g 72)),(.raw (g 73)),(.raw (g 74)),(.raw (g 75)),(.raw (g 76)),(.int .i64 ((↑z.i:Int)) false),(.bool true true),(.raw (g 79)),(.raw (g 80)),(.int .i64 ((↑z.i:Int)) false),(.raw (g 82)),(.raw (g 83)),(.raw (g 84)),(.raw (g 85)),(.raw (g 86)),(.raw (g 87)),(.raw (g 88)),(.raw (g 89)),(.raw (g 90)),(.raw (g 91)),(.raw (g 92)),(.raw (g 93)),(.raw (g 94)),(.raw (g 95)),(.raw (g 96)),(.raw (g 97)),(.raw (g 98)),(.raw (g 99)),(.raw (g 100)),(.raw (g 101)),(.raw (g 102)),(.raw (g 103)),(.raw (g 104)),(.raw (g 105)),(.raw (g 106)),(.raw (g 107)),(.raw (g 108)),(.raw (g 109)),(.raw (g 110)),(.raw (g 111)),(.raw (g 112)),(.raw (g 113)),(.raw (g 114)),(.raw (g 115)),(.raw (g 116)),(.raw (g 117)),(.raw (g 118)),(.raw (g 119)),(.raw (g 120)),(.raw (g 121)),(.raw (g 122)),(.raw (g 123)),(.raw (g 124)),(.raw (g 125)),(.raw (g 126)),(.raw (g 127)),(.raw (g 128))]
noncomputable abbrev u2(z:IZ)(v:IV)(w0:World)(b0:List Nat):T:=(.leaf .normal [(.fn (.func 242) [] [(.ptr 0 0)]),(.int .i64 ((↑z.f:Int)) false),(.int .i64 ((↑z.t:Int)) false),(.int .i64 (i64.wrap ((↑z.i:Int)+(1:Int))) false)] (aU v w0 b0))
theorem Hw(v:IV)(z:IZ)(w:World)(bs:List Nat)(g:Nat->Value):aK Tryz.prog (Gf v z) 1000 207 (ar Tryz.prog 207 19) (az ((Ch .normal).zip [rT,.int .i64 z.f false,.int .i64 z.t false,.int .i64 z.i false]) g 129 0) (fun e a s=>.leaf e (ep Ch e a) s) (SS.mk (ci v) [] true w bs) =
(.split (decide ((↑z.i:Int)<(8:Int))) (.loop 207 (ar Tryz.prog 207 22) (u6 g z) (aU v w bs) (LoopHook.X (xe v z)) (LoopHook.out (xe v z) (u6 g z) (aU v w bs)) (fun x0 w0 b0=>(.split (decide (i64.wrap ((↑x0.fst:Int)-(↑z.i:Int)) ≥ (2:Int))) (.split (decide (i64.wrap ((↑x0.fst:Int)-(↑z.i:Int)) > i64.wrap ((↑z.t:Int)-(↑z.f:Int)))) (.leaf .normal [(.fn (.func 242) [] [(.ptr 0 0)]),(.int .i64 ((↑z.i:Int)) false),(.int .i64 ((↑x0.fst:Int)) false),(.int .i64 (i64.wrap ((↑z.i:Int)+(1:Int))) false)] (aU v w0 b0)) (u2 z v w0 b0)) (u2 z v w0 b0))) (LoopHook.Y (xe v z)) (LoopHook.out' (xe v z) (u6 g z) (aU v w bs)) (fun x0 w0 b0=>(.leaf .ret [] (aU v w0 b0)))) (.leaf (.exit 2) [(.fn (.func 242) [] [(.ptr 0 0)]),(.int .i64 ((↑z.f:Int)) false),(.int .i64 ((↑z.t:Int)) false)] (aU v w bs))):=by kernel_rfl
theorem Nu(v:IV)(z:IZ)(w:World)(bs:List Nat)(g:Nat->Value):(by have h:=Hw v z w bs g;unfold u2 aU u6 at h;exact type_of% h):=Hw v z w bs g
noncomputable abbrev gm(z:IT):Int:=(i64.wrap ((2:Int)*(↑z.i:Int))+(1:Int))
noncomputable abbrev zE(w:World)(v:IV)(z:IT):SV:=(.int .i64 (i64.wrap (↑(BitVec.ofInt 64 (i64.wrap (i64.wrap (ai w (((v.A.getD default).add ((i64.wrap ((2:Int)*(↑z.i:Int))).toNat*1)).add 0))*(2:Int)^8)) |||BitVec.ofInt 64 (i64.wrap (ai w (((v.A.getD default).add ((i64.wrap (gm z)).toNat*1)).add 0)))).toNat:Int)) false)
noncomputable abbrev kq(z:IT):Int:=(i64.wrap ((2:Int)*(↑z.t:Int))+(1:Int))
noncomputable abbrev EJ(w:World)(v:IV)(z:IT):SV:=(.int .i64 (i64.wrap (↑(BitVec.ofInt 64 (i64.wrap (i64.wrap (ai w (((v.A.getD default).add ((i64.wrap ((2:Int)*(↑z.t:Int))).toNat*1)).add 0))*(2:Int)^8)) |||BitVec.ofInt 64 (i64.wrap (ai w (((v.A.getD default).add ((i64.wrap (kq z)).toNat*1)).add 0)))).toNat:Int)) false)
noncomputable abbrev zF(w:World)(bs:List Nat)(v:IV)(z:IT):Prop:=(canRead w bs ((v.A.getD default).add ((i64.wrap (gm z)).toNat*1)) [SV.int u8 (ai w (((v.A.getD default).add ((i64.wrap (gm z)).toNat*1)).add 0)) false])
noncomputable abbrev u3(w:World)(bs:List Nat)(v:IV)(z:IT):Prop:=(canRead w bs ((v.A.getD default).add ((i64.wrap ((2:Int)*(↑z.i:Int))).toNat*1)) [SV.int u8 (ai w (((v.A.getD default).add ((i64.wrap ((2:Int)*(↑z.i:Int))).toNat*1)).add 0)) false])
noncomputable abbrev u4(z:IT)(v:IV):Prop:=((0:Int)<=i64.wrap ((2:Int)*(↑z.i:Int))/\i64.wrap ((2:Int)*(↑z.i:Int))<(↑v.n:Int))
theorem Hx(v:IV)(z:IT)(w:World)(bs:List Nat)(g:Nat->Value):aK Tryz.prog Gg 1000 207 (ar Tryz.prog 207 29) (az ((Ci .normal).zip [rT,.int .i64 z.f false,.int .i64 z.t false,.str z.s false,.int .i64 z.i false]) g 129 0) (fun e a s=>.leaf e (ep Ci e a) s) (SS.mk (ci v) [] true w bs) =
(.split (decide ((↑z.i:Int)<(8:Int))) (.split ((↑z.i:Int) == (↑z.f:Int)) (.need ((↑(z.s.size+2):Int)<=i64.max) (.split (decide ((↑z.t:Int) ≥ (8:Int))) (.leaf (.exit 6) [(.str (z.s++ByteArray.mk #[(58:UInt8),(58:UInt8)]) false)] (aU v w bs)) (.need ((0:Int)<=i64.wrap ((2:Int)*(↑z.t:Int))/\i64.wrap ((2:Int)*(↑z.t:Int))<(↑v.n:Int)) (.need (v.A.isSome=true) (.need (canRead w bs ((v.A.getD default).add ((i64.wrap ((2:Int)*(↑z.t:Int))).toNat*1)) [SV.int u8 (ai w (((v.A.getD default).add ((i64.wrap ((2:Int)*(↑z.t:Int))).toNat*1)).add 0)) false]) (.need ((0:Int)<=i64.wrap (kq z)/\i64.wrap (kq z)<(↑v.n:Int)) (.need (v.A.isSome=true) (.need (canRead w bs ((v.A.getD default).add ((i64.wrap (kq z)).toNat*1)) [SV.int u8 (ai w (((v.A.getD default).add ((i64.wrap (kq z)).toNat*1)).add 0)) false]) (.hc 241 [(EJ w v z)] (aU v w bs) (aL) fun x0 w0 b0=>(.need ((↑((z.s++ByteArray.mk #[(58:UInt8),(58:UInt8)]).size+ByteArray.size x0):Int)<=i64.max) (.leaf .normal [(.fn (.func 242) [] [(.ptr 0 0)]),(.int .i64 ((↑z.f:Int)) false),(.int .i64 ((↑z.t:Int)) false),(.str (z.s++ByteArray.mk #[(58:UInt8),(58:UInt8)]++x0) false),(.int .i64 (i64.wrap ((↑z.t:Int)+(1:Int))) false)] (aU v w0 b0)))))))))))) (.split (decide ((↑z.i:Int) > (0:Int))) (.need ((↑(z.s.size+1):Int)<=i64.max) (.need (u4 z v) (.need (v.A.isSome=true) (.need (u3 w bs v z) (.need ((0:Int)<=i64.wrap (gm z)/\i64.wrap (gm z)<(↑v.n:Int)) (.need (v.A.isSome=true) (.need (zF w bs v z) (.hc 241 [(zE w v z)] (aU v w bs) (aL) fun x0 w0 b0=>(.need ((↑((z.s++ByteArray.mk #[(58:UInt8)]).size+ByteArray.size x0):Int)<=i64.max) (.leaf .normal [(.fn (.func 242) [] [(.ptr 0 0)]),(.int .i64 ((↑z.f:Int)) false),(.int .i64 ((↑z.t:Int)) false),(.str (z.s++ByteArray.mk #[(58:UInt8)]++x0) false),(.int .i64 (i64.wrap ((↑z.i:Int)+(1:Int))) false)] (aU v w0 b0))))))))))) (.need (u4 z v) (.need (v.A.isSome=true) (.need (u3 w bs v z) (.need ((0:Int)<=i64.wrap (gm z)/\i64.wrap (gm z)<(↑v.n:Int)) (.need (v.A.isSome=true) (.need (zF w bs v z) (.hc 241 [(zE w v z)] (aU v w bs) (aL) fun x0 w0 b0=>(.need ((↑(z.s.size+ByteArray.size x0):Int)<=i64.max) (.leaf .normal [(.fn (.func 242) [] [(.ptr 0 0)]),(.int .i64 ((↑z.f:Int)) false),(.int .i64 ((↑z.t:Int)) false),(.str (z.s++x0) false),(.int .i64 (i64.wrap ((↑z.i:Int)+(1:Int))) false)] (aU v w0 b0)))))))))))) (.leaf (.exit 6) [(.str z.s false)] (aU v w bs))):=by kernel_rfl
theorem Nv(v:IV)(z:IT)(w:World)(bs:List Nat)(g:Nat->Value):(by have h:=Hx v z w bs g;unfold u4 u3 aU zF EJ kq zE gm at h;exact type_of% h):=Hx v z w bs g
noncomputable abbrev u0(v:IV)(x1:(LoopHook.X (jp v))):List SV:=[(.raw (x1.snd 0)),(.raw (x1.snd 1)),(.raw (x1.snd 2)),(.raw (x1.snd 3)),(.raw (x1.snd 4)),(.raw (x1.snd 5)),(.raw (x1.snd 6)),(.fn (.func 242) [] [(.ptr 0 0)]),(.int .i64 ((↑x1.fst.fst:Int)) false),(.int .i64 ((↑x1.fst.snd:Int)) false),(.raw (x1.snd 10)),(.raw (x1.snd 11)),(.raw (x1.snd 12)),(.str (ByteArray.mk #[]) true),(.int .i64 0 true),(.raw (x1.snd 15)),(.raw (x1.snd 16)),(.raw (x1.snd 17)),(.raw (x1.snd 18)),(.raw (x1.snd 19)),(.raw (x1.snd 20)),(.raw (x1.snd 21)),(.raw (x1.snd 22)),(.raw (x1.snd 23)),(.raw (x1.snd 24)),(.raw (x1.snd 25)),(.raw (x1.snd 26)),(.raw (x1.snd 27)),(.raw (x1.snd 28)),(.raw (x1.snd 29)),(.raw (x1.snd 30)),(.raw (x1.snd 31)),(.raw (x1.snd 32)),(.raw (x1.snd 33)),(.raw (x1.snd 34)),(.raw (x1.snd 35)),(.raw (x1.snd 36)),(.raw (x1.snd 37)),(.raw (x1.snd 38)),(.raw (x1.snd 39)),(.raw (x1.snd 40)),(.raw (x1.snd 41)),(.raw (x1.snd 42)),(.raw (x1.snd 43)),(.raw (x1.snd 44)),(.raw (x1.snd 45)),(.raw (x1.snd 46)),(.raw (x1.snd 47)),(.raw (x1.snd 48)),(.raw (x1.snd 49)),(.raw (x1.snd 50)),(.raw (x1.snd 51)),(.raw (x1.snd 52)),(.raw (x1.snd 53)),(.raw (x1.snd 54)),(.raw (x1.snd 55)),(.raw (x1.snd 56)),(.raw (x1.snd 57)),(.raw (x1.snd 58)),(.raw (x1.snd 59)),(.raw (x1.snd 60)),(.raw (x1.snd 61)),(.raw (x1.snd 62)),(.raw (x1.snd 63)),(.raw (x1.snd 64)),(.raw (x1.snd 65)),(.raw (x1.snd 66)),(.raw (x1.snd 67)),(.raw (x1.snd 68)),(.raw (x1.snd 69)),(.raw (x1.snd 70)),(.raw (x1.snd 71)),(.raw (x1.snd 72)),(.raw (x1.snd 73)),(.raw (x1.snd 74)),(.raw (x1.snd 75)),(.raw (x1.snd 76)),(.raw (x1.snd 77)),(.raw (x1.snd 78)),(.raw (x1.snd 79)),(.raw (x1.snd 80)),(.raw (x1.snd 81)),(.raw (x1.snd 82)),(.raw (x1.snd 83)),(.raw (x1.snd 84)),(.raw (x1.snd 85)),(.raw (x1.snd 86)),(.raw (x1.snd 87)),(.raw (x1.snd 88)),(.raw (x1.snd 89)),(.raw (x1.snd 90)),(.raw (x1.snd 91)),(.raw (x1.snd 92)),(.raw (x1.snd 93)),(.raw (x1.snd 94)),(.raw (x1.snd 95)),(.raw (x1.snd 96)),(.raw (x1.snd 97)),(.raw (x1.snd 98)),(.raw (x1.snd 99)),(.raw (x1.snd 100)),(.raw (x1.snd 101)),(.raw (x1.snd 102)),(.raw (x1.snd 103)),(.raw (x1.snd 104)),(.raw (x1.snd 105)),(.raw (x1.snd 106)),(.raw (x1.snd 107)),(.raw (x1.snd 108)),(.raw (x1.snd 109)),(.raw (x1.snd 110)),(.raw (x1.snd 111)),(.raw (x1.snd 112)),(.raw (x1.snd 113)),(.raw (x1.snd 114)),(.raw (x1.snd 115)),(.raw (x1.snd 116)),(.raw (x1.snd 117)),(.raw (x1.snd 118)),(.raw (x1.snd 119)),(.raw (x1.snd 120)),(.raw (x1.snd 121)),(.raw (x1.snd 122)),(.raw (x1.snd 123)),(.raw (x1.snd 124)),(.raw (x1.snd 125)),(.raw (x1.snd 126)),(.raw (x1.snd 127)),(.raw (x1.snd 128))]
noncomputable abbrev mF(w0:World)(b0:List Nat)(x0:(Hook.X (aW))):Prop:=(canRead w0 b0 ((x0.A.getD default).add 3) [SV.int u8 (ai w0 (((x0.A.getD default).add 3).add 0)) false])
noncomputable abbrev pu(w0:World)(b0:List Nat)(x0:(Hook.X (aW))):Prop:=(canRead w0 b0 ((x0.A.getD default).add 2) [SV.int u8 (ai w0 (((x0.A.getD default).add 2).add 0)) false])
noncomputable abbrev pv(w1:World)(x0:(Hook.X (aW)))(w0:World):Prop:=(ai w1 (((x0.A.getD default).add 3).add 0)=ai w0 (((x0.A.getD default).add 3).add 0))
noncomputable abbrev zD(x0:(Hook.X (aW)))(w0:World)(b0:List Nat)(v:IV):T:=(.need ((0:Int)<=(0:Int)/\(0:Int)<(↑x0.k:Int)) (.need (x0.A.isSome=true) (.need (canRead w0 b0 ((x0.A.getD default).add 0) [SV.int u8 (ai w0 (((x0.A.getD default).add 0).add 0)) false]) (.need ((0:Int)<=(1:Int)/\(1:Int)<(↑x0.k:Int)) (.need (x0.A.isSome=true) (.need (canRead w0 b0 ((x0.A.getD default).add 1) [SV.int u8 (ai w0 (((x0.A.getD default).add 1).add 0)) false]) (.need ((0:Int)<=(2:Int)/\(2:Int)<(↑x0.k:Int)) (.need (x0.A.isSome=true) (.need (pu w0 b0 x0) (.need ((0:Int)<=(3:Int)/\(3:Int)<(↑x0.k:Int)) (.need (x0.A.isSome=true) (.need (mF w0 b0 x0) (.hc 215 [(.int .i64 (i64.wrap (ai w0 (((x0.A.getD default).add 0).add 0))) false)] (aU v w0 b0) (aL) fun x1 w1 b1=>(.need (mF w1 b1 x0) (.need (pv w1 x0 w0) (.need (pu w1 b1 x0) (.need (ai w1 (((x0.A.getD default).add 2).add 0)=ai w0 (((x0.A.getD default).add 2).add 0)) (.need (canRead w1 b1 ((x0.A.getD default).add 1) [SV.int u8 (ai w1 (((x0.A.getD default).add 1).add 0)) false]) (.need (ai w1 (((x0.A.getD default).add 1).add 0)=ai w0 (((x0.A.getD default).add 1).add 0)) (.need ((↑(ByteArray.size x1+1):Int)<=i64.max) (.hc 215 [(.int .i64 (i64.wrap (ai w0 (((x0.A.getD default).add 1).add 0))) false)] (aU v w1 b1) (aL) fun x2 w2 b2=>(.need (mF w2 b2 x0) (.need (pv w2 x0 w0) (.need (pu w2 b2 x0) (.need (ai w2 (((x0.A.getD default).add 2).add 0)=ai w0 (((x0.A.getD default).add 2).add 0)) (.need ((↑((x1++ByteArray.mk #[(46:UInt8)]).size+ByteArray.size x2):Int)<=i64.max) (.need ((↑((x1++ByteArray.mk #[(46:UInt8)]++x2).size+1):Int)<=i64.max) (.hc 215 [(.int .i64 (i64.wrap (ai w0 (((x0.A.getD default).add 2).add 0))) false)] (aU v w2 b2) (aL) fun x3 w3 b3=>(.need (mF w3 b3 x0) (.need (pv w3 x0 w0) (.need ((↑((x1++ByteArray.mk #[(46:UInt8)]++x2++ByteArray.mk #[(46:UInt8)]).size+ByteArray.size x3):Int)<=i64.max) (.need ((↑((x1++ByteArray.mk #[(46:UInt8)]++x2++ByteArray.mk #[(46:UInt8)]++x3).size+1):Int)<=i64.max) (.hc 215 [(.int .i64 (i64.wrap (ai w0 (((x0.A.getD default).add 3).add 0))) false)] (aU v w3 b3) (aL) fun x4 w4 b4=>(.need ((↑((x1++ByteArray.mk #[(46:UInt8)]++x2++ByteArray.mk #[(46:UInt8)]++x3++ByteArray.mk #[(46:UInt8)]).size+ByteArray.size x4):Int)<=i64.max) (.leaf .ret [(.str (x1++ByteArray.mk #[(46:UInt8)]++x2++ByteArray.mk #[(46:UInt8)]++x3++ByteArray.mk #[(46:UInt8)]++x4) false)] (aU v w4 b4))))))))))))))))))))))))))))))))))))
noncomputable abbrev u7(v:IV)(x0:(Hook.X (aW))):List SV:=([(.xs v.A v.n v.c),(.ptr 0 0),(.str (ByteArray.mk #[]) true),(.tup []),(.tup []),(.tup []),(.xs x0.A x0.k x0.c),(.fn (.func 242) [] [(.ptr 0 0)]),(.int .i64 255 true),(.int .i64 255 true),(.int .i64 0 true),(.tup []),(.tup []),(.tup []),(.tup []),(.xs v.A v.n v.c),(.int .i64 ((↑v.n:Int)) false),(.bool false true),(.xs v.A v.n v.c),(.int .i64 ((↑v.n:Int)) false),(.bool ((↑v.n:Int) != (4:Int)) false),(.bool true true),(.xs v.A v.n v.c),(.int .i64 ((↑v.n:Int)) false),(.bool ((↑v.n:Int) != (16:Int)) false),(.bool false true),(.tup []),(.tup []),(.tup []),(.tup []),(.tup []),(.tup []),(.tup []),(.tup []),(.tup []),(.tup []),(.tup []),(.tup []),(.tup []),(.tup []),(.tup []),(.tup []),(.tup []),(.tup []),(.tup []),(.tup []),(.xs v.A v.n v.c),(.xs x0.A x0.k x0.c),(.xs x0.A x0.k x0.c),(.bool false true),(.tup []),(.tup []),(.tup []),(.tup []),(.tup []),(.tup []),(.tup []),(.tup []),(.tup []),(.tup []),(.tup []),(.tup []),(.tup []),(.tup []),(.tup []),(.tup []),(.tup []),(.tup []),(.tup []),(.tup []),(.tup []),(.tup []),(.tup []),(.tup []),(.tup []),(.tup []),(.fn (.func 242) [] [(.ptr 0 0)])]++List.replicate 52 aA)
noncomputable abbrev u9(v:IV)(x0:(Hook.X (aW))):List SV:=([(.xs v.A v.n v.c),(.ptr 0 0),(.str (ByteArray.mk #[]) true),(.tup []),(.tup []),(.tup []),(.xs x0.A x0.k x0.c),(.fn (.func 242) [] [(.ptr 0 0)]),(.int .i64 255 true),(.int .i64 255 true),(.int .i64 0 true),(.tup []),(.tup []),(.tup []),(.tup []),(.xs v.A v.n v.c),(.int .i64 ((↑v.n:Int)) false),(.bool false true),(.xs v.A v.n v.c),(.int .i64 ((↑v.n:Int)) false),(.bool ((↑v.n:Int) != (4:Int)) false),(.bool false true),(.tup []),(.tup []),(.tup []),(.bool false true),(.tup []),(.tup []),(.tup []),(.tup []),(.tup []),(.tup []),(.tup []),(.tup []),(.tup []),(.tup []),(.tup []),(.tup []),(.tup []),(.tup []),(.tup []),(.tup []),(.tup []),(.tup []),(.tup []),(.tup []),(.xs v.A v.n v.c),(.xs x0.A x0.k x0.c),(.xs x0.A x0.k x0.c),(.bool false true),(.tup []),(.tup []),(.tup []),(.tup []),(.tup []),(.tup []),(.tup []),(.tup []),(.tup []),(.tup []),(.tup []),(.tup []),(.tup []),(.tup []),(.tup []),(.tup []),(.tup []),(.tup []),(.tup []),(.tup []),(.tup []),(.tup []),(.tup []),(.tup []),(.tup []),(.tup []),(.fn (.func 242) [] [(.ptr 0 0)])]++List.replicate 52 aA)
noncomputable abbrev vd(v:IV):List SV:=([(.xs v.A v.n v.c),(.ptr 0 0),(.str (ByteArray.mk #[]) true),(.str (ByteArray.mk #[63]) true),(.tup []),(.tup []),(.tup []),(.tup []),(.tup []),(.tup []),(.tup []),(.tup []),(.tup []),(.tup []),(.tup []),(.xs v.A v.n v.c),(.int .i64 ((↑v.n:Int)) false),(.bool false true),(.xs v.A v.n v.c),(.int .i64 ((↑v.n:Int)) false),(.bool ((↑v.n:Int) != (4:Int)) false),(.bool true true),(.xs v.A v.n v.c),(.int .i64 ((↑v.n:Int)) false),(.bool ((↑v.n:Int) != (16:Int)) false),(.bool true true),(.xs v.A v.n v.c),(.int .i64 ((↑v.n:Int)) false),(.int .i64 0 true)]++List.replicate 100 aA)
noncomputable abbrev iA(v:IV)(w:World):SS:=(SS.mk [(.cells [(.xs v.A v.n v.c)] 1 148 0 0)] [] true w [])
noncomputable abbrev u5(v:IV)(x1:(LoopHook.X (jp v)))(w1:World)(b1:List Nat):T:=(.loop 207 (ar Tryz.prog 207 29) (u0 v x1) (aU v w1 b1) (LoopHook.X (xf v)) (LoopHook.out (xf v) (u0 v x1) (aU v w1 b1)) (fun x2 w2 b2=>(.leaf .ret [(.str x2.fst false)] (aU v w2 b2))) (LoopHook.Y (xf v)) (LoopHook.out' (xf v) (u0 v x1) (aU v w1 b1)) (fun x2 w2 b2=>(.leaf .ret [(.raw (x2.snd 2))] (aU v w2 b2))))
theorem LI(v:IV)(w:World):am Tryz.prog (IA v) 500 207 [.xs v.A v.n v.c] (SS.mk [] [] true w []) =
(.split ((↑v.n:Int) == (0:Int)) (.leaf .ret [(.str (ByteArray.mk #[60,110,105,108,62]) true)] (iA v w)) (.split ((↑v.n:Int) != (4:Int)) (.split ((↑v.n:Int) != (16:Int)) (.loop 207 (ar Tryz.prog 207 7) (vd v) (iA v w) (LoopHook.X (KA)) (LoopHook.out (KA) (vd v) (iA v w)) (fun x0 w0 b0=>(.leaf .ret [(.raw (x0.snd 2))] (aU v w0 b0))) (LoopHook.Y (KA)) (LoopHook.out' (KA) (vd v) (iA v w)) (fun x0 w0 b0=>(.leaf .ret [(.raw (x0.snd 3))] (aU v w0 b0)))) (.hc 206 [(.xs v.A v.n v.c)] (iA v w) (aW) fun x0 w0 b0=>(.split (!x0.A.isNone) (zD x0 w0 b0 v) (.loop 207 (ar Tryz.prog 207 19) (u7 v x0) (aU v w0 b0) (LoopHook.X (jp v)) (LoopHook.out (jp v) (u7 v x0) (aU v w0 b0)) (fun x1 w1 b1=>(u5 v x1 w1 b1)) (LoopHook.Y (jp v)) (LoopHook.out' (jp v) (u7 v x0) (aU v w0 b0)) (fun x1 w1 b1=>(.leaf .ret [(.raw (x1.snd 2))] (aU v w1 b1))))))) (.hc 206 [(.xs v.A v.n v.c)] (iA v w) (aW) fun x0 w0 b0=>(.split (!x0.A.isNone) (zD x0 w0 b0 v) (.loop 207 (ar Tryz.prog 207 19) (u9 v x0) (aU v w0 b0) (LoopHook.X (jp v)) (LoopHook.out (jp v) (u9 v x0) (aU v w0 b0)) (fun x1 w1 b1=>(u5 v x1 w1 b1)) (LoopHook.Y (jp v)) (LoopHook.out' (jp v) (u9 v x0) (aU v w0 b0)) (fun x1 w1 b1=>(.leaf .ret [(.raw (x1.snd 2))] (aU v w1 b1)))))))):=by kernel_rfl
theorem Ot(v:IV)(w:World):(by have h:=LI v w;unfold u5 iA vd u9 u7 zD pv pu mF aU u0 at h;exact type_of% h):=LI v w
end
end Go.Proofs.YtnklanajebphpaaGreatDoor
