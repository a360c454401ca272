/- Joined texts: netAlive's questions: zoneless, the value's bytes, thin waist, loopback; NetAsk; netAlive; FnNetMatch; IP addresses: To4, To16; ZZIPString of four bytes, or of sixteen that map four; ZZIPString of sixteen bytes; Text of groups: plain facts. -/
import Derived.Test.YtdmnoagahjbjhaaGreatDoorJ9
import Derived.Test.YtdmnoagahjbjhaaGreatDoorM8
import Derived.Test.YtdmnoagahjbjhaaGreatDoorM24
import Derived.Test.YtdmnoagahjbjhaaGreatDoorM26
import Derived.Test.YtdmnoagahjbjhaaGreatDoorJ7
section
/- netAlive's questions: zoneless, the value's bytes, thin waist, loopback. -/
set_option linter.unusedVariables false
set_option linter.unusedSimpArgs false
set_option maxRecDepth 20000
namespace Go.Proofs.YtdmnoagahjbjhaaGreatDoor
open Go Go.Rx Go.RowKit
@[reducible] def sameHook : Hook := { X := Unit, out := fun args s _ => (args.headD undefS, s.objs) }
def hk72 : Hooks := { calls := fun f => if f = 87 then some boolHook else none, loops := fun _ _ => none }
def hk51 : Hooks := { calls := fun f => if f = 72 then some sameHook else if f = 78 then some boolHook else none, loops := fun _ _ => none }
def hk35 : Hooks := { calls := fun f => if f = 48 then some sameHook else if f = 46 then some uvHook else if f = 51 then some boolHook else none, loops := fun _ _ => none }
def hk34 : Hooks := { calls := fun f => if f = 48 then some sameHook else if f = 41 then some uvHook else none, loops := fun _ _ => none }
set_option maxRecDepth 100000 in
theorem t72 (A : Option Addr) (n c : Nat) (w : World) : xFunc Tryz.prog hk72 500 72 [.xs A n c] (SS.mk [] [] true w []) =
  (.split ((↑n : Int) == (4 : Int))
   (.leaf .ret [(.xs A n c)] (SS.mk [] [] true w []))
   (.split ((↑n : Int) == (16 : Int))
    (.need ((0 : Int) ≤ (10 : Int) ∧ (10 : Int) ≤ (↑c : Int))
    (.hc 87 [(.xs (if c = (0 : Nat) then A else Option.map (fun x => x.add (0 : Nat)) A) 10 (c - (0 : Nat)))] (SS.mk [] [] true w []) (boolHook) fun x0 w0 b0 =>
    (.split x0
     (.need ((0 : Int) ≤ (10 : Int) ∧ (10 : Int) < (↑n : Int))
     (.need (A.isSome = true)
     (.need (canRead w0 b0 ((A.getD default).add (10 : Nat)) [SV.int IntKind.u8 (intAt w0 (((A.getD default).add (10 : Nat)).add (0 : Nat))) false])
     (.split (intAt w0 (((A.getD default).add (10 : Nat)).add (0 : Nat)) == (255 : Int))
      (.need ((0 : Int) ≤ (11 : Int) ∧ (11 : Int) < (↑n : Int))
      (.need (A.isSome = true)
      (.need (canRead w0 b0 ((A.getD default).add (11 : Nat)) [SV.int IntKind.u8 (intAt w0 (((A.getD default).add (11 : Nat)).add (0 : Nat))) false])
      (.split (intAt w0 (((A.getD default).add (11 : Nat)).add (0 : Nat)) == (255 : Int))
       (.need ((0 : Int) ≤ (16 : Int) ∧ (16 : Int) ≤ (↑c : Int))
       (.leaf .ret [(.xs (if c = (12 : Nat) then A else Option.map (fun x => x.add (12 : Nat)) A) 4 (c - (12 : Nat)))] (SS.mk [] [] true w0 b0)))
       (.leaf .ret [(.one (.slice none 0 0) rfl)] (SS.mk [] [] true w0 b0))))))
      (.leaf .ret [(.one (.slice none 0 0) rfl)] (SS.mk [] [] true w0 b0))))))
     (.leaf .ret [(.one (.slice none 0 0) rfl)] (SS.mk [] [] true w0 b0)))))
    (.leaf .ret [(.one (.slice none 0 0) rfl)] (SS.mk [] [] true w [])))) := by kernel_rfl
set_option maxRecDepth 100000 in
theorem t51 (A : Option Addr) (n c : Nat) (w : World) : xFunc Tryz.prog hk51 500 51 [.xs A n c] (SS.mk [] [] true w []) =
  (.hc 72 [(.xs A n c)] (SS.mk [] [] true w []) (sameHook) fun x0 w0 b0 =>
  (.split (!A.isNone)
   (.need ((0 : Int) ≤ (0 : Int) ∧ (0 : Int) < (↑n : Int))
   (.need (A.isSome = true)
   (.need (canRead w0 b0 ((A.getD default).add (0 : Nat)) [SV.int IntKind.u8 (intAt w0 (((A.getD default).add (0 : Nat)).add (0 : Nat))) false])
   (.leaf .ret [(.bool (intAt w0 (((A.getD default).add (0 : Nat)).add (0 : Nat)) == (127 : Int)) false)] (SS.mk [] [] true w0 b0)))))
   (.hc 78 [(.xs A n c), (.slc 0 0 16 16 true true)] (SS.mk [(.cells [(.int .u8 0 true), (.int .u8 0 true), (.int .u8 0 true), (.int .u8 0 true), (.int .u8 0 true), (.int .u8 0 true), (.int .u8 0 true), (.int .u8 0 true), (.int .u8 0 true), (.int .u8 0 true), (.int .u8 0 true), (.int .u8 0 true), (.int .u8 0 true), (.int .u8 0 true), (.int .u8 0 true), (.int .u8 1 true)] 16 5 0 0)] [] true w0 b0) (boolHook) fun x1 w1 b1 =>
   (.leaf .ret [(.bool x1 false)] (SS.mk [(.cells [(.int .u8 0 true), (.int .u8 0 true), (.int .u8 0 true), (.int .u8 0 true), (.int .u8 0 true), (.int .u8 0 true), (.int .u8 0 true), (.int .u8 0 true), (.int .u8 0 true), (.int .u8 0 true), (.int .u8 0 true), (.int .u8 0 true), (.int .u8 0 true), (.int .u8 0 true), (.int .u8 0 true), (.int .u8 1 true)] 16 5 0 0)] [] true w1 b1))))) := by kernel_rfl
set_option maxRecDepth 100000 in
theorem t46 (a : Addr) (w : World) : xFunc Tryz.prog noHk 500 46 [.xp a] (SS.mk [] [] true w []) =
  (.need (canRead w [] (a.add (0 : Nat)) [SV.str (strAt w ((a.add (0 : Nat)).add (0 : Nat))) false])
  (.need (canRead w [] (a.add (2 : Nat)) [SV.int IntKind.i64 (intAt w ((a.add (2 : Nat)).add (0 : Nat))) false])
  (.need ((0 : Int) ≤ intAt w ((a.add (2 : Nat)).add (0 : Nat)) ∧ intAt w ((a.add (2 : Nat)).add (0 : Nat)) ≤ (↑(strAt w ((a.add (0 : Nat)).add (0 : Nat))).size : Int))
  (.choose (.appendCap (((strAt w ((a.add (0 : Nat)).add (0 : Nat))).extract (intAt w ((a.add (2 : Nat)).add (0 : Nat))).toNat (strAt w ((a.add (0 : Nat)).add (0 : Nat))).size).size) 0 5) fun c0 =>
  (.leaf .ret [(.slc 0 0 (((strAt w ((a.add (0 : Nat)).add (0 : Nat))).extract (intAt w ((a.add (2 : Nat)).add (0 : Nat))).toNat (strAt w ((a.add (0 : Nat)).add (0 : Nat))).size).size) c0 false false)] (SS.mk [(.ints .u8 (List.map (fun b => (↑b.toNat : Int)) (#[].extract (0 : Nat) (0 : Nat) ++ (strAt w ((a.add (0 : Nat)).add (0 : Nat))).data.extract (intAt w ((a.add (2 : Nat)).add (0 : Nat))).toNat ((intAt w ((a.add (2 : Nat)).add (0 : Nat))).toNat + ((strAt w ((a.add (0 : Nat)).add (0 : Nat))).size - (intAt w ((a.add (2 : Nat)).add (0 : Nat))).toNat)) ++ #[].extract ((0 : Nat) + min ((strAt w ((a.add (0 : Nat)).add (0 : Nat))).size - (intAt w ((a.add (2 : Nat)).add (0 : Nat))).toNat) ((strAt w ((a.add (0 : Nat)).add (0 : Nat))).data.size - (intAt w ((a.add (2 : Nat)).add (0 : Nat))).toNat)) (0 : Nat)).toList ++ List.replicate (c0 - ((strAt w ((a.add (0 : Nat)).add (0 : Nat))).extract (intAt w ((a.add (2 : Nat)).add (0 : Nat))).toNat (strAt w ((a.add (0 : Nat)).add (0 : Nat))).size).size) (0 : Int)) 5 c0 (c0 + (1 : Nat)))] [] true w [])))))) := by kernel_rfl
set_option maxRecDepth 100000 in
theorem t48 (A : Option Addr) (n c : Nat) (w : World) : xFunc Tryz.prog noHk 500 48 [.xs A n c] (SS.mk [] [] true w []) =
  (.split ((↑n : Int) == (0 : Int))
   (.leaf .ret [(.one (.slice none 0 0) rfl)] (SS.mk [] [] true w []))
   (.split ((↑n : Int) == (1 : Int))
    (.split ((↑n : Int) == (0 : Int))
     (.leaf .ret [(.one (.slice none 0 0) rfl)] (SS.mk [] [] true w []))
     (.need ((0 : Int) ≤ (0 : Int) ∧ (0 : Int) < (↑n : Int))
     (.need (A.isSome = true)
     (.need (canRead w [] (((A.getD default).add (0 : Nat)).add (1 : Nat)) [SV.xp (ptrAt w ((((A.getD default).add (0 : Nat)).add (1 : Nat)).add (0 : Nat)))])
     (.need (canRead w [] (((A.getD default).add (0 : Nat)).add (1 : Nat)) [SV.xp (ptrAt w ((((A.getD default).add (0 : Nat)).add (1 : Nat)).add (0 : Nat)))])
     (.need (canRead w [] ((ptrAt w ((((A.getD default).add (0 : Nat)).add (1 : Nat)).add (0 : Nat))).add (1 : Nat)) [SV.int IntKind.i64 (intAt w (((ptrAt w ((((A.getD default).add (0 : Nat)).add (1 : Nat)).add (0 : Nat))).add (1 : Nat)).add (0 : Nat))) false])
     (.split (intAt w (((ptrAt w ((((A.getD default).add (0 : Nat)).add (1 : Nat)).add (0 : Nat))).add (1 : Nat)).add (0 : Nat)) == (42 : Int))
      (.leaf .ret [(.one (.slice none 0 0) rfl)] (SS.mk [] [] true w []))
      (.leaf .ret [(.xs A n c)] (SS.mk [] [] true w [])))))))))
    (.need ((0 : Int) ≤ (1 : Int) ∧ (1 : Int) ≤ (↑c : Int))
    (.need ((0 : Int) ≤ (1 : Int) ∧ (1 : Int) ≤ (↑n : Int))
    (.split false
     (.leaf .ret [(.one (.slice none 0 0) rfl)] (SS.mk [] [] true w []))
     (.need ((0 : Int) ≤ (0 : Int) ∧ (0 : Int) < (↑(1 : Nat) : Int))
     (.need ((if c = (0 : Nat) then A else Option.map (fun x => x.add (0 : Nat)) A).isSome = true)
     (.need (canRead w [] ((((if c = (0 : Nat) then A else Option.map (fun x => x.add (0 : Nat)) A).getD default).add (0 : Nat)).add (1 : Nat)) [SV.xp (ptrAt w (((((if c = (0 : Nat) then A else Option.map (fun x => x.add (0 : Nat)) A).getD default).add (0 : Nat)).add (1 : Nat)).add (0 : Nat)))])
     (.need (canRead w [] ((((if c = (0 : Nat) then A else Option.map (fun x => x.add (0 : Nat)) A).getD default).add (0 : Nat)).add (1 : Nat)) [SV.xp (ptrAt w (((((if c = (0 : Nat) then A else Option.map (fun x => x.add (0 : Nat)) A).getD default).add (0 : Nat)).add (1 : Nat)).add (0 : Nat)))])
     (.need (canRead w [] ((ptrAt w (((((if c = (0 : Nat) then A else Option.map (fun x => x.add (0 : Nat)) A).getD default).add (0 : Nat)).add (1 : Nat)).add (0 : Nat))).add (1 : Nat)) [SV.int IntKind.i64 (intAt w (((ptrAt w (((((if c = (0 : Nat) then A else Option.map (fun x => x.add (0 : Nat)) A).getD default).add (0 : Nat)).add (1 : Nat)).add (0 : Nat))).add (1 : Nat)).add (0 : Nat))) false])
     (.split (intAt w (((ptrAt w (((((if c = (0 : Nat) then A else Option.map (fun x => x.add (0 : Nat)) A).getD default).add (0 : Nat)).add (1 : Nat)).add (0 : Nat))).add (1 : Nat)).add (0 : Nat)) == (42 : Int))
      (.split ((↑(n - (1 : Nat)) : Int) == (0 : Int))
       (.leaf .ret [(.one (.slice none 0 0) rfl)] (SS.mk [] [] true w []))
       (.need ((0 : Int) ≤ (0 : Int) ∧ (0 : Int) < (↑(n - (1 : Nat)) : Int))
       (.need ((if c = (1 : Nat) then A else Option.map (fun x => x.add (3 : Nat)) A).isSome = true)
       (.need (canRead w [] ((((if c = (1 : Nat) then A else Option.map (fun x => x.add (3 : Nat)) A).getD default).add (0 : Nat)).add (1 : Nat)) [SV.xp (ptrAt w (((((if c = (1 : Nat) then A else Option.map (fun x => x.add (3 : Nat)) A).getD default).add (0 : Nat)).add (1 : Nat)).add (0 : Nat)))])
       (.need (canRead w [] ((((if c = (1 : Nat) then A else Option.map (fun x => x.add (3 : Nat)) A).getD default).add (0 : Nat)).add (1 : Nat)) [SV.xp (ptrAt w (((((if c = (1 : Nat) then A else Option.map (fun x => x.add (3 : Nat)) A).getD default).add (0 : Nat)).add (1 : Nat)).add (0 : Nat)))])
       (.need (canRead w [] ((ptrAt w (((((if c = (1 : Nat) then A else Option.map (fun x => x.add (3 : Nat)) A).getD default).add (0 : Nat)).add (1 : Nat)).add (0 : Nat))).add (1 : Nat)) [SV.int IntKind.i64 (intAt w (((ptrAt w (((((if c = (1 : Nat) then A else Option.map (fun x => x.add (3 : Nat)) A).getD default).add (0 : Nat)).add (1 : Nat)).add (0 : Nat))).add (1 : Nat)).add (0 : Nat))) false])
       (.split (intAt w (((ptrAt w (((((if c = (1 : Nat) then A else Option.map (fun x => x.add (3 : Nat)) A).getD default).add (0 : Nat)).add (1 : Nat)).add (0 : Nat))).add (1 : Nat)).add (0 : Nat)) != (41 : Int))
        (.leaf .ret [(.one (.slice none 0 0) rfl)] (SS.mk [] [] true w []))
        (.leaf .ret [(.xs (if c = (1 : Nat) then A else Option.map (fun x => x.add (3 : Nat)) A) (n - (1 : Nat)) (c - (1 : Nat)))] (SS.mk [] [] true w [])))))))))
      (.leaf .ret [(.xs A n c)] (SS.mk [] [] true w []))))))))))))) := by kernel_rfl
set_option maxRecDepth 100000 in
theorem t35 (A : Option Addr) (n c : Nat) (w : World) : xFunc Tryz.prog hk35 500 35 [.xs A n c] (SS.mk [] [] true w []) =
  (.hc 48 [(.xs A n c)] (SS.mk [] [] true w []) (sameHook) fun x0 w0 b0 =>
  (.split A.isNone
   (.leaf .ret [(.bool false true)] (SS.mk [] [] true w0 b0))
   (.split ((↑n : Int) == (0 : Int))
    (.leaf .ret [(.bool false true)] (SS.mk [] [] true w0 b0))
    (.split ((↑n : Int) == (1 : Int))
     (.split ((↑n : Int) == (0 : Int))
      (.leaf .ret [(.bool false true)] (SS.mk [] [] true w0 b0))
      (.need ((0 : Int) ≤ (0 : Int) ∧ (0 : Int) < (↑n : Int))
      (.need (A.isSome = true)
      (.need (canRead w0 b0 (((A.getD default).add (0 : Nat)).add (1 : Nat)) [SV.xp (ptrAt w0 ((((A.getD default).add (0 : Nat)).add (1 : Nat)).add (0 : Nat)))])
      (.need (canRead w0 b0 (((A.getD default).add (0 : Nat)).add (1 : Nat)) [SV.xp (ptrAt w0 ((((A.getD default).add (0 : Nat)).add (1 : Nat)).add (0 : Nat)))])
      (.need (canRead w0 b0 ((ptrAt w0 ((((A.getD default).add (0 : Nat)).add (1 : Nat)).add (0 : Nat))).add (1 : Nat)) [SV.int IntKind.i64 (intAt w0 (((ptrAt w0 ((((A.getD default).add (0 : Nat)).add (1 : Nat)).add (0 : Nat))).add (1 : Nat)).add (0 : Nat))) false])
      (.split (intAt w0 (((ptrAt w0 ((((A.getD default).add (0 : Nat)).add (1 : Nat)).add (0 : Nat))).add (1 : Nat)).add (0 : Nat)) == (4 : Int))
       (.need ((0 : Int) ≤ (0 : Int) ∧ (0 : Int) < (↑n : Int))
       (.need (A.isSome = true)
       (.hc 46 [(.xp ((A.getD default).add (0 : Nat)))] (SS.mk [] [] true w0 b0) (uvHook) fun x1 w1 b1 =>
       (.hc 51 [(.xs x1.A x1.k x1.c)] (SS.mk [] [] true w1 b1) (boolHook) fun x2 w2 b2 =>
       (.leaf .ret [(.bool x2 false)] (SS.mk [] [] true w2 b2))))))
       (.split (intAt w0 (((ptrAt w0 ((((A.getD default).add (0 : Nat)).add (1 : Nat)).add (0 : Nat))).add (1 : Nat)).add (0 : Nat)) == (41 : Int))
        (.need ((0 : Int) ≤ (0 : Int) ∧ (0 : Int) < (↑n : Int))
        (.need (A.isSome = true)
        (.hc 46 [(.xp ((A.getD default).add (0 : Nat)))] (SS.mk [] [] true w0 b0) (uvHook) fun x1 w1 b1 =>
        (.hc 51 [(.xs x1.A x1.k x1.c)] (SS.mk [] [] true w1 b1) (boolHook) fun x2 w2 b2 =>
        (.leaf .ret [(.bool x2 false)] (SS.mk [] [] true w2 b2))))))
        (.leaf .ret [(.bool false true)] (SS.mk [] [] true w0 b0))))))))))
     (.need ((0 : Int) ≤ (1 : Int) ∧ (1 : Int) ≤ (↑c : Int))
     (.need ((0 : Int) ≤ (1 : Int) ∧ (1 : Int) ≤ (↑n : Int))
     (.split false
      (.leaf .ret [(.bool false true)] (SS.mk [] [] true w0 b0))
      (.need ((0 : Int) ≤ (0 : Int) ∧ (0 : Int) < (↑(1 : Nat) : Int))
      (.need ((if c = (0 : Nat) then A else Option.map (fun x => x.add (0 : Nat)) A).isSome = true)
      (.need (canRead w0 b0 ((((if c = (0 : Nat) then A else Option.map (fun x => x.add (0 : Nat)) A).getD default).add (0 : Nat)).add (1 : Nat)) [SV.xp (ptrAt w0 (((((if c = (0 : Nat) then A else Option.map (fun x => x.add (0 : Nat)) A).getD default).add (0 : Nat)).add (1 : Nat)).add (0 : Nat)))])
      (.need (canRead w0 b0 ((((if c = (0 : Nat) then A else Option.map (fun x => x.add (0 : Nat)) A).getD default).add (0 : Nat)).add (1 : Nat)) [SV.xp (ptrAt w0 (((((if c = (0 : Nat) then A else Option.map (fun x => x.add (0 : Nat)) A).getD default).add (0 : Nat)).add (1 : Nat)).add (0 : Nat)))])
      (.need (canRead w0 b0 ((ptrAt w0 (((((if c = (0 : Nat) then A else Option.map (fun x => x.add (0 : Nat)) A).getD default).add (0 : Nat)).add (1 : Nat)).add (0 : Nat))).add (1 : Nat)) [SV.int IntKind.i64 (intAt w0 (((ptrAt w0 (((((if c = (0 : Nat) then A else Option.map (fun x => x.add (0 : Nat)) A).getD default).add (0 : Nat)).add (1 : Nat)).add (0 : Nat))).add (1 : Nat)).add (0 : Nat))) false])
      (.split (intAt w0 (((ptrAt w0 (((((if c = (0 : Nat) then A else Option.map (fun x => x.add (0 : Nat)) A).getD default).add (0 : Nat)).add (1 : Nat)).add (0 : Nat))).add (1 : Nat)).add (0 : Nat)) == (4 : Int))
       (.need ((0 : Int) ≤ (0 : Int) ∧ (0 : Int) < (↑(1 : Nat) : Int))
       (.need ((if c = (0 : Nat) then A else Option.map (fun x => x.add (0 : Nat)) A).isSome = true)
       (.hc 46 [(.xp (((if c = (0 : Nat) then A else Option.map (fun x => x.add (0 : Nat)) A).getD default).add (0 : Nat)))] (SS.mk [] [] true w0 b0) (uvHook) fun x1 w1 b1 =>
       (.hc 51 [(.xs x1.A x1.k x1.c)] (SS.mk [] [] true w1 b1) (boolHook) fun x2 w2 b2 =>
       (.leaf .ret [(.bool x2 false)] (SS.mk [] [] true w2 b2))))))
       (.split (intAt w0 (((ptrAt w0 (((((if c = (0 : Nat) then A else Option.map (fun x => x.add (0 : Nat)) A).getD default).add (0 : Nat)).add (1 : Nat)).add (0 : Nat))).add (1 : Nat)).add (0 : Nat)) == (41 : Int))
        (.need ((0 : Int) ≤ (0 : Int) ∧ (0 : Int) < (↑(1 : Nat) : Int))
        (.need ((if c = (0 : Nat) then A else Option.map (fun x => x.add (0 : Nat)) A).isSome = true)
        (.hc 46 [(.xp (((if c = (0 : Nat) then A else Option.map (fun x => x.add (0 : Nat)) A).getD default).add (0 : Nat)))] (SS.mk [] [] true w0 b0) (uvHook) fun x1 w1 b1 =>
        (.hc 51 [(.xs x1.A x1.k x1.c)] (SS.mk [] [] true w1 b1) (boolHook) fun x2 w2 b2 =>
        (.leaf .ret [(.bool x2 false)] (SS.mk [] [] true w2 b2))))))
        (.leaf .ret [(.bool false true)] (SS.mk [] [] true w0 b0)))))))))))))))) := by kernel_rfl
set_option maxRecDepth 100000 in
theorem t34 (A : Option Addr) (n c : Nat) (w : World) : xFunc Tryz.prog hk34 500 34 [.xs A n c] (SS.mk [] [] true w []) =
  (.hc 48 [(.xs A n c)] (SS.mk [] [] true w []) (sameHook) fun x0 w0 b0 =>
  (.split A.isNone
   (.leaf .ret [(.bool false true)] (SS.mk [] [] true w0 b0))
   (.hc 41 [(.xs A n c)] (SS.mk [] [] true w0 b0) (uvHook) fun x1 w1 b1 =>
   (.split ((↑x1.k : Int) == (0 : Int))
    (.leaf .ret [(.bool false true)] (SS.mk [] [] true w1 b1))
    (.need ((0 : Int) ≤ (0 : Int) ∧ (0 : Int) < (↑x1.k : Int))
    (.need (x1.A.isSome = true)
    (.need (canRead w1 b1 (((x1.A.getD default).add (0 : Nat)).add (1 : Nat)) [SV.int IntKind.i64 (intAt w1 ((((x1.A.getD default).add (0 : Nat)).add (1 : Nat)).add (0 : Nat))) false])
    (.split (intAt w1 ((((x1.A.getD default).add (0 : Nat)).add (1 : Nat)).add (0 : Nat)) != (4 : Int))
     (.need ((0 : Int) ≤ (0 : Int) ∧ (0 : Int) < (↑x1.k : Int))
     (.need (x1.A.isSome = true)
     (.need (canRead w1 b1 (((x1.A.getD default).add (0 : Nat)).add (1 : Nat)) [SV.int IntKind.i64 (intAt w1 ((((x1.A.getD default).add (0 : Nat)).add (1 : Nat)).add (0 : Nat))) false])
     (.split (intAt w1 ((((x1.A.getD default).add (0 : Nat)).add (1 : Nat)).add (0 : Nat)) != (41 : Int))
      (.leaf .ret [(.bool false true)] (SS.mk [] [] true w1 b1))
      (.split ((↑x1.k : Int) == (1 : Int))
       (.leaf .ret [(.bool true true)] (SS.mk [] [] true w1 b1))
       (.need ((0 : Int) ≤ (1 : Int) ∧ (1 : Int) < (↑x1.k : Int))
       (.need (x1.A.isSome = true)
       (.need (canRead w1 b1 (((x1.A.getD default).add (6 : Nat)).add (1 : Nat)) [SV.int IntKind.i64 (intAt w1 ((((x1.A.getD default).add (6 : Nat)).add (1 : Nat)).add (0 : Nat))) false])
       (.split (intAt w1 ((((x1.A.getD default).add (6 : Nat)).add (1 : Nat)).add (0 : Nat)) == (6 : Int))
        (.leaf .ret [(.bool true true)] (SS.mk [] [] true w1 b1))
        (.split (intAt w1 ((((x1.A.getD default).add (6 : Nat)).add (1 : Nat)).add (0 : Nat)) == (273 : Int))
         (.leaf .ret [(.bool true true)] (SS.mk [] [] true w1 b1))
         (.split (intAt w1 ((((x1.A.getD default).add (6 : Nat)).add (1 : Nat)).add (0 : Nat)) == (4 : Int))
          (.leaf .ret [(.bool true true)] (SS.mk [] [] true w1 b1))
          (.split (intAt w1 ((((x1.A.getD default).add (6 : Nat)).add (1 : Nat)).add (0 : Nat)) == (41 : Int))
           (.leaf .ret [(.bool true true)] (SS.mk [] [] true w1 b1))
           (.leaf .ret [(.bool false true)] (SS.mk [] [] true w1 b1))))))))))))))
     (.split ((↑x1.k : Int) == (1 : Int))
      (.leaf .ret [(.bool true true)] (SS.mk [] [] true w1 b1))
      (.need ((0 : Int) ≤ (1 : Int) ∧ (1 : Int) < (↑x1.k : Int))
      (.need (x1.A.isSome = true)
      (.need (canRead w1 b1 (((x1.A.getD default).add (6 : Nat)).add (1 : Nat)) [SV.int IntKind.i64 (intAt w1 ((((x1.A.getD default).add (6 : Nat)).add (1 : Nat)).add (0 : Nat))) false])
      (.split (intAt w1 ((((x1.A.getD default).add (6 : Nat)).add (1 : Nat)).add (0 : Nat)) == (6 : Int))
       (.leaf .ret [(.bool true true)] (SS.mk [] [] true w1 b1))
       (.split (intAt w1 ((((x1.A.getD default).add (6 : Nat)).add (1 : Nat)).add (0 : Nat)) == (273 : Int))
        (.leaf .ret [(.bool true true)] (SS.mk [] [] true w1 b1))
        (.split (intAt w1 ((((x1.A.getD default).add (6 : Nat)).add (1 : Nat)).add (0 : Nat)) == (4 : Int))
         (.leaf .ret [(.bool true true)] (SS.mk [] [] true w1 b1))
         (.split (intAt w1 ((((x1.A.getD default).add (6 : Nat)).add (1 : Nat)).add (0 : Nat)) == (41 : Int))
          (.leaf .ret [(.bool true true)] (SS.mk [] [] true w1 b1))
          (.leaf .ret [(.bool false true)] (SS.mk [] [] true w1 b1)))))))))))))))))) := by kernel_rfl

theorem to4_c (A : Option Addr) (c : Nat) (w : World) : Calls Tryz.prog 72 #[.slice A 4 c] w (Ret (fun v _ => v = .slice A 4 c) w) := by
  refine funF (hk := hk72) (n := 500) (args := [.xs A 4 c]) ⟨trivial, trivial⟩ ?_
  refine holds_eq (t72 A 4 c w) ?_
  exact splitT (fun _ => retF (Fine.start _ _) fun β w' _ _ => rfl) (fun h => absurd h (by decide))

theorem loop51_c (A : Option Addr) (c : Nat) (l : List UInt8) (B : Nat) (w : World) (h : Bts w B A 4 (127 :: l)) (hB : B ≤ w.heap.size) : Calls Tryz.prog 51 #[.slice A 4 c] w (Ret (BoolQ fun b => b = true) w) := by
  refine funF (hk := hk51) (n := 500) (args := [.xs A 4 c]) ⟨trivial, trivial⟩ ?_
  refine holds_eq (t51 A 4 c w) ?_
  refine call0 (R := fun _ _ _ => True) (fun x => ⟨rfl, trivial⟩) (fun β wc hk => ?_) ?_
  · refine (to4_c A c wc).mono ?_
    rintro e w' ⟨v, rfl, rfl, hb⟩
    exact ⟨(), rfl, hb, trivial⟩
  rintro ⟨⟩ wc w1 hk _ hb
  have hw1 : Below w.heap.size w w1 := hk.trans (hb.mono hk.size)
  obtain ⟨ad, x, rfl, had, hx, hR⟩ := (h.below (hw1.mono hB) (Nat.le_refl _)).get (i := 0) (by omega)
  simp at hx
  subst hx
  have hc : w1.cell? (ad.add 0) = some (.int .u8 127) := hR
  have f1 : intAt w1 ((((some ad).getD default).add 0).add 0) = 127 := by
    show intAt w1 (ad.add 0) = 127
    simp [intAt, hc]
  refine splitT (fun _ => ?_) (fun hn => by simp at hn)
  refine needT (by omega) (needT rfl (needT ?_ (retF (Fine.nil hw1) fun β w' _ _ => ⟨_, rfl, ?_⟩)))
  · rw [f1]
    exact canRead1 (by show (ad.add 0).block < _; rw [add_block]; exact Nat.lt_of_lt_of_le had (Nat.le_trans hB hw1.size)) (by simp) hc
  · rw [f1]; rfl

theorem raw46_c (a : Addr) (x : Comp) (B : Nat) (w : World) (h : CellsAt (MaR w B) w B a x) (hB : B ≤ w.heap.size) :
    Calls Tryz.prog 46 #[.pointer (some a)] w (Ret (fun v w' => ∃ A k c, v = .slice A k c ∧ Bts (Rx.since w w') w'.heap.size A k x.val) w) := by
  refine funF (hk := noHk) (n := 500) (args := [.xp a]) ⟨trivial, trivial⟩ ?_
  refine holds_eq (t46 a w) ?_
  obtain ⟨hb, vs, ⟨pr, p, rfl, hp, hpl⟩, hc⟩ := h
  have c0 : w.cell? (a.add 0) = some (.string ⟨(pr ++ x.val).toArray⟩) := hc 0 _ rfl
  have c2 : w.cell? (a.add 2) = some (.int .i64 (pr.length : Int)) := hc 2 _ rfl
  have e0 : strAt w ((a.add 0).add 0) = ⟨(pr ++ x.val).toArray⟩ := by
    show strAt w (a.add 0) = _
    simp [strAt, c0]
  have e2 : intAt w ((a.add 2).add 0) = (pr.length : Int) := by
    show intAt w (a.add 2) = _
    simp [intAt, c2]
  refine needT (canRead1 (by rw [add_block]; omega) (by simp) ?_) (needT (canRead1 (by rw [add_block]; omega) (by simp) ?_) (needT ?_ (chooseT ?_)))
  · rw [e0]; exact c0
  · rw [e2]; exact c2
  · rw [e0, e2]
    exact ⟨by omega, by simp [ByteArray.size]; omega⟩
  rintro cc ⟨t, hcc⟩
  refine retF (Fine.start w _) fun β w' hst hb => ?_
  have o := hst.old rfl
  have h0 := hst.at_ 0 _ rfl
  have hfr : Fresh w (some ⟨β 0, 0, none⟩) := fun a ha => by
    cases ha
    exact (Fine.start w _).new o 0 (by simp [SS.n])
  rw [e0, e2] at h0
  refine ⟨some ⟨β 0, 0, none⟩, x.val.length, cc, ?_, ?_⟩
  · simp only [SV.den, denL]
    rw [e0, e2]
    simp [ByteArray.size_extract, ByteArray.size]
  · have hL := bts_of_ints (k := x.val.length) h0 ?_ ?_ (hst.lt 0 (by simp [SS.n]))
    · refine Bts.since ?_ hfr
      refine cast ?_ hL
      congr 1
      simp [ByteArray.size, Function.comp_def]
    · intro v hv
      rcases List.mem_append.1 hv with h | h
      · obtain ⟨b, _, rfl⟩ := List.mem_map.1 h
        have := b.toNat_lt
        omega
      · have := List.eq_of_mem_replicate h
        omega
    · simp [ByteArray.size]

/-- The code of a component of the package, as it is read. -/
theorem codeRead {w : World} {B : Nat} {a : Addr} {x : Comp} (h : CellsAt (MaR w B) w B a x) (hB : B ≤ w.heap.size) :
    canRead w [] ((a.add 0).add 1) [SV.xp (ptrAt w (((a.add 0).add 1).add 0))] ∧ canRead w [] ((ptrAt w (((a.add 0).add 1).add 0)).add 1) [SV.int IntKind.i64 (intAt w (((ptrAt w (((a.add 0).add 1).add 0)).add 1).add 0)) false] ∧
      intAt w (((ptrAt w (((a.add 0).add 1).add 0)).add 1).add 0) = x.code := by
  obtain ⟨hb, vs, ⟨pr, p, rfl, ⟨hp, y, hy⟩, hpl⟩, hc⟩ := h
  have c1 : w.cell? (a.add 1) = some (.pointer (some p)) := hc 1 _ rfl
  have d1 : w.cell? (p.add 1) = some (.int .i64 x.code) := hy 1 _ rfl
  have e1 : ptrAt w (((a.add 0).add 1).add 0) = p := by
    show ptrAt w (a.add 1) = p
    simp [ptrAt, c1]
  have e2 : intAt w ((p.add 1).add 0) = x.code := by
    show intAt w (p.add 1) = _
    simp [intAt, d1]
  rw [e1, e2]
  exact ⟨canRead1 (by show (a.add 1).block < _; rw [add_block]; omega) (by simp) c1, canRead1 (by rw [add_block]; omega) (by simp) d1, rfl⟩

theorem ifz {c : Nat} {ad : Addr} (hc : 1 ≤ c) : (if c = 0 then some ad else Option.map (fun x => x.add 0) (some ad)) = some (ad.add 0) := by
  rw [if_neg (by omega)]; rfl

theorem zoneless_c (A : Option Addr) (n c : Nat) (x : Comp) (l : List Comp) (B : Nat) (w : World) (h : RowAt MaR 3 w B A n (x :: l)) (hx : x.code ≠ 42) (hcap : n ≤ c) (hB : B ≤ w.heap.size) :
    Calls Tryz.prog 48 #[.slice A n c] w (Ret (fun v _ => v = .slice A n c) w) := by
  have hn := h.1
  simp only [List.length_cons] at hn
  obtain ⟨ad, x', rfl, had, hx', hR⟩ := h.get (i := 0) (by omega)
  simp at hx'
  subst hx'
  rw [Nat.zero_mul, Rx.add_zero] at hR
  obtain ⟨r1, r2, r3⟩ := codeRead hR hB
  refine funF (hk := noHk) (n := 500) (args := [.xs (some ad) n c]) ⟨trivial, trivial⟩ ?_
  refine holds_eq (t48 (some ad) n c w) ?_
  rw [ifz (by omega)]
  refine splitT (fun h0 => by simp at h0; omega) (fun _ => splitT (fun _ => splitT (fun h0 => by simp at h0; omega) (fun _ => ?_)) (fun _ => ?_))
  · refine needT (by omega) (needT rfl (needT r1 (needT r1 (needT r2 (splitT (fun h42 => ?_) (fun _ => retF (Fine.start _ _) fun β w' _ _ => rfl))))))
    exact absurd (r3.symm.trans (eq_of_beq h42)) hx
  · refine needT (by omega) (needT (by omega) (splitT (fun h => by cases h) (fun _ => needT (by omega) (needT rfl (needT r1 (needT r1 (needT r2 (splitT (fun h42 => ?_) (fun _ => retF (Fine.start _ _) fun β w' _ _ => rfl)))))))))
    exact absurd (r3.symm.trans (eq_of_beq h42)) hx

theorem protCode {w : World} {B : Nat} {a : Addr} {x : Comp} (h : CellsAt (ProtR w B) w B a x) (hB : B ≤ w.heap.size) : canRead w [] (a.add 1) [SV.int IntKind.i64 (intAt w ((a.add 1).add 0)) false] ∧ intAt w ((a.add 1).add 0) = x.code := by
  obtain ⟨hb, vs, ⟨y, rfl⟩, hc⟩ := h
  have c1 : w.cell? (a.add 1) = some (.int .i64 x.code) := hc 1 _ rfl
  have e1 : intAt w ((a.add 1).add 0) = x.code := by
    show intAt w (a.add 1) = _
    simp [intAt, c1]
  rw [e1]
  exact ⟨canRead1 (by rw [add_block]; omega) (by simp) c1, rfl⟩

theorem thinWaist_c (A : Option Addr) (n c : Nat) (x y : Comp) (l : List Comp) (B : Nat) (w : World) (h : RowAt MaR 3 w B A n (x :: y :: l)) (hx : x.code = 4) (hy : y.code = 273) (hcap : n ≤ c) (hn40 : (n : Int) < 2 ^ 40) (hB : B ≤ w.heap.size) :
    Calls Tryz.prog 34 #[.slice A n c] w (Ret (BoolQ fun b => b = true) w) := by
  have hn := h.1
  simp only [List.length_cons] at hn
  obtain ⟨ad, x', rfl, had, hx', hR⟩ := h.get (i := 0) (by omega)
  refine funF (hk := hk34) (n := 500) (args := [.xs (some ad) n c]) ⟨trivial, trivial⟩ ?_
  refine holds_eq (t34 (some ad) n c w) ?_
  refine call0 (R := fun _ _ _ => True) (fun x => ⟨rfl, trivial⟩) (fun β wc hk => ?_) ?_
  · refine (zoneless_c (some ad) n c x (y :: l) B wc (h.sub MaR.lasts (Below.sub (hk.mono hB)) (Nat.le_refl _)) (by rw [hx]; decide) hcap (Nat.le_trans hB hk.size)).mono ?_
    rintro e w' ⟨v, rfl, rfl, hb⟩
    exact ⟨(), rfl, hb, trivial⟩
  rintro ⟨⟩ wc w1 hk _ hb
  have hw1 : Below w.heap.size w w1 := hk.trans (hb.mono hk.size)
  refine splitT (fun h => by cases h) (fun _ => ?_)
  refine row0 (R := ProtR) (size := 6) (l := x :: y :: l) rfl (fun β wc hk => ?_) ?_
  · have hb := hw1.trans (hk.mono hw1.size)
    exact protocols_c (some ad) n c (x :: y :: l) B wc (h.sub MaR.lasts (Below.sub (hb.mono hB)) (Nat.le_refl _)) (Nat.le_trans hB hb.size) hn40
  rintro ⟨A1, k1, c1⟩ wc2 w2 hk2 hb2 hp
  dsimp only at hp
  have hw2 : Below w.heap.size w w2 := (hw1.trans (hk2.mono hw1.size)).trans (hb2.mono (Nat.le_trans hw1.size hk2.size))
  have hpl := hp.1
  simp only [List.length_cons] at hpl
  have hp' : RowAt ProtR 6 w2 w2.heap.size A1 k1 (x :: y :: l) := hp.sub ProtR.lasts (since_sub _ _ _) (Nat.le_refl _)
  obtain ⟨a1, z, rfl, ha1, hz, hRz⟩ := hp'.get (i := 0) (by omega)
  obtain ⟨a1', z', ha1', _, hz', hRz'⟩ := hp'.get (i := 1) (by omega)
  cases ha1'
  simp at hz hz'
  subst hz hz'
  rw [Nat.zero_mul] at hRz
  rw [Nat.one_mul] at hRz'
  obtain ⟨q1, q2⟩ := protCode hRz (Nat.le_refl _)
  obtain ⟨q3, q4⟩ := protCode hRz' (Nat.le_refl _)
  rw [hx] at q2
  rw [hy] at q4
  have q2' : intAt w2 ((((some a1 : Option Addr).getD default).add 0).add 1 |>.add 0) = 4 := q2
  have q4' : intAt w2 ((((some a1 : Option Addr).getD default).add 6).add 1 |>.add 0) = 273 := q4
  rw [q2', q4']
  have g1 : canRead w2 [] ((((some a1 : Option Addr).getD default).add 0).add 1) [SV.int IntKind.i64 4 false] := by
    rw [q2] at q1; exact q1
  have g3 : canRead w2 [] ((((some a1 : Option Addr).getD default).add 6).add 1) [SV.int IntKind.i64 273 false] := by
    rw [q4] at q3; exact q3
  have fin : ∀ lit, ((T.leaf .ret [(.bool true lit)] (SS.mk [] [] true w2 []))).holds (ctx Tryz.prog (retQ fun v w' => BoolQ (fun b => b = true) v w' ∧ Below w.heap.size w w')) := fun lit => retF (Fine.nil hw2) fun β w' _ _ => ⟨_, rfl, rfl⟩
  refine splitT (fun h => by
    have h' : ((k1 : Int) == 0) = true := h
    simp at h'
    omega) (fun _ => needT (by show (0 : Int) ≤ 0 ∧ (0 : Int) < (k1 : Int); omega) (needT rfl (needT g1 (splitT (fun h => by simp at h) (fun _ => splitT (fun _ => fin _) (fun _ => needT (by show (0 : Int) ≤ 1 ∧ (1 : Int) < (k1 : Int); omega) (needT rfl (needT g3 (splitT (fun _ => fin _) (fun _ => splitT (fun _ => fin _) (fun h => by simp at h)))))))))))

theorem loopback_c (yes : Bool) (A : Option Addr) (n c : Nat) (x : Comp) (l : List Comp) (B : Nat) (w : World) (h : RowAt MaR 3 w B A n (x :: l)) (hx : (yes = true ∧ x.code = 4 ∧ ∃ a b d, x.val = [127, a, b, d]) ∨ (yes = false ∧ x.code = 273)) (hcap : n ≤ c) (hB : B ≤ w.heap.size) :
    Calls Tryz.prog 35 #[.slice A n c] w (Ret (BoolQ fun b => b = yes) w) := by
  have hn := h.1
  simp only [List.length_cons] at hn
  obtain ⟨ad, x', rfl, had, hx', hR⟩ := h.get (i := 0) (by omega)
  simp at hx'
  subst hx'
  refine funF (hk := hk35) (n := 500) (args := [.xs (some ad) n c]) ⟨trivial, trivial⟩ ?_
  refine holds_eq (t35 (some ad) n c w) ?_
  rw [ifz (by omega)]
  refine call0 (R := fun _ _ _ => True) (fun x => ⟨rfl, trivial⟩) (fun β wc hk => ?_) ?_
  · refine (zoneless_c (some ad) n c x l B wc (h.sub MaR.lasts (Below.sub (hk.mono hB)) (Nat.le_refl _)) (by rcases hx with ⟨_, h, _⟩ | ⟨_, h⟩ <;> rw [h] <;> decide) hcap (Nat.le_trans hB hk.size)).mono ?_
    rintro e w' ⟨v, rfl, rfl, hb⟩
    exact ⟨(), rfl, hb, trivial⟩
  rintro ⟨⟩ wc w1 hk _ hb
  have hw1 : Below w.heap.size w w1 := hk.trans (hb.mono hk.size)
  have hB1 : B ≤ w1.heap.size := Nat.le_trans hB hw1.size
  obtain ⟨ad', x', ha', _, hx', hR⟩ := (h.sub MaR.lasts (Below.sub (hw1.mono hB)) (Nat.le_refl _)).get (i := 0) (by omega)
  cases ha'
  simp at hx'
  subst hx'
  rw [Nat.zero_mul, Rx.add_zero] at hR
  obtain ⟨r1, r2, r3⟩ := codeRead hR hB1
  have tail : yes = true → x.code = 4 → (∃ a b d, x.val = [127, a, b, d]) → ∀ (k : Bool → World → List Nat → T), (∀ b w2 bs, b = true → Below w.heap.size w w2 → (∀ b ∈ bs, w.heap.size ≤ b) → (k b w2 bs).holds (ctx Tryz.prog (retQ fun v w' => BoolQ (fun b => b = yes) v w' ∧ Below w.heap.size w w'))) →
      (T.call 46 [(.xp (ad.add 0))] (SS.mk [] [] true w1 []) (Hook.X (uvHook)) (Hook.out (uvHook) [(.xp (ad.add 0))] (SS.mk [] [] true w1 [])) fun x1 w1 b1 =>
        (.call 51 [(.xs x1.A x1.k x1.c)] (SS.mk [] [] true w1 b1) (Hook.X (boolHook)) (Hook.out (boolHook) [(.xs x1.A x1.k x1.c)] (SS.mk [] [] true w1 b1)) k)).holds (ctx Tryz.prog (retQ fun v w' => BoolQ (fun b => b = yes) v w' ∧ Below w.heap.size w w')) := by
    rintro hyes hx4 ⟨a, b, d, hval⟩ k hk'
    refine call0 (R := fun (z : UV) wc w' => Bts (Rx.since wc w') w'.heap.size z.A z.k x.val) (fun z => ⟨rfl, trivial⟩) (fun β wc hkc => ?_) ?_
    · refine (raw46_c (ad.add 0) x B wc (hR.sub (Below.sub (hkc.mono hB1)) (Nat.le_refl _) fun y vs hy => MaR.sub _ _ _ _ _ _ (Below.sub (hkc.mono hB1)) (Nat.le_refl _) hy) (Nat.le_trans hB1 hkc.size)).mono ?_
      rintro e w' ⟨v, rfl, ⟨A3, k3, c3, rfl, h5⟩, hb'⟩
      exact ⟨⟨A3, k3, c3⟩, rfl, hb', h5⟩
    rintro ⟨A2, k2, c2⟩ wc2 w2 hk2 hr hb2
    dsimp only at hr ⊢
    have hw2 : Below w.heap.size w w2 := (hw1.trans (hk2.mono hw1.size)).trans (hb2.mono (Nat.le_trans hw1.size hk2.size))
    have hk4 : k2 = 4 := by rw [hr.1, hval]; rfl
    subst hk4
    rw [hval] at hr
    refine boolCallR (fun b => b = true) (Fine.nil hw2) rfl (fun β w3 hb3 hst3 o3 => ?_) (fun b w3 bs hbt hb3 hbs => hk' b w3 bs hbt hb3 hbs)
    refine loop51_c A2 c2 [a, b, d] w2.heap.size w3 (hr.sub ((since_sub _ _ _).trans fun a v hlt hv => ?_) (Nat.le_refl _)) o3.sz
    have h3 := o3.fr a.block hlt (fun i hi => absurd hi (Nat.not_lt_zero i))
    simp only [World.cell?, h3] at hv ⊢
    exact hv
  have fin : ∀ b w2 bs lit, b = true → yes = true → Below w.heap.size w w2 → (∀ b ∈ bs, w.heap.size ≤ b) → (T.leaf .ret [(.bool b lit)] (SS.mk [] [] true w2 bs)).holds (ctx Tryz.prog (retQ fun v w' => BoolQ (fun b => b = yes) v w' ∧ Below w.heap.size w w')) := fun b w2 bs lit hb hy hw2 hbs => retF (Fine.mk' hw2 hbs) fun β w' _ _ => ⟨_, rfl, by rw [hb, hy]⟩
  have none' : yes = false → (T.leaf .ret [(.bool false true)] (SS.mk [] [] true w1 [])).holds (ctx Tryz.prog (retQ fun v w' => BoolQ (fun b => b = yes) v w' ∧ Below w.heap.size w w')) := fun hy => retF (Fine.nil hw1) fun β w' _ _ => ⟨_, rfl, by rw [hy]⟩
  have both : ∀ p : Prop, p → ∀ t : T, t.holds (ctx Tryz.prog (retQ fun v w' => BoolQ (fun b => b = yes) v w' ∧ Below w.heap.size w w')) → (T.need p t).holds (ctx Tryz.prog (retQ fun v w' => BoolQ (fun b => b = yes) v w' ∧ Below w.heap.size w w')) := fun p hp t ht => needT hp ht
  refine splitT (fun h => by cases h) (fun _ => splitT (fun h => by simp at h; omega) (fun _ => splitT (fun _ => splitT (fun h => by simp at h; omega) (fun _ => ?_)) (fun _ => ?_)))
  · refine needT (by omega) (needT rfl (needT r1 (needT r1 (needT r2 ?_))))
    rcases hx with ⟨hy, h4, hval⟩ | ⟨hy, h273⟩
    · refine splitT (fun _ => needT (by omega) (needT rfl (tail hy h4 hval _ fun b w2 bs hb hw2 hbs => fin b w2 bs _ hb hy hw2 hbs))) (fun h => ?_)
      exact absurd (r3.trans h4) (beq_eq_false_iff_ne.1 h)
    · refine splitT (fun h => ?_) (fun _ => splitT (fun h => ?_) (fun _ => none' hy))
      · have h' : intAt w1 (((ptrAt w1 (((ad.add 0).add 1).add 0)).add 1).add 0) = 4 := eq_of_beq h
        rw [r3, h273] at h'; cases h'
      · have h' : intAt w1 (((ptrAt w1 (((ad.add 0).add 1).add 0)).add 1).add 0) = 41 := eq_of_beq h
        rw [r3, h273] at h'; cases h'
  · refine needT (by omega) (needT (by omega) (splitT (fun h => by cases h) (fun _ => needT (by omega) (needT rfl (needT r1 (needT r1 (needT r2 ?_)))))))
    rcases hx with ⟨hy, h4, hval⟩ | ⟨hy, h273⟩
    · refine splitT (fun _ => needT (by omega) (needT rfl (tail hy h4 hval _ fun b w2 bs hb hw2 hbs => fin b w2 bs _ hb hy hw2 hbs))) (fun h => ?_)
      exact absurd (r3.trans h4) (beq_eq_false_iff_ne.1 h)
    · refine splitT (fun h => ?_) (fun _ => splitT (fun h => ?_) (fun _ => none' hy))
      · have h' : intAt w1 (((ptrAt w1 (((ad.add 0).add 1).add 0)).add 1).add 0) = 4 := eq_of_beq h
        rw [r3, h273] at h'; cases h'
      · have h' : intAt w1 (((ptrAt w1 (((ad.add 0).add 1).add 0)).add 1).add 0) = 41 := eq_of_beq h
        rw [r3, h273] at h'; cases h'

end Go.Proofs.YtdmnoagahjbjhaaGreatDoor
end

section
/- NetAsk. -/
set_option linter.unusedVariables false
set_option linter.unusedSimpArgs false
set_option maxRecDepth 20000
namespace Go.Proofs.YtdmnoagahjbjhaaGreatDoor
open Go Go.Rx Go.RowKit
def hk33 : Hooks := { calls := fun f => if f = 34 ∨ f = 35 then some boolHook else none, loops := fun _ _ => none }
def askObjs (args : List SV) (l : List SObj) (b : Bool) : List SObj :=
  match args with
  | [.fn _ _ [_, _, .ptr i _]] => l.set i (.cells [.bool b false] 1 4 0 0)
  | _ => l
@[reducible] def askHook : Hook := { X := Bool, out := fun args s b => (.bool true false, askObjs args s.objs b) }
def hk19 : Hooks := { calls := fun f => if f = 23 then some uvHook else if f = 32 then some askHook else none, loops := fun _ _ => none }
@[reducible] def aObjs (k : Int) (A : Option Addr) (n c : Nat) : List SObj := [.cells [.int .i64 k true] 1 3 0 0, .cells [.bool false true] 1 4 0 0, .cells [.xs A n c] 1 47 0 0]
@[reducible] def aObjs' (k : Int) (A : Option Addr) (n c : Nat) (b : Bool) : List SObj := [.cells [.int .i64 k true] 1 3 0 0, .cells [.bool b false] 1 4 0 0, .cells [.xs A n c] 1 47 0 0]
set_option maxRecDepth 100000 in
theorem t33l (A : Option Addr) (n c : Nat) (w : World) (bs : List Nat) : xFunc Tryz.prog hk33 500 33 [.ptr 0 0, .ptr 2 0, .ptr 1 0] (SS.mk [.cells [.int .i64 1 true] 1 3 0 0, .cells [.bool false true] 1 4 0 0, .cells [.xs A n c] 1 47 0 0] [] true w bs) =
  (.hc 35 [(.xs A n c)] (SS.mk [(.cells [(.int .i64 1 true)] 1 3 0 0), (.cells [(.bool false true)] 1 4 0 0), (.cells [(.xs A n c)] 1 47 0 0)] [] true w bs) (boolHook) fun x0 w0 b0 =>
  (.leaf .ret [(.tup [])] (SS.mk [(.cells [(.int .i64 1 true)] 1 3 0 0), (.cells [(.bool x0 false)] 1 4 0 0), (.cells [(.xs A n c)] 1 47 0 0)] [] true w0 b0))) := by kernel_rfl
set_option maxRecDepth 100000 in
theorem t33w (A : Option Addr) (n c : Nat) (w : World) (bs : List Nat) : xFunc Tryz.prog hk33 500 33 [.ptr 0 0, .ptr 2 0, .ptr 1 0] (SS.mk [.cells [.int .i64 0 true] 1 3 0 0, .cells [.bool false true] 1 4 0 0, .cells [.xs A n c] 1 47 0 0] [] true w bs) =
  (.hc 34 [(.xs A n c)] (SS.mk [(.cells [(.int .i64 0 true)] 1 3 0 0), (.cells [(.bool false true)] 1 4 0 0), (.cells [(.xs A n c)] 1 47 0 0)] [] true w bs) (boolHook) fun x0 w0 b0 =>
  (.leaf .ret [(.tup [])] (SS.mk [(.cells [(.int .i64 0 true)] 1 3 0 0), (.cells [(.bool x0 false)] 1 4 0 0), (.cells [(.xs A n c)] 1 47 0 0)] [] true w0 b0))) := by kernel_rfl
set_option maxRecDepth 100000 in
theorem t19l (A : Option Addr) (n c : Nat) (w : World) : xFunc Tryz.prog hk19 500 19 [.int .i64 1 true, .xs A n c] (SS.mk [] [] true w []) =
  (.hc 23 [(.xs A n c)] (SS.mk [(.cells [(.int .i64 1 true)] 1 3 0 0), (.cells [(.bool false true)] 1 4 0 0)] [] true w []) (uvHook) fun x0 w0 b0 =>
  (.hc 32 [(.fn (.func 33) [] [(.ptr 0 0), (.ptr 2 0), (.ptr 1 0)])] (SS.mk [(.cells [(.int .i64 1 true)] 1 3 0 0), (.cells [(.bool false true)] 1 4 0 0), (.cells [(.xs x0.A x0.k x0.c)] 1 47 0 0)] [] true w0 b0) (askHook) fun x1 w1 b1 =>
  (.leaf .ret [(.bool x1 false)] (SS.mk [(.cells [(.int .i64 1 true)] 1 3 0 0), (.cells [(.bool x1 false)] 1 4 0 0), (.cells [(.xs x0.A x0.k x0.c)] 1 47 0 0)] [] true w1 b1)))) := by kernel_rfl
set_option maxRecDepth 100000 in
theorem t19w (A : Option Addr) (n c : Nat) (w : World) : xFunc Tryz.prog hk19 500 19 [.int .i64 0 true, .xs A n c] (SS.mk [] [] true w []) =
  (.hc 23 [(.xs A n c)] (SS.mk [(.cells [(.int .i64 0 true)] 1 3 0 0), (.cells [(.bool false true)] 1 4 0 0)] [] true w []) (uvHook) fun x0 w0 b0 =>
  (.hc 32 [(.fn (.func 33) [] [(.ptr 0 0), (.ptr 2 0), (.ptr 1 0)])] (SS.mk [(.cells [(.int .i64 0 true)] 1 3 0 0), (.cells [(.bool false true)] 1 4 0 0), (.cells [(.xs x0.A x0.k x0.c)] 1 47 0 0)] [] true w0 b0) (askHook) fun x1 w1 b1 =>
  (.leaf .ret [(.bool x1 false)] (SS.mk [(.cells [(.int .i64 0 true)] 1 3 0 0), (.cells [(.bool x1 false)] 1 4 0 0), (.cells [(.xs x0.A x0.k x0.c)] 1 47 0 0)] [] true w1 b1)))) := by kernel_rfl

def tree33 (k : Int) (fq : FuncId) (A : Option Addr) (n c : Nat) (w : World) (bs : List Nat) : T :=
  .call fq [(.xs A n c)] (SS.mk (aObjs k A n c) [] true w bs) Bool (Hook.out (boolHook) [(.xs A n c)] (SS.mk (aObjs k A n c) [] true w bs)) fun x0 w0 b0 =>
    (.leaf .ret [(.tup [])] (SS.mk (aObjs' k A n c x0) [] true w0 b0))

@[reducible] def askArgs : List SV := [(.fn (.func 33) [] [(.ptr 0 0), (.ptr 2 0), (.ptr 1 0)])]

def tree19 (k : Int) (A : Option Addr) (n c : Nat) (w : World) : T :=
  .call 23 [(.xs A n c)] (SS.mk [(.cells [(.int .i64 k true)] 1 3 0 0), (.cells [(.bool false true)] 1 4 0 0)] [] true w []) UV (fun x => (.xs x.A x.k x.c, [(.cells [(.int .i64 k true)] 1 3 0 0), (.cells [(.bool false true)] 1 4 0 0)])) fun x0 w0 b0 =>
    (.call 32 askArgs (SS.mk (aObjs k x0.A x0.k x0.c) [] true w0 b0) Bool (fun b => (.bool true false, aObjs' k x0.A x0.k x0.c b)) fun x1 w1 b1 =>
      (.leaf .ret [(.bool x1 false)] (SS.mk (aObjs' k x0.A x0.k x0.c x1) [] true w1 b1)))

theorem aObjs_ok (k : Int) (A : Option Addr) (n c : Nat) (b : Bool) (m : Nat) : ∀ u ∈ aObjs' k A n c b, u.ok m := by
  intro u hu
  simp only [aObjs', List.mem_cons, List.mem_nil_iff, or_false] at hu
  rcases hu with rfl | rfl | rfl <;> simp [SObj.ok, okL, SV.ok]

theorem netAsk_of (k : Int) (fq : FuncId) (ans : Bool)
    (h19 : ∀ A n c w, xFunc Tryz.prog hk19 500 19 [.int .i64 k true, .xs A n c] (SS.mk [] [] true w []) = tree19 k A n c w)
    (h33 : ∀ A n c w bs, xFunc Tryz.prog hk33 500 33 [.ptr 0 0, .ptr 2 0, .ptr 1 0] (SS.mk (aObjs k A n c) [] true w bs) = tree33 k fq A n c w bs)
    (A : Option Addr) (n c : Nat) (l : List Comp) (B : Nat) (w : World) (h : CompsAt w B A n l) (hB : B ≤ w.heap.size) (hn : (n : Int) < 2 ^ 40) (hc : ∀ x ∈ l, x.code ∈ table) (hv : ∀ x ∈ l, (x.val.length : Int) < 2 ^ 46)
    (hq : ∀ A' n' c' B' wc, RowAt MaR 3 wc B' A' n' l → n' ≤ c' → B' ≤ wc.heap.size → Calls Tryz.prog fq #[.slice A' n' c'] wc (Ret (BoolQ fun b => b = ans) wc)) :
    Calls Tryz.prog 19 #[.int .i64 k, .slice A n c] w (Ret (BoolQ fun b => b = ans) w) := by
  refine funF (hk := hk19) (n := 500) (args := [.int .i64 k true, .xs A n c]) ⟨trivial, trivial, trivial⟩ ?_
  refine holds_eq (h19 A n c w) ?_
  unfold tree19
  refine callN (R := fun (z : UV) wc w' => RowAt MaR 3 (Rx.since wc w') w'.heap.size z.A z.k l ∧ z.k ≤ z.c) (Fine.start w _) (fun x => ⟨rfl, trivial⟩) (fun β wc hst ho hb => ?_) ?_
  · refine (address_cc A n c l B wc (h.below (hb.mono hB) (Nat.le_refl _)) (Nat.le_trans hB hb.size) hn hc hv).mono ?_
    rintro e w' ⟨v, rfl, ⟨A3, k3, c3, rfl, h5, h6⟩, hb'⟩
    exact ⟨⟨A3, k3, c3⟩, rfl, hb', h5, h6⟩
  rintro ⟨A1, k1, c1⟩ wc w1 bs hb0 ⟨hrow, hcap⟩ hb1 hw1 hbs
  dsimp only at hrow hcap ⊢
  refine callM (R := fun b _ _ => b = ans) (Fine.mk' hw1 (fun b hb => (hbs b hb).1)) rfl (fun x => ⟨rfl, aObjs_ok _ _ _ _ _ _, trivial⟩) ?_ ?_
  · intro β w2 hst o hb2
    have h3 : (SS.mk (aObjs k A1 k1 c1) [] true w1 bs).n = 3 := rfl
    have hsafe := safe_c ⟨β 0, 0, none⟩ ⟨β 2, 0, none⟩ ⟨β 1, 0, none⟩ w2 (blocks β 3) (fun w' => ∃ b, ObjsAt β (aObjs' k A1 k1 c1 b) w' ∧ b = ans) ?_ ?_ ?_
    · refine hsafe.mono ?_
      rintro e w' ⟨rfl, hk, b, hat, hb⟩
      exact ⟨b, rfl, hk, hat, hb⟩
    · intro b hb
      simp only [blocks, List.mem_map, List.mem_range] at hb
      obtain ⟨i, hi, rfl⟩ := hb
      exact hst.lt i (by rw [h3]; exact hi)
    · rintro wa wb hab ⟨b, hat, hb⟩
      refine ⟨b, fun i ob hi => ?_, hb⟩
      rw [hab _ (hst.lt i (by rw [h3]; exact (List.getElem?_eq_some_iff.1 hi).1))]
      exact hat i ob hi
    intro w3 hb3
    have hst3 := hst.later hb3 (P := Tryz.prog) (Q := retQ fun v w' => v = .tuple #[] ∧ Keep (blocks β 3) w3 w' ∧ ∃ b, ObjsAt β (aObjs' k A1 k1 c1 b) w' ∧ b = ans)
    refine (funS (hk := hk33) (n := 500) (args := [.ptr 0 0, .ptr 2 0, .ptr 1 0]) hst3 ⟨by simp [SV.ok, SS.n], by simp [SV.ok, SS.n], by simp [SV.ok, SS.n], trivial⟩ ?_).mono ?_
    · refine holds_eq (h33 A1 k1 c1 w3 (blocks β 3)) ?_
      unfold tree33
      have hkf : ∀ objs, KFine (blocks β 3) w3 (SS.mk objs [] true w3 (blocks β 3)) := fun objs => ⟨rfl, Keep.refl _ _, fun b hb => .inl hb⟩
      refine callK (R := fun b _ _ => b = ans) (hkf _) (fun x => ⟨rfl, trivial⟩) (fun β' w4 hst4 o4 hk4 => ?_) ?_
      · have hsub : Sub w1.heap.size (Rx.since wc w1) w4 := by
          intro a v hlt hx
          rw [cell_since] at hx
          have hnp : a.block ∉ bs := fun hm => by have := (hbs _ hm).2; omega
          have hnb : a.block ∉ blocks β 3 := by
            intro hm
            simp only [blocks, List.mem_map, List.mem_range] at hm
            obtain ⟨i, hi, he⟩ := hm
            rcases o.pos (i := i) (by rw [h3]; exact hi) with h | h
            · rw [he] at h; exact hnp h
            · have : w1.heap.size ≤ β i := h
              omega
          have s1 : w2.heap[a.block]? = w1.heap[a.block]? := o.heap hlt hnp
          have hz2 : w1.heap.size ≤ w2.heap.size := o.sz
          have s2 : w3.heap[a.block]? = w2.heap[a.block]? := hb3.block _ (by omega)
          have s3 : w4.heap[a.block]? = w3.heap[a.block]? := hk4.block _ (by have := hb3.size; omega) hnb
          have hx2 := hx.2
          simp only [World.cell?] at hx2 ⊢
          rw [s3, s2, s1]
          exact hx2
        have hz : w1.heap.size ≤ w4.heap.size := Nat.le_trans (Nat.le_trans o.sz hb3.size) hk4.size
        refine (hq A1 k1 c1 w1.heap.size w4 (hrow.sub MaR.lasts hsub (Nat.le_refl _)) hcap hz).mono ?_
        rintro e w' ⟨v, rfl, ⟨b, rfl, hb⟩, hb'⟩
        exact ⟨b, rfl, hb', hb⟩
      · rintro b w4 w5 bs' hk4 hb hb5 hk5 hbs'
        refine leafK ⟨rfl, hk5, hbs'⟩ fun β' w6 hst6 hk6 => ⟨_, rfl, rfl, hk6, b, ?_, hb⟩
        exact hst6.objsAt rfl (aObjs_ok _ _ _ _ _ _)
    · rintro e w' ⟨v, rfl, rfl, hk, hat⟩
      exact ⟨rfl, hk, hat⟩
  · rintro b w2 w3 bs' hb2 rfl hw3 hbs'
    exact retF (Fine.mk' hw3 fun b hb => (hbs' b hb).1) fun β w' _ _ => ⟨_, rfl, rfl⟩

theorem askLoop_c (yes : Bool) (A : Option Addr) (n c : Nat) (x : Comp) (l : List Comp) (B : Nat) (w : World) (h : CompsAt w B A n (x :: l)) (hB : B ≤ w.heap.size) (hn : (n : Int) < 2 ^ 40) (hc : ∀ y ∈ x :: l, y.code ∈ table) (hv : ∀ y ∈ x :: l, (y.val.length : Int) < 2 ^ 46)
    (hx : (yes = true ∧ x.code = 4 ∧ ∃ a b d, x.val = [127, a, b, d]) ∨ (yes = false ∧ x.code = 273)) : Calls Tryz.prog 19 #[.int .i64 1, .slice A n c] w (Ret (BoolQ fun b => b = yes) w) :=
  netAsk_of 1 35 yes (fun A n c w => t19l A n c w) (fun A n c w bs => t33l A n c w bs) A n c (x :: l) B w h hB hn hc hv fun A' n' c' B' wc hr hcap hB' => loopback_c yes A' n' c' x l B' wc hr hx hcap hB'

theorem askThin_c (A : Option Addr) (n c : Nat) (x y : Comp) (l : List Comp) (B : Nat) (w : World) (h : CompsAt w B A n (x :: y :: l)) (hB : B ≤ w.heap.size) (hn : (n : Int) < 2 ^ 40) (hc : ∀ z ∈ x :: y :: l, z.code ∈ table) (hv : ∀ z ∈ x :: y :: l, (z.val.length : Int) < 2 ^ 46)
    (hx : x.code = 4) (hy : y.code = 273) : Calls Tryz.prog 19 #[.int .i64 0, .slice A n c] w (Ret (BoolQ fun b => b = true) w) :=
  netAsk_of 0 34 true (fun A n c w => t19w A n c w) (fun A n c w bs => t33w A n c w bs) A n c (x :: y :: l) B w h hB hn hc hv fun A' n' c' B' wc hr hcap hB' => thinWaist_c A' n' c' x y l B' wc hr hx hy hcap (by have h1 := hr.1; have h2 := h.1; omega) hB'

end Go.Proofs.YtdmnoagahjbjhaaGreatDoor
end

section
/- netAlive. -/
set_option linter.unusedVariables false
set_option linter.unusedSimpArgs false
set_option maxRecDepth 20000
namespace Go.Proofs.YtdmnoagahjbjhaaGreatDoor
open Go Go.Rx Go.RowKit
structure AV where
  A : Option Addr
@[reducible] def twoHook : Hook := { X := AV, out := fun _ s x => (.xs x.A 2 2, s.objs) }
@[reducible] def ipbHook : Hook := { X := UV, out := fun _ s x => (.tup [.xs x.A x.k x.c, .bool true true], s.objs) }
@[reducible] def bHook : Hook := { X := Bool, out := fun _ s b => (.bool b false, s.objs) }
def hk9 : Hooks := { calls := fun f => if f = 17 then some twoHook else if f = 18 then some ipbHook else if f = 19 ∨ f = 20 then some bHook else none, loops := fun _ _ => none }
set_option maxRecDepth 100000 in
theorem t9 (w : World) : xFunc Tryz.prog hk9 500 9 [] (SS.mk [] [] true w []) =
  (.hc 17 [] (SS.mk [] [] true w []) (twoHook) fun x0 w0 b0 =>
  (.hc 18 [(.xs x0.A 2 2)] (SS.mk [] [] true w0 b0) (ipbHook) fun x1 w1 b1 =>
  (.hc 19 [(.int .i64 1 true), (.xs x0.A 2 2)] (SS.mk [] [] true w1 b1) (bHook) fun x2 w2 b2 =>
  (.split x2
   (.need ((0 : Int) ≤ (1 : Int) ∧ (1 : Int) ≤ (↑(2 : Nat) : Int))
   (.hc 19 [(.int .i64 1 true), (.xs (if (2 : Nat) = (1 : Nat) then x0.A else Option.map (fun x => x.add (2 : Nat)) x0.A) 1 1)] (SS.mk [] [] true w2 b2) (bHook) fun x3 w3 b3 =>
   (.split (!x3)
    (.hc 19 [(.int .i64 0 true), (.xs x0.A 2 2)] (SS.mk [] [] true w3 b3) (bHook) fun x4 w4 b4 =>
    (.split x4
     (.hc 20 [(.xs x1.A x1.k x1.c), (.int .i64 32 true), (.slc 0 0 4 4 true true)] (SS.mk [(.cells [(.int .u8 127 true), (.int .u8 0 true), (.int .u8 0 true), (.int .u8 1 true)] 4 5 0 0)] [] true w4 b4) (bHook) fun x5 w5 b5 =>
     (.leaf .ret [(.bool (x5 == ((↑x1.k : Int) == (4 : Int))) false)] (SS.mk [(.cells [(.int .u8 127 true), (.int .u8 0 true), (.int .u8 0 true), (.int .u8 1 true)] 4 5 0 0)] [] true w5 b5)))
     (.leaf .ret [(.bool false true)] (SS.mk [] [] true w4 b4))))
    (.leaf .ret [(.bool false true)] (SS.mk [] [] true w3 b3)))))
   (.leaf .ret [(.bool false true)] (SS.mk [] [] true w2 b2)))))) := by kernel_rfl

theorem compsAt_of_row {w : World} {B : Nat} {A : Option Addr} {n : Nat} {l : List Comp} (h : RowAt CompR 2 w B A n l) (hl : ∀ x ∈ l, (x.val.length : Int) < 2 ^ 48) : CompsAt w B A n l :=
  ⟨h.1, fun hn => by
    obtain ⟨a, ha, hb, hx⟩ := h.2 hn
    refine ⟨a, ha, hb, fun i x hi => ?_⟩
    obtain ⟨h1, vs, ⟨A', n', c', rfl, hbt⟩, hc⟩ := hx i x hi
    exact ⟨h1, hc 0 _ rfl, ⟨A', n', c', hc 1 _ rfl, hbt⟩, hl x (List.mem_of_getElem? hi)⟩⟩

theorem compsTail {w : World} {B : Nat} {a : Addr} {n : Nat} {x : Comp} {l : List Comp} (h : CompsAt w B (some a) (n + 1) (x :: l)) : CompsAt w B (some (a.add 2)) n l := by
  have hl := h.1
  simp only [List.length_cons] at hl
  obtain ⟨a', ha, hb, hx⟩ := h.2 (by omega)
  cases ha
  refine ⟨by omega, fun hn => ⟨_, rfl, by rw [add_block]; exact hb, fun i y hi => ?_⟩⟩
  have := hx (i + 1) y (by simpa using hi)
  rw [Rx.add_add]
  rw [show 2 + i * 2 = (i + 1) * 2 by omega]
  exact this

theorem twoTable : ∀ x ∈ twoL, x.code ∈ table := by
  intro x hx
  simp only [twoL, List.mem_cons, List.mem_nil_iff, or_false] at hx
  rcases hx with rfl | rfl <;> decide

theorem twoLen : ∀ x ∈ twoL, x.val.length ≤ 4 := by
  intro x hx
  simp only [twoL, List.mem_cons, List.mem_nil_iff, or_false] at hx
  rcases hx with rfl | rfl <;> decide

theorem netAlive_c (w : World) : Calls Tryz.prog 9 #[] w (Ret (BoolQ fun b => b = true) w) := by
  refine funF (hk := hk9) (n := 500) (args := []) trivial ?_
  refine holds_eq (t9 w) ?_
  have fin : ∀ objs w2 bs lit b, b = true → Below w.heap.size w w2 → (∀ b ∈ bs, w.heap.size ≤ b) → (T.leaf .ret [(.bool b lit)] (SS.mk objs [] true w2 bs)).holds (ctx Tryz.prog (retQ fun v w' => BoolQ (fun b => b = true) v w' ∧ Below w.heap.size w w')) := fun objs w2 bs lit b hb hw2 hbs => retF (Fine.mk' hw2 hbs) fun β w' _ _ => ⟨_, rfl, hb⟩
  have h48 : ∀ x ∈ twoL, (x.val.length : Int) < 2 ^ 48 := fun x hx => by have := twoLen x hx; omega
  have h46 : ∀ x ∈ twoL, (x.val.length : Int) < 2 ^ 46 := fun x hx => by have := twoLen x hx; omega
  refine call0 (R := fun (z : AV) wc w' => CompsAt w' w'.heap.size z.A 2 twoL) (fun z => ⟨rfl, trivial⟩) (fun β wc hk => ?_) ?_
  · refine (maTwo_c wc).mono ?_
    rintro e w' ⟨v, rfl, ⟨A, rfl, hr⟩, hb⟩
    exact ⟨⟨A⟩, rfl, hb, compsAt_of_row (hr.sub CompR.lasts (since_sub _ _ _) (Nat.le_refl _)) h48⟩
  rintro ⟨A⟩ wc w1 hk hA hb
  dsimp only at hA
  have hw1 : Below w.heap.size w w1 := hk.trans (hb.mono hk.size)
  obtain ⟨ad, _, rfl, had, _, _⟩ := hA.get (i := 0) (by omega)
  refine call0 (R := fun (z : UV) wc w' => Bts (Rx.since wc w') w'.heap.size z.A z.k [127, 0, 0, 1]) (fun z => ⟨rfl, trivial, trivial, trivial⟩) (fun β wc hk => ?_) ?_
  · refine (netToIP_c (some ad) 2 2 ⟨4, [127, 0, 0, 1]⟩ [⟨273, [4, 210]⟩] w1.heap.size wc (hA.below hk (Nat.le_refl _)) rfl hk.size (by decide) twoTable h46).mono ?_
    rintro e w' ⟨v, rfl, ⟨A3, k3, c3, rfl, h5⟩, hb'⟩
    exact ⟨⟨A3, k3, c3⟩, rfl, hb', h5⟩
  rintro ⟨A1, k1, c1⟩ wc2 w2 hk2 hr hb2
  dsimp only at hr ⊢
  have h12 : Below w1.heap.size w1 w2 := hk2.trans (hb2.mono hk2.size)
  have hw2 : Below w.heap.size w w2 := hw1.trans (h12.mono hw1.size)
  have hk4 : k1 = 4 := hr.1
  subst hk4
  have hB2 : Bts w2 w2.heap.size A1 4 [127, 0, 0, 1] := hr.sub (since_sub _ _ _) (Nat.le_refl _)
  refine call0 (R := fun b _ _ => b = true) (fun z => ⟨rfl, trivial⟩) (fun β wc hk => ?_) ?_
  · refine (askLoop_c true (some ad) 2 2 ⟨4, [127, 0, 0, 1]⟩ [⟨273, [4, 210]⟩] w1.heap.size wc (hA.below (h12.trans (hk.mono h12.size)) (Nat.le_refl _)) (Nat.le_trans h12.size hk.size) (by decide) twoTable h46 (.inl ⟨rfl, rfl, _, _, _, rfl⟩)).mono ?_
    rintro e w' ⟨v, rfl, ⟨b, rfl, h5⟩, hb'⟩
    exact ⟨b, rfl, hb', h5⟩
  rintro b wc3 w3 hk3 rfl hb3
  have h23 : Below w2.heap.size w2 w3 := hk3.trans (hb3.mono hk3.size)
  have h13 : Below w1.heap.size w1 w3 := h12.trans (h23.mono h12.size)
  refine splitT (fun _ => ?_) (fun h => by cases h)
  refine needT (by omega) ?_
  rw [show (if (2 : Nat) = (1 : Nat) then some ad else Option.map (fun x => x.add (2 : Nat)) (some ad)) = some (ad.add 2) from rfl]
  refine call0 (R := fun b _ _ => b = false) (fun z => ⟨rfl, trivial⟩) (fun β wc hk => ?_) ?_
  · refine (askLoop_c false (some (ad.add 2)) 1 1 ⟨273, [4, 210]⟩ [] w1.heap.size wc (compsTail (hA.below (h13.trans (hk.mono h13.size)) (Nat.le_refl _))) (Nat.le_trans h13.size hk.size) (by decide) (fun y hy => twoTable y (List.mem_cons_of_mem _ hy)) (fun y hy => h46 y (List.mem_cons_of_mem _ hy)) (.inr ⟨rfl, rfl⟩)).mono ?_
    rintro e w' ⟨v, rfl, ⟨b, rfl, h5⟩, hb'⟩
    exact ⟨b, rfl, hb', h5⟩
  rintro b wc4 w4 hk4 rfl hb4
  have h34 : Below w3.heap.size w3 w4 := hk4.trans (hb4.mono hk4.size)
  have h14 : Below w1.heap.size w1 w4 := h13.trans (h34.mono h13.size)
  have h24 : Below w2.heap.size w2 w4 := h23.trans (h34.mono h23.size)
  refine splitT (fun _ => ?_) (fun h => by cases h)
  refine call0 (R := fun b _ _ => b = true) (fun z => ⟨rfl, trivial⟩) (fun β wc hk => ?_) ?_
  · refine (askThin_c (some ad) 2 2 ⟨4, [127, 0, 0, 1]⟩ ⟨273, [4, 210]⟩ [] w1.heap.size wc (hA.below (h14.trans (hk.mono h14.size)) (Nat.le_refl _)) (Nat.le_trans h14.size hk.size) (by decide) twoTable h46 rfl rfl).mono ?_
    rintro e w' ⟨v, rfl, ⟨b, rfl, h5⟩, hb'⟩
    exact ⟨b, rfl, hb', h5⟩
  rintro b wc5 w5 hk5 rfl hb5
  have h45 : Below w4.heap.size w4 w5 := hk5.trans (hb5.mono hk5.size)
  have h25 : Below w2.heap.size w2 w5 := h24.trans (h45.mono h24.size)
  have hw5 : Below w.heap.size w w5 := hw2.trans (h25.mono hw2.size)
  refine splitT (fun _ => ?_) (fun h => by cases h)
  refine boolCallR (a0 := []) (fun b => b = true) (Fine.nil hw5) rfl (fun β w6 hb6 hst6 o6 => ?_) (fun b w6 bs hbt hb6 hbs => fin _ _ _ _ _ (by rw [hbt]; rfl) hb6 hbs)
  have b0 := bts_of_cells (l := [127, 0, 0, 1]) (hst6.at_ 0 _ rfl) rfl rfl (hst6.lt 0 (by simp [SS.n]))
  have hold : Sub w5.heap.size w5 w6 := fun a v hlt hx => by
    have h6 : w6.heap[a.block]? = w5.heap[a.block]? := o6.fr a.block hlt (fun i hi he => by
      have h5 : w5.heap.size ≤ β i := o6.new i (Nat.zero_le _) hi
      omega)
    simp only [World.cell?] at hx ⊢
    rw [h6]
    exact hx
  exact netIn_c A1 c1 (some ⟨β 0, 0, none⟩) 4 [127, 0, 0, 1] w6.heap.size w6 (hB2.sub ((Below.sub h25).trans fun a v hlt hx => hold a v (Nat.lt_of_lt_of_le hlt h25.size) hx) (Nat.le_trans h25.size o6.sz)) b0 (Nat.le_refl _)

end Go.Proofs.YtdmnoagahjbjhaaGreatDoor
end

section
/- FnNetMatch. -/
set_option linter.unusedVariables false
set_option linter.unusedSimpArgs false
set_option maxRecDepth 20000
namespace Go.Proofs.YtdmnoagahjbjhaaGreatDoor
open Go Go.Rx Go.RowKit
def L3w : SE → List Nat
  | .normal => [5, 0, 1, 32, 33, 34]
  | .exit 0 => [5, 0, 1]
  | _ => []
def lh3w (A : Option Addr) (n c : Nat) (A' : Option Addr) (n' c' : Nat) : LoopHook := mkHook 71 UV (.exit 0) [5, 0, 1] (fun x => [.xs x.A x.k x.c, .xs A n c, .xs A' n' c']) Unit .ret [] (fun _ => [])
def lh3c : LoopHook := mkHook 71 Unit .ret [4] (fun _ => [.bool false true]) Unit (.exit 2) [] (fun _ => [])
def hk3 (A : Option Addr) (n c : Nat) (A' : Option Addr) (n' c' : Nat) : Hooks := { calls := fun f => if f = 11 then some uvHook else if f = 5 ∨ f = 6 ∨ f = 7 ∨ f = 8 ∨ f = 9 ∨ f = 10 ∨ f = 12 then some bHook else none, loops := fun _ k => if k = 8 then some (lh3w A n c A' n' c') else some lh3c }
def hk3r : Hooks := { calls := fun f => if f = 10 ∨ f = 12 then some bHook else none, loops := fun _ _ => none }
set_option maxRecDepth 100000 in
theorem n3 (A : Option Addr) (n c : Nat) (A' : Option Addr) (n' c' i : Nat) (w : World) (g : Nat → Value) : xCode Tryz.prog hk3r 1000 3 (loopOf Tryz.prog 3 8) (mkFrame ((L3w .normal).zip [.one (.slice none 0 0) rfl, .xs A n c, .xs A' n' c', .xs A' n' c', .int .i64 n' false, .int .i64 i false]) g 71 0) (fun e a s => .leaf e (sel L3w e a) s) (SS.mk [] [] true w []) =
  (.split (decide ((↑i : Int) < (↑n' : Int)))
   (.need ((0 : Int) ≤ (↑i : Int) ∧ (↑i : Int) < (↑n' : Int))
   (.need (A'.isSome = true)
   (.need (canRead w [] ((A'.getD default).add ((↑i : Int).toNat * (1 : Nat))) [SV.xs (slA w (((A'.getD default).add ((↑i : Int).toNat * (1 : Nat))).add (0 : Nat))) (slN w (((A'.getD default).add ((↑i : Int).toNat * (1 : Nat))).add (0 : Nat))) (slC w (((A'.getD default).add ((↑i : Int).toNat * (1 : Nat))).add (0 : Nat)))])
   (.hc 10 [(.xs A n c), (.xs (slA w (((A'.getD default).add ((↑i : Int).toNat * (1 : Nat))).add (0 : Nat))) (slN w (((A'.getD default).add ((↑i : Int).toNat * (1 : Nat))).add (0 : Nat))) (slC w (((A'.getD default).add ((↑i : Int).toNat * (1 : Nat))).add (0 : Nat))))] (SS.mk [] [] true w []) (bHook) fun x0 w0 b0 =>
   (.split x0
    (.need ((24 : Nat) ≤ (281474976710656 : Nat))
    (.need ((↑(1 : Nat) : Int) ≤ IntKind.i64.max)
    (.choose (.appendCap 1 0 22) fun c1 =>
    (.leaf .normal [(.slc 1 0 1 c1 true false), (.xs A n c), (.xs A' n' c'), (.xs A' n' c'), (.int .i64 ((↑n' : Int)) false), (.int .i64 (IntKind.i64.wrap ((↑i : Int) + (1 : Int))) false)] (SS.mk [(.cells [(.xs (slA w (((A'.getD default).add ((↑i : Int).toNat * (1 : Nat))).add (0 : Nat))) (slN w (((A'.getD default).add ((↑i : Int).toNat * (1 : Nat))).add (0 : Nat))) (slC w (((A'.getD default).add ((↑i : Int).toNat * (1 : Nat))).add (0 : Nat))))] 1 22 0 0), (.cells [(.xs (slA w (((A'.getD default).add ((↑i : Int).toNat * (1 : Nat))).add (0 : Nat))) (slN w (((A'.getD default).add ((↑i : Int).toNat * (1 : Nat))).add (0 : Nat))) (slC w (((A'.getD default).add ((↑i : Int).toNat * (1 : Nat))).add (0 : Nat))))] (c1 * (1 : Nat)) 22 0 0)] [] true w0 b0)))))
    (.leaf .normal [(.one (.slice none 0 0) rfl), (.xs A n c), (.xs A' n' c'), (.xs A' n' c'), (.int .i64 ((↑n' : Int)) false), (.int .i64 (IntKind.i64.wrap ((↑i : Int) + (1 : Int))) false)] (SS.mk [] [] true w0 b0)))))))
   (.leaf (.exit 0) [(.one (.slice none 0 0) rfl), (.xs A n c), (.xs A' n' c')] (SS.mk [] [] true w []))) := by kernel_rfl
set_option maxRecDepth 100000 in
theorem r3 (A : Option Addr) (n c : Nat) (A' : Option Addr) (n' c' i kk cc : Nat) (Ls : List Value) (w : World) (bs : List Nat) (g : Nat → Value) : xCode Tryz.prog hk3r 1000 3 (loopOf Tryz.prog 3 8) (mkFrame ((L3w .normal).zip [.slc 0 0 kk cc false false, .xs A n c, .xs A' n' c', .xs A' n' c', .int .i64 n' false, .int .i64 i false]) g 71 0) (fun e a s => .leaf e (sel L3w e a) s) (SS.mk [.vals Ls (cc * 1) 22 0 0] [] true w bs) =
  (.split (decide ((↑i : Int) < (↑n' : Int)))
   (.need ((0 : Int) ≤ (↑i : Int) ∧ (↑i : Int) < (↑n' : Int))
   (.need (A'.isSome = true)
   (.need (canRead w bs ((A'.getD default).add ((↑i : Int).toNat * (1 : Nat))) [SV.xs (slA w (((A'.getD default).add ((↑i : Int).toNat * (1 : Nat))).add (0 : Nat))) (slN w (((A'.getD default).add ((↑i : Int).toNat * (1 : Nat))).add (0 : Nat))) (slC w (((A'.getD default).add ((↑i : Int).toNat * (1 : Nat))).add (0 : Nat)))])
   (.hc 10 [(.xs A n c), (.xs (slA w (((A'.getD default).add ((↑i : Int).toNat * (1 : Nat))).add (0 : Nat))) (slN w (((A'.getD default).add ((↑i : Int).toNat * (1 : Nat))).add (0 : Nat))) (slC w (((A'.getD default).add ((↑i : Int).toNat * (1 : Nat))).add (0 : Nat))))] (SS.mk [(.vals Ls (cc * (1 : Nat)) 22 0 0)] [] true w bs) (bHook) fun x0 w0 b0 =>
   (.split x0
    (.split (decide (kk + (1 : Nat) ≤ cc))
     (.need ((0 : Nat) + kk * (1 : Nat) = Ls.length ∧ Ls.length + (denL id [SV.xs (slA w (((A'.getD default).add ((↑i : Int).toNat * (1 : Nat))).add (0 : Nat))) (slN w (((A'.getD default).add ((↑i : Int).toNat * (1 : Nat))).add (0 : Nat))) (slC w (((A'.getD default).add ((↑i : Int).toNat * (1 : Nat))).add (0 : Nat)))]).length ≤ cc * (1 : Nat) ∧ thawed (0 : Nat) (0 : Nat) Ls.length (denL id [SV.xs (slA w (((A'.getD default).add ((↑i : Int).toNat * (1 : Nat))).add (0 : Nat))) (slN w (((A'.getD default).add ((↑i : Int).toNat * (1 : Nat))).add (0 : Nat))) (slC w (((A'.getD default).add ((↑i : Int).toNat * (1 : Nat))).add (0 : Nat)))]).length = true)
     (.leaf .normal [(.slc 0 0 (kk + (1 : Nat)) cc false false), (.xs A n c), (.xs A' n' c'), (.xs A' n' c'), (.int .i64 ((↑n' : Int)) false), (.int .i64 (IntKind.i64.wrap ((↑i : Int) + (1 : Int))) false)] (SS.mk [(.vals (Ls ++ denL id [SV.xs (slA w (((A'.getD default).add ((↑i : Int).toNat * (1 : Nat))).add (0 : Nat))) (slN w (((A'.getD default).add ((↑i : Int).toNat * (1 : Nat))).add (0 : Nat))) (slC w (((A'.getD default).add ((↑i : Int).toNat * (1 : Nat))).add (0 : Nat)))]) (cc * (1 : Nat)) 22 0 0), (.cells [(.xs (slA w (((A'.getD default).add ((↑i : Int).toNat * (1 : Nat))).add (0 : Nat))) (slN w (((A'.getD default).add ((↑i : Int).toNat * (1 : Nat))).add (0 : Nat))) (slC w (((A'.getD default).add ((↑i : Int).toNat * (1 : Nat))).add (0 : Nat))))] 1 22 0 0)] [] true w0 b0)))
     (.need ((0 : Nat) + kk * (1 : Nat) ≤ Ls.length ∧ Builtin.nextslicecap (kk + (1 : Nat)) cc * (24 : Nat) ≤ (281474976710656 : Nat) ∧ (↑(kk + (1 : Nat)) : Int) ≤ IntKind.i64.max)
     (.choose (.appendCap (kk + (1 : Nat)) cc 22) fun c1 =>
     (.leaf .normal [(.slc 2 0 (kk + (1 : Nat)) c1 false false), (.xs A n c), (.xs A' n' c'), (.xs A' n' c'), (.int .i64 ((↑n' : Int)) false), (.int .i64 (IntKind.i64.wrap ((↑i : Int) + (1 : Int))) false)] (SS.mk [(.vals Ls (cc * (1 : Nat)) 22 0 0), (.cells [(.xs (slA w (((A'.getD default).add ((↑i : Int).toNat * (1 : Nat))).add (0 : Nat))) (slN w (((A'.getD default).add ((↑i : Int).toNat * (1 : Nat))).add (0 : Nat))) (slC w (((A'.getD default).add ((↑i : Int).toNat * (1 : Nat))).add (0 : Nat))))] 1 22 0 0), (.vals (List.take (kk * (1 : Nat)) (List.drop (0 : Nat) Ls) ++ denL id [SV.xs (slA w (((A'.getD default).add ((↑i : Int).toNat * (1 : Nat))).add (0 : Nat))) (slN w (((A'.getD default).add ((↑i : Int).toNat * (1 : Nat))).add (0 : Nat))) (slC w (((A'.getD default).add ((↑i : Int).toNat * (1 : Nat))).add (0 : Nat)))]) (c1 * (1 : Nat)) 22 0 0)] [] true w0 b0)))))
    (.leaf .normal [(.slc 0 0 kk cc false false), (.xs A n c), (.xs A' n' c'), (.xs A' n' c'), (.int .i64 ((↑n' : Int)) false), (.int .i64 (IntKind.i64.wrap ((↑i : Int) + (1 : Int))) false)] (SS.mk [(.vals Ls (cc * (1 : Nat)) 22 0 0)] [] true w0 b0)))))))
   (.leaf (.exit 0) [(.slc 0 0 kk cc false false), (.xs A n c), (.xs A' n' c')] (SS.mk [(.vals Ls (cc * (1 : Nat)) 22 0 0)] [] true w bs))) := by kernel_rfl
/-- A hooked call, nothing tracked, of which a bool comes back. -/
theorem bcall0 {Q : SE → List Value → World → Prop} {w : World} {f : FuncId} {args : List SV} {out : Bool → SV × List SObj} {k : Bool → World → List Nat → T} (R : Bool → Prop) (hout : ∀ b, out b = (.bool b false, []))
    (hc : ∀ β wc, Below w.heap.size w wc → Calls Tryz.prog f (denL β args).toArray wc (Ret (BoolQ R) wc))
    (hk : ∀ b w', Below w.heap.size w w' → R b → (k b w' []).holds (ctx Tryz.prog Q)) : (T.call f args (SS.mk [] [] true w []) Bool out k).holds (ctx Tryz.prog Q) := by
  refine call0 (R := fun b _ _ => R b) (fun b => by rw [hout]; exact ⟨rfl, trivial⟩) (fun β wc hb => ?_) (fun b wc w' h1 hr h2 => hk b w' (h1.trans (h2.mono h1.size)) hr)
  refine (hc β wc hb).mono ?_
  rintro e w' ⟨v, rfl, ⟨b, rfl, hr⟩, hb'⟩
  exact ⟨b, by rw [hout]; rfl, hb', hr⟩

/-- A slice that lies in the memory that came in. -/
def OldR (w : World) (B : Nat) (x : List Comp) (vs : List Value) : Prop := ∃ A n c, vs = [.slice A n c] ∧ CompsAt w B A n x

theorem OldR.len {w : World} {B : Nat} (x : List Comp) (vs : List Value) (h : OldR w B x vs) : vs.length = 1 := by
  obtain ⟨A, n, c, rfl, _⟩ := h
  rfl

theorem sliceAt {w : World} {a : Addr} {A : Option Addr} {n c : Nat} (h : w.cell? a = some (.slice A n c)) : slA w (a.add 0) = A ∧ slN w (a.add 0) = n ∧ slC w (a.add 0) = c := by
  have h' : w.cell? (a.add 0) = some (.slice A n c) := h
  simp [slA, slN, slC, h']

end Go.Proofs.YtdmnoagahjbjhaaGreatDoor
end

section
/- IP addresses: To4, To16. -/
set_option linter.unusedVariables false
set_option linter.unusedSimpArgs false
set_option maxRecDepth 20000
namespace Go.Proofs.YtdmnoagahjbjhaaGreatDoor
open Go Go.Rx Go.RowKit
def L87 : SE → List Nat
  | .normal => [0, 3]
  | .ret => [2]
  | _ => []
def lh87 : LoopHook := mkHook 15 Unit .ret [2] (fun _ => [.bool false true]) Unit (.exit 0) [] (fun _ => [])
def hk87 : Hooks := { calls := fun _ => none, loops := fun _ _ => some lh87 }
def hk14 : Hooks := { calls := fun f => if f = 20 then some bHook else none, loops := fun _ _ => none }
set_option maxRecDepth 100000 in
theorem t87 (A : Option Addr) (n c : Nat) (w : World) : xFunc Tryz.prog hk87 500 87 [.xs A n c] (SS.mk [] [] true w []) =
  (.loop 87 (loopOf Tryz.prog 87 3) ([(.xs A n c), (.tup []), (.bool false true), (.int .i64 0 true)] ++ List.replicate 11 undefS) (SS.mk [] [] true w []) (LoopHook.X (lh87)) (LoopHook.out (lh87) ([(.xs A n c), (.tup []), (.bool false true), (.int .i64 0 true)] ++ List.replicate 11 undefS) (SS.mk [] [] true w [])) (fun x0 w0 b0 =>
   (.leaf .ret [(.bool false true)] (SS.mk [] [] true w0 b0)))
  (LoopHook.Y (lh87)) (LoopHook.out' (lh87) ([(.xs A n c), (.tup []), (.bool false true), (.int .i64 0 true)] ++ List.replicate 11 undefS) (SS.mk [] [] true w [])) (fun x0 w0 b0 =>
   (.leaf .ret [(.bool true true)] (SS.mk [] [] true w0 b0)))) := by kernel_rfl
set_option maxRecDepth 100000 in
theorem r87 (A : Option Addr) (n c i : Nat) (w : World) (g : Nat → Value) : xCode Tryz.prog noHk 1000 87 (loopOf Tryz.prog 87 3) (mkFrame ((L87 .normal).zip [.xs A n c, .int .i64 i false]) g 15 0) (fun e a s => .leaf e (sel L87 e a) s) (SS.mk [] [] true w []) =
  (.split (decide ((↑i : Int) < (↑n : Int)))
   (.need ((0 : Int) ≤ (↑i : Int) ∧ (↑i : Int) < (↑n : Int))
   (.need (A.isSome = true)
   (.need (canRead w [] ((A.getD default).add ((↑i : Int).toNat * (1 : Nat))) [SV.int IntKind.u8 (intAt w (((A.getD default).add ((↑i : Int).toNat * (1 : Nat))).add (0 : Nat))) false])
   (.split (intAt w (((A.getD default).add ((↑i : Int).toNat * (1 : Nat))).add (0 : Nat)) != (0 : Int))
    (.leaf .ret [(.bool false true)] (SS.mk [] [] true w []))
    (.leaf .normal [(.xs A n c), (.int .i64 (IntKind.i64.wrap ((↑i : Int) + (1 : Int))) false)] (SS.mk [] [] true w []))))))
   (.leaf (.exit 0) [] (SS.mk [] [] true w []))) := by kernel_rfl
set_option maxRecDepth 100000 in
theorem t14 (A : Option Addr) (n c : Nat) (w : World) : xFunc Tryz.prog hk14 500 14 [.xs A n c] (SS.mk [] [] true w []) =
  (.split ((↑n : Int) == (16 : Int))
   (.hc 20 [(.xs A n c), (.int .i64 96 true), (.slc 0 0 12 12 true true)] (SS.mk [(.cells [(.int .u8 0 true), (.int .u8 0 true), (.int .u8 0 true), (.int .u8 0 true), (.int .u8 0 true), (.int .u8 0 true), (.int .u8 0 true), (.int .u8 0 true), (.int .u8 0 true), (.int .u8 0 true), (.int .u8 255 true), (.int .u8 255 true)] 12 5 0 0)] [] true w []) (bHook) fun x0 w0 b0 =>
   (.leaf .ret [(.bool x0 false)] (SS.mk [(.cells [(.int .u8 0 true), (.int .u8 0 true), (.int .u8 0 true), (.int .u8 0 true), (.int .u8 0 true), (.int .u8 0 true), (.int .u8 0 true), (.int .u8 0 true), (.int .u8 0 true), (.int .u8 0 true), (.int .u8 255 true), (.int .u8 255 true)] 12 5 0 0)] [] true w0 b0)))
   (.leaf .ret [(.bool false true)] (SS.mk [] [] true w []))) := by kernel_rfl
set_option maxRecDepth 100000 in
theorem t20m (A : Option Addr) (c : Nat) (A' : Option Addr) (c' : Nat) (w : World) : xFunc Tryz.prog hk20 1000 20 [.xs A 16 c, .int .i64 96 true, .xs A' 12 c'] (SS.mk [] [] true w []) =
  (.loop 20 (loopOf Tryz.prog 20 3) ([(.xs A 16 c), (.int .i64 96 true), (.xs A' 12 c'), (.tup []), (.tup []), (.tup []), (.bool false true), (.int .i64 0 true)] ++ List.replicate 36 undefS) (SS.mk [] [] true w []) (LoopHook.X (lh20)) (LoopHook.out (lh20) ([(.xs A 16 c), (.int .i64 96 true), (.xs A' 12 c'), (.tup []), (.tup []), (.tup []), (.bool false true), (.int .i64 0 true)] ++ List.replicate 36 undefS) (SS.mk [] [] true w [])) (fun x0 w0 b0 =>
   (.leaf .ret [(.bool true true)] (SS.mk [] [] true w0 b0)))
  (LoopHook.Y (lh20)) (LoopHook.out' (lh20) ([(.xs A 16 c), (.int .i64 96 true), (.xs A' 12 c'), (.tup []), (.tup []), (.tup []), (.bool false true), (.int .i64 0 true)] ++ List.replicate 36 undefS) (SS.mk [] [] true w [])) (fun x0 w0 b0 =>
   (.leaf .ret [(.bool false true)] (SS.mk [] [] true w0 b0)))) := by kernel_rfl
set_option maxRecDepth 100000 in
theorem r20m (A : Option Addr) (c : Nat) (A' : Option Addr) (c' i : Nat) (w : World) (g : Nat → Value) : xCode Tryz.prog noHk 1000 20 (loopOf Tryz.prog 20 3) (mkFrame ((L20 .normal).zip [.xs A 16 c, .int .i64 96 true, .xs A' 12 c', .int .i64 i false]) g 44 0) (fun e a s => .leaf e (sel L20 e a) s) (SS.mk [] [] true w []) =
  (.split (decide ((↑i : Int) < (96 : Int)))
   (.split (decide (IntKind.i64.wrap ((↑i : Int).tdiv (8 : Int)) < (↑(12 : Nat) : Int)))
    (.need ((0 : Int) ≤ IntKind.i64.wrap ((↑i : Int).tdiv (8 : Int)) ∧ IntKind.i64.wrap ((↑i : Int).tdiv (8 : Int)) < (↑(12 : Nat) : Int))
    (.need (A'.isSome = true)
    (.need (canRead w [] ((A'.getD default).add ((IntKind.i64.wrap ((↑i : Int).tdiv (8 : Int))).toNat * (1 : Nat))) [SV.int IntKind.u8 (intAt w (((A'.getD default).add ((IntKind.i64.wrap ((↑i : Int).tdiv (8 : Int))).toNat * (1 : Nat))).add (0 : Nat))) false])
    (.split (decide (IntKind.i64.wrap ((↑i : Int).tdiv (8 : Int)) ≥ (↑(16 : Nat) : Int)))
     (.leaf .ret [(.bool false true)] (SS.mk [] [] true w []))
     (.need ((0 : Int) ≤ IntKind.i64.wrap ((↑i : Int).tdiv (8 : Int)) ∧ IntKind.i64.wrap ((↑i : Int).tdiv (8 : Int)) < (↑(16 : Nat) : Int))
     (.need (A.isSome = true)
     (.need (canRead w [] ((A.getD default).add ((IntKind.i64.wrap ((↑i : Int).tdiv (8 : Int))).toNat * (1 : Nat))) [SV.int IntKind.u8 (intAt w (((A.getD default).add ((IntKind.i64.wrap ((↑i : Int).tdiv (8 : Int))).toNat * (1 : Nat))).add (0 : Nat))) false])
     (.need ((0 : Int) ≤ IntKind.i64.wrap ((7 : Int) - (↑i : Int).tmod (8 : Int)))
     (.split (IntKind.u8.wrap (↑(BitVec.ofInt (8 : Nat) ((IntKind.u8.wrap (↑(BitVec.ofInt (8 : Nat) (intAt w (((A.getD default).add ((IntKind.i64.wrap ((↑i : Int).tdiv (8 : Int))).toNat * (1 : Nat))).add (0 : Nat))) ^^^ BitVec.ofInt (8 : Nat) (intAt w (((A'.getD default).add ((IntKind.i64.wrap ((↑i : Int).tdiv (8 : Int))).toNat * (1 : Nat))).add (0 : Nat)))).toNat : Int)).fdiv ((2 : Int) ^ min (IntKind.i64.wrap ((7 : Int) - (↑i : Int).tmod (8 : Int))).toNat (8 : Nat))) &&& BitVec.ofInt (8 : Nat) (1 : Int)).toNat : Int) == (1 : Int))
      (.leaf .ret [(.bool false true)] (SS.mk [] [] true w []))
      (.leaf .normal [(.xs A 16 c), (.int .i64 96 true), (.xs A' 12 c'), (.int .i64 (IntKind.i64.wrap ((↑i : Int) + (1 : Int))) false)] (SS.mk [] [] true w [])))))))))))
    (.split (decide (IntKind.i64.wrap ((↑i : Int).tdiv (8 : Int)) ≥ (↑(16 : Nat) : Int)))
     (.leaf .ret [(.bool false true)] (SS.mk [] [] true w []))
     (.need ((0 : Int) ≤ IntKind.i64.wrap ((↑i : Int).tdiv (8 : Int)) ∧ IntKind.i64.wrap ((↑i : Int).tdiv (8 : Int)) < (↑(16 : Nat) : Int))
     (.need (A.isSome = true)
     (.need (canRead w [] ((A.getD default).add ((IntKind.i64.wrap ((↑i : Int).tdiv (8 : Int))).toNat * (1 : Nat))) [SV.int IntKind.u8 (intAt w (((A.getD default).add ((IntKind.i64.wrap ((↑i : Int).tdiv (8 : Int))).toNat * (1 : Nat))).add (0 : Nat))) false])
     (.need ((0 : Int) ≤ IntKind.i64.wrap ((7 : Int) - (↑i : Int).tmod (8 : Int)))
     (.split (IntKind.u8.wrap (↑(BitVec.ofInt (8 : Nat) ((IntKind.u8.wrap (↑(BitVec.ofInt (8 : Nat) (intAt w (((A.getD default).add ((IntKind.i64.wrap ((↑i : Int).tdiv (8 : Int))).toNat * (1 : Nat))).add (0 : Nat))) ^^^ BitVec.ofInt (8 : Nat) (0 : Int)).toNat : Int)).fdiv ((2 : Int) ^ min (IntKind.i64.wrap ((7 : Int) - (↑i : Int).tmod (8 : Int))).toNat (8 : Nat))) &&& BitVec.ofInt (8 : Nat) (1 : Int)).toNat : Int) == (1 : Int))
      (.leaf .ret [(.bool false true)] (SS.mk [] [] true w []))
      (.leaf .normal [(.xs A 16 c), (.int .i64 96 true), (.xs A' 12 c'), (.int .i64 (IntKind.i64.wrap ((↑i : Int) + (1 : Int))) false)] (SS.mk [] [] true w [])))))))))
   (.leaf (.exit 0) [] (SS.mk [] [] true w []))) := by kernel_rfl

def pre12 : List UInt8 := [0, 0, 0, 0, 0, 0, 0, 0, 0, 0, 255, 255]

/-- Sixteen bytes that map four. -/
def Mapped (l : List UInt8) : Prop := l.take 12 = pre12

instance (l : List UInt8) : Decidable (Mapped l) := inferInstanceAs (Decidable (l.take 12 = pre12))

theorem bitKey : ∀ (z : Fin 256) (k : Fin 8), (IntKind.u8.wrap (((BitVec.ofInt 8 ((IntKind.u8.wrap ((z.val : Nat) : Int)).fdiv ((2 : Int) ^ min k.val 8)) &&& BitVec.ofInt 8 (1 : Int)).toNat : Nat) : Int) == (1 : Int)) = z.val.testBit k.val := by
  decide +kernel

theorem ofInt8 (x : UInt8) : (BitVec.ofInt 8 (x.toNat : Int)).toNat = x.toNat := by
  have := x.toNat_lt
  simp

theorem bitTest (x y : UInt8) (k : Nat) (hk : k < 8) :
    (IntKind.u8.wrap (((BitVec.ofInt 8 ((IntKind.u8.wrap (((BitVec.ofInt 8 (x.toNat : Int) ^^^ BitVec.ofInt 8 (y.toNat : Int)).toNat : Nat) : Int)).fdiv ((2 : Int) ^ min k 8)) &&& BitVec.ofInt 8 (1 : Int)).toNat : Nat) : Int) == (1 : Int)) = (x.toNat.testBit k ^^ y.toNat.testBit k) := by
  have h := bitKey ⟨(BitVec.ofInt 8 (x.toNat : Int) ^^^ BitVec.ofInt 8 (y.toNat : Int)).toNat, BitVec.isLt _⟩ ⟨k, hk⟩
  rw [h]
  simp only [BitVec.toNat_xor, ofInt8, Nat.testBit_xor]

def bitN (l : List UInt8) (j : Nat) : Bool := (l.getD (j / 8) 0).toNat.testBit (7 - j % 8)

theorem bits_eq {l l' : List UInt8} (hl : l.length = 16) (hl' : l'.length = 12) : (∀ j, j < 96 → bitN l j = bitN l' j) ↔ l.take 12 = l' := by
  constructor
  · intro h
    refine List.ext_getElem (by simp; omega) fun i h1 h2 => ?_
    rw [List.getElem_take]
    have hi : i < 12 := by omega
    apply UInt8.toNat_inj.1
    apply Nat.eq_of_testBit_eq
    intro k
    by_cases hk : k < 8
    · have := h (i * 8 + (7 - k)) (by omega)
      unfold bitN at this
      rw [show (i * 8 + (7 - k)) / 8 = i by omega, show 7 - (i * 8 + (7 - k)) % 8 = k by omega] at this
      rw [List.getD_eq_getElem?_getD, List.getD_eq_getElem?_getD, List.getElem?_eq_getElem (by omega), List.getElem?_eq_getElem (by omega)] at this
      exact this
    · have e1 : l[i].toNat < 2 ^ k := Nat.lt_of_lt_of_le (UInt8.toNat_lt _) (Nat.pow_le_pow_right (by omega) (by omega))
      have e2 : l'[i].toNat < 2 ^ k := Nat.lt_of_lt_of_le (UInt8.toNat_lt _) (Nat.pow_le_pow_right (by omega) (by omega))
      rw [Nat.testBit_lt_two_pow e1, Nat.testBit_lt_two_pow e2]
  · intro h j hj
    unfold bitN
    have hi : j / 8 < 12 := by omega
    rw [← h]
    rw [List.getD_eq_getElem?_getD, List.getD_eq_getElem?_getD, List.getElem?_take, if_pos hi]

theorem netIn96_c (A : Option Addr) (c : Nat) (A' : Option Addr) (c' : Nat) (l l' : List UInt8) (B : Nat) (w : World) (h : Bts w B A 16 l) (h' : Bts w B A' 12 l') (hB : B ≤ w.heap.size) :
    Calls Tryz.prog 20 #[.slice A 16 c, .int .i64 96, .slice A' 12 c'] w (Ret (BoolQ fun b => b = true ↔ l.take 12 = l') w) := by
  have hl : l.length = 16 := h.1.symm
  have hl' : l'.length = 12 := h'.1.symm
  refine funF (hk := hk20) (n := 1000) (args := [.xs A 16 c, .int .i64 96 true, .xs A' 12 c']) ⟨trivial, trivial, trivial, trivial⟩ ?_
  refine holds_eq (t20m A c A' c' w) ?_
  refine loopG (Fine.start _ _) L20 (α := Nat) (fun i => [.xs A 16 c, .int .i64 96 true, .xs A' 12 c', .int .i64 i false]) (fun i => 96 - i) (fun _ i _ => i ≤ 96 ∧ ∀ j, j < i → bitN l j = bitN l' j)
    (fun w0 e lv w' => (e = .ret ∧ lv = [.bool false] ∧ ∃ j, j < 96 ∧ bitN l j ≠ bitN l' j) ∨ (e = .exit 0 ∧ lv = [] ∧ ∀ j, j < 96 → bitN l j = bitN l' j)) (fun _ => noHk) 1000 (by simp) (by simp [L20]) (by simp [L20]) (fun _ => ⟨trivial, trivial, trivial, trivial, trivial⟩) rfl rfl rfl
    (by simp) (by simp) (fun _ => trivial) (fun _ => ⟨trivial, trivial⟩) ?_ ?_ ?_
  · rintro w0 i w1 g hbw0 ⟨hi, hall⟩ hb0 hbw
    refine holds_eq (r20m A c A' c' i w1 g) (splitD (fun hlt => ?_) (fun hge => exitF (Fine.nil hb0) (by simp) fun β w' _ _ => .inr ⟨rfl, rfl, fun j hj => hall j (by omega)⟩))
    have hlt' : i < 96 := by omega
    have hB1 : B ≤ w1.heap.size := Nat.le_trans hB hbw.size
    have e8 : IntKind.i64.wrap ((i : Int).tdiv 8) = ((i / 8 : Nat) : Int) := by
      have : ((i : Int).tdiv 8) = ((i / 8 : Nat) : Int) := rfl
      rw [this, wrapi (by omega) (by omega)]
    have e7 : IntKind.i64.wrap (7 - (i : Int).tmod 8) = ((7 - i % 8 : Nat) : Int) := by
      have : ((i : Int).tmod 8) = ((i % 8 : Nat) : Int) := rfl
      rw [this, wrapi (by omega) (by omega)]
      omega
    obtain ⟨ad, x, rfl, had, hx, hR⟩ := (h.below (hbw.mono hB) (Nat.le_refl _)).get (i := i / 8) (by omega)
    obtain ⟨ad', x', rfl, had', hx', hR'⟩ := (h'.below (hbw.mono hB) (Nat.le_refl _)).get (i := i / 8) (by omega)
    rw [e8, e7]
    have f1 : intAt w1 ((((some ad).getD default).add (((i / 8 : Nat) : Int).toNat * 1)).add 0) = (x.toNat : Int) := by
      have : w1.cell? ((((some ad).getD default).add (((i / 8 : Nat) : Int).toNat * 1)).add 0) = some (.int .u8 (x.toNat : Int)) := hR
      simp only [intAt, this]
    have f2 : intAt w1 ((((some ad').getD default).add (((i / 8 : Nat) : Int).toNat * 1)).add 0) = (x'.toNat : Int) := by
      have : w1.cell? ((((some ad').getD default).add (((i / 8 : Nat) : Int).toNat * 1)).add 0) = some (.int .u8 (x'.toNat : Int)) := hR'
      simp only [intAt, this]
    rw [f1, f2]
    have g1 : canRead w1 [] (ad.add (i / 8 * 1)) [SV.int .u8 (x.toNat : Int) false] := canRead1 (by rw [add_block]; omega) (by simp) hR
    have g2 : canRead w1 [] (ad'.add (i / 8 * 1)) [SV.int .u8 (x'.toNat : Int) false] := canRead1 (by rw [add_block]; omega) (by simp) hR'
    have hb1 : bitN l i = x.toNat.testBit (7 - i % 8) := by
      unfold bitN
      rw [List.getD_eq_getElem?_getD, hx]; rfl
    have hb2 : bitN l' i = x'.toNat.testBit (7 - i % 8) := by
      unfold bitN
      rw [List.getD_eq_getElem?_getD, hx']; rfl
    have hbt := bitTest x x' (7 - i % 8) (by omega)
    rw [← hb1, ← hb2] at hbt
    refine splitD (fun _ => ?_) (fun hno => absurd (by omega) hno)
    refine needT (by omega) (needT rfl (needT g2 (splitD (fun hno => absurd hno (by omega)) (fun _ => needT (by omega) (needT rfl (needT g1 (needT (by omega) (splitT (fun hne => ?_) (fun heq => ?_)))))))))
    · refine exitF (Fine.nil hb0) (by simp) fun β w' _ _ => .inl ⟨rfl, rfl, i, hlt', ?_⟩
      have h1 := hbt.symm.trans hne
      intro he
      rw [he] at h1
      simp at h1
    · refine nextF (Fine.nil hb0) fun β w' _ _ => ⟨i + 1, by omega, ?_, by omega, fun j hj => ?_⟩
      · rw [next_i hlt' (by omega)]; rfl
      · by_cases hji : j < i
        · exact hall j hji
        · have : j = i := by omega
          subst this
          have h1 := hbt.symm.trans heq
          revert h1
          cases bitN l j <;> cases bitN l' j <;> simp
  · intro β w0 hst hb
    exact ⟨0, rfl, Nat.zero_le _, fun j hj => absurd hj (by omega)⟩
  · rintro β w0 hst hb e lv w' (⟨rfl, rfl, j, hj, hne⟩ | ⟨rfl, rfl, hall⟩) hb0 hb1
    · exact .inr ⟨(), rfl, rfl, fun g bs hbs => retF (Fine.mk' hb1 hbs) fun β w' _ _ => ⟨_, rfl, ⟨fun h => Bool.noConfusion h, fun h => absurd ((bits_eq hl hl').2 h j hj) hne⟩⟩⟩
    · exact .inl ⟨(), rfl, rfl, fun g bs hbs => retF (Fine.mk' hb1 hbs) fun β w' _ _ => ⟨_, rfl, ⟨fun _ => (bits_eq hl hl').1 hall, fun _ => rfl⟩⟩⟩

theorem netMapped_c (A : Option Addr) (n c : Nat) (l : List UInt8) (B : Nat) (w : World) (h : Bts w B A n l) (hB : B ≤ w.heap.size) :
    Calls Tryz.prog 14 #[.slice A n c] w (Ret (BoolQ fun b => b = true ↔ n = 16 ∧ Mapped l) w) := by
  refine funF (hk := hk14) (n := 500) (args := [.xs A n c]) ⟨trivial, trivial⟩ ?_
  refine holds_eq (t14 A n c w) (splitT (fun h16 => ?_) (fun hno => retF (Fine.start _ _) fun β w' _ _ => ⟨_, rfl, ⟨fun h => Bool.noConfusion h, fun h => ?_⟩⟩))
  · have hn : n = 16 := by have := eq_of_beq h16; omega
    subst hn
    refine boolCallR (a0 := []) (fun b => b = true ↔ l.take 12 = pre12) (Fine.start w _) rfl (fun β w6 hb6 hst6 o6 => ?_) (fun b w6 bs hbt hb6 hbs => retF (Fine.mk' hb6 hbs) fun β w' _ _ => ⟨_, rfl, ?_⟩)
    · have b0 := bts_of_cells (l := pre12) (hst6.at_ 0 _ rfl) rfl rfl (hst6.lt 0 (by simp [SS.n]))
      exact netIn96_c A c (some ⟨β 0, 0, none⟩) 12 l pre12 w6.heap.size w6 ((h.below (hb6.mono hB) (Nat.le_refl _)).mono (Nat.le_trans hB hb6.size)) b0 (Nat.le_refl _)
    · show b = true ↔ 16 = 16 ∧ Mapped l
      rw [hbt]
      exact ⟨fun h => ⟨rfl, h⟩, fun h => h.2⟩
  · have : n = 16 := h.1
    subst this
    simp at hno

theorem isZeros_c (A : Option Addr) (n c : Nat) (l : List UInt8) (B : Nat) (w : World) (h : Bts w B A n l) (hB : B ≤ w.heap.size) (hn : (n : Int) < 2 ^ 62) :
    Calls Tryz.prog 87 #[.slice A n c] w (Ret (BoolQ fun b => b = true ↔ ∀ x ∈ l, x = 0) w) := by
  have hl := h.1
  refine funF (hk := hk87) (n := 500) (args := [.xs A n c]) ⟨trivial, trivial⟩ ?_
  refine holds_eq (t87 A n c w) ?_
  refine loopG (Fine.start _ _) L87 (α := Nat) (fun i => [.xs A n c, .int .i64 i false]) (fun i => n - i) (fun _ i _ => i ≤ n ∧ ∀ x ∈ l.take i, x = 0)
    (fun w0 e lv w' => (e = .ret ∧ lv = [.bool false] ∧ ¬ ∀ x ∈ l, x = 0) ∨ (e = .exit 0 ∧ lv = [] ∧ ∀ x ∈ l, x = 0)) (fun _ => noHk) 1000 (by simp) (by simp [L87]) (by simp [L87]) (fun _ => ⟨trivial, trivial, trivial⟩) rfl rfl rfl
    (by simp) (by simp) (fun _ => ⟨trivial, trivial⟩) (fun _ => trivial) ?_ ?_ ?_
  · rintro w0 i w1 g hbw0 ⟨hi, hall⟩ hb0 hbw
    refine holds_eq (r87 A n c i w1 g) (splitD (fun hlt => ?_) (fun hge => exitF (Fine.nil hb0) (by simp) fun β w' _ _ => .inr ⟨rfl, rfl, by rw [List.take_of_length_le (by omega)] at hall; exact hall⟩))
    have hlt' : i < n := by omega
    have hB1 : B ≤ w1.heap.size := Nat.le_trans hB hbw.size
    obtain ⟨ad, x, rfl, had, hx, hR⟩ := (h.below (hbw.mono hB) (Nat.le_refl _)).get hlt'
    have f1 : intAt w1 ((((some ad).getD default).add ((i : Int).toNat * 1)).add 0) = (x.toNat : Int) := by
      have : w1.cell? ((((some ad).getD default).add ((i : Int).toNat * 1)).add 0) = some (.int .u8 (x.toNat : Int)) := hR
      simp only [intAt, this]
    rw [f1]
    refine needT (by omega) (needT rfl (needT (canRead1 (by show (ad.add (i * 1)).block < _; rw [add_block]; omega) (by simp) hR) (splitT (fun hne => exitF (Fine.nil hb0) (by simp) fun β w' _ _ => .inl ⟨rfl, rfl, fun hz => ?_⟩) (fun heq => nextF (Fine.nil hb0) fun β w' _ _ => ⟨i + 1, by omega, ?_, by omega, fun y hy => ?_⟩))))
    · have := hz x (List.mem_of_getElem? hx)
      subst this
      simp at hne
    · rw [next_i hlt' (by omega)]; rfl
    · rw [List.take_add_one, hx] at hy
      rcases List.mem_append.1 hy with hy | hy
      · exact hall y hy
      · simp at hy
        subst hy
        have h1 : (y.toNat : Int) = 0 := by simpa using heq
        apply UInt8.toNat_inj.1
        simpa using h1
  · intro β w0 hst hb
    exact ⟨0, rfl, Nat.zero_le _, by simp⟩
  · rintro β w0 hst hb e lv w' (⟨rfl, rfl, hne⟩ | ⟨rfl, rfl, hall⟩) hb0 hb1
    · exact .inl ⟨(), rfl, rfl, fun g bs hbs => retF (Fine.mk' hb1 hbs) fun β w' _ _ => ⟨_, rfl, ⟨fun h => Bool.noConfusion h, fun h => absurd h hne⟩⟩⟩
    · exact .inr ⟨(), rfl, rfl, fun g bs hbs => retF (Fine.mk' hb1 hbs) fun β w' _ _ => ⟨_, rfl, ⟨fun _ => hall, fun _ => rfl⟩⟩⟩

theorem bts_take {w : World} {B : Nat} {A : Option Addr} {n k : Nat} {l : List UInt8} (h : Bts w B A n l) (hk : k ≤ n) : Bts w B A k (l.take k) := by
  have hl := h.1
  refine ⟨by simp; omega, fun hk0 => ?_⟩
  obtain ⟨a, ha, hb, hx⟩ := h.2 (by omega)
  refine ⟨a, ha, hb, fun i x hi => hx i x ?_⟩
  rw [List.getElem?_take] at hi
  split at hi
  · exact hi
  · cases hi

theorem bts_drop {w : World} {B : Nat} {a : Addr} {n k : Nat} {l : List UInt8} (h : Bts w B (some a) n l) (hk : k ≤ n) : Bts w B (some (a.add k)) (n - k) (l.drop k) := by
  have hl := h.1
  refine ⟨by simp; omega, fun hk0 => ?_⟩
  obtain ⟨a', ha, hb, hx⟩ := h.2 (by omega)
  cases ha
  refine ⟨_, rfl, by rw [add_block]; exact hb, fun i x hi => ?_⟩
  rw [List.getElem?_drop] at hi
  have := hx (k + i) x hi
  rw [Rx.add_add, Nat.mul_one]
  simpa using this

theorem mapped_iff {l : List UInt8} (hl : l.length = 16) : Mapped l ↔ (∀ x ∈ l.take 10, x = 0) ∧ l[10]? = some 255 ∧ l[11]? = some 255 := by
  match l, hl with
  | [a0, a1, a2, a3, a4, a5, a6, a7, a8, a9, a10, a11, a12, a13, a14, a15], _ => simp [Mapped, pre12, and_assoc]

/-- To4, whatever the length. -/
theorem to4g_c (A : Option Addr) (n c : Nat) (l : List UInt8) (B : Nat) (w : World) (h : Bts w B A n l) (hc : n ≤ c) (hB : B ≤ w.heap.size) :
    Calls Tryz.prog 72 #[.slice A n c] w (Ret (fun v _ => (n = 4 ∧ v = .slice A 4 c) ∨ (n = 16 ∧ Mapped l ∧ ∃ a, A = some a ∧ v = .slice (some (a.add 12)) 4 (c - 12)) ∨ (n ≠ 4 ∧ (n = 16 → ¬ Mapped l) ∧ v = .slice none 0 0)) w) := by
  refine funF (hk := hk72) (n := 500) (args := [.xs A n c]) ⟨trivial, trivial⟩ ?_
  refine holds_eq (t72 A n c w) (splitT (fun h4 => ?_) (fun h4 => splitT (fun h16 => ?_) (fun h16 => ?_)))
  · have hn : n = 4 := by have := eq_of_beq h4; omega
    subst hn
    exact retF (Fine.start _ _) fun β w' _ _ => .inl ⟨rfl, rfl⟩
  · have hn : n = 16 := by have := eq_of_beq h16; omega
    subst hn
    have hl : l.length = 16 := h.1.symm
    obtain ⟨ad, _, rfl, had, _, _⟩ := h.get (i := 0) (by omega)
    rw [if_neg (by omega : ¬ c = 0), if_neg (by omega : ¬ c = 12)]
    refine needT (by omega) ?_
    have h0 : Bts w B (some (ad.add 0)) 10 (l.take 10) := bts_take h (by omega)
    refine bcall0 (fun b => b = true ↔ ∀ x ∈ l.take 10, x = 0) (fun _ => rfl) (fun β wc hb => isZeros_c _ 10 (c - 0) (l.take 10) B wc (h0.below (hb.mono hB) (Nat.le_refl _)) (Nat.le_trans hB hb.size) (by omega)) (fun b w1 hw1 hb => ?_)
    have h1 := h.below (hw1.mono hB) (Nat.le_refl _)
    have hB1 := Nat.le_trans hB hw1.size
    have nope : ∀ lit, ¬ Mapped l → (T.leaf .ret [(.one (.slice none 0 0) lit)] (SS.mk [] [] true w1 [])).holds (ctx Tryz.prog (retQ fun v w' => ((16 = 4 ∧ v = .slice (some ad) 4 c) ∨ (16 = 16 ∧ Mapped l ∧ ∃ a, some ad = some a ∧ v = .slice (some (a.add 12)) 4 (c - 12)) ∨ (16 ≠ 4 ∧ (16 = 16 → ¬ Mapped l) ∧ v = .slice none 0 0)) ∧ Below w.heap.size w w')) := fun lit hm => retF (Fine.nil hw1) fun β w' _ _ => .inr (.inr ⟨by omega, fun _ => hm, rfl⟩)
    obtain ⟨_, x10, ha10, _, hx10, hR10⟩ := h1.get (i := 10) (by omega)
    obtain ⟨_, x11, ha11, _, hx11, hR11⟩ := h1.get (i := 11) (by omega)
    cases ha10
    cases ha11
    rw [Nat.mul_one] at hR10 hR11
    have f10 : intAt w1 ((((some ad : Option Addr).getD default).add 10).add 0) = (x10.toNat : Int) := by
      have : w1.cell? ((ad.add 10).add 0) = some (.int .u8 (x10.toNat : Int)) := hR10
      show intAt w1 ((ad.add 10).add 0) = _
      simp only [intAt, this]
    have f11 : intAt w1 ((((some ad : Option Addr).getD default).add 11).add 0) = (x11.toNat : Int) := by
      have : w1.cell? ((ad.add 11).add 0) = some (.int .u8 (x11.toNat : Int)) := hR11
      show intAt w1 ((ad.add 11).add 0) = _
      simp only [intAt, this]
    have g10 : canRead w1 [] (((some ad : Option Addr).getD default).add 10) [SV.int .u8 (x10.toNat : Int) false] := canRead1 (by show (ad.add 10).block < _; rw [add_block]; omega) (by simp) hR10
    have g11 : canRead w1 [] (((some ad : Option Addr).getD default).add 11) [SV.int .u8 (x11.toNat : Int) false] := canRead1 (by show (ad.add 11).block < _; rw [add_block]; omega) (by simp) hR11
    rw [f10, f11]
    have hm := mapped_iff hl
    rw [hx10, hx11] at hm
    have u255 : ∀ x : UInt8, ((x.toNat : Int) == 255) = true ↔ x = 255 := fun x => by
      rw [beq_iff_eq]
      constructor
      · intro h
        apply UInt8.toNat_inj.1
        have : x.toNat = 255 := by omega
        rw [this]; rfl
      · rintro rfl; rfl
    refine splitT (fun hbt => ?_) (fun hbf => nope _ fun h => ?_)
    rotate_left
    · rw [hb.2 (hm.1 h).1] at hbf
      cases hbf
    refine needT (by omega) (needT rfl (needT g10 (splitT (fun e10 => needT (by omega) (needT rfl (needT g11 (splitT (fun e11 => needT (by omega) ?_) (fun n11 => nope _ fun h => ?_))))) (fun n10 => nope _ fun h => ?_))))
    · refine retF (Fine.nil hw1) fun β w' _ _ => .inr (.inl ⟨rfl, hm.2 ⟨hb.1 hbt, ?_, ?_⟩, ad, rfl, rfl⟩)
      · rw [(u255 _).1 e10]
      · rw [(u255 _).1 e11]
    · have h2 := (hm.1 h).2.2
      simp only [Option.some.injEq] at h2
      rw [(u255 _).2 h2] at n11
      cases n11
    · have h2 := (hm.1 h).2.1
      simp only [Option.some.injEq] at h2
      rw [(u255 _).2 h2] at n10
      cases n10
  · exact retF (Fine.start _ _) fun β w' _ _ => .inr (.inr ⟨by have := beq_eq_false_iff_ne.1 h4; omega, fun he => absurd he (by have := beq_eq_false_iff_ne.1 h16; omega), rfl⟩)

end Go.Proofs.YtdmnoagahjbjhaaGreatDoor
end

section
/- ZZIPString of four bytes, or of sixteen that map four. -/
set_option linter.unusedVariables false
set_option linter.unusedSimpArgs false
set_option maxRecDepth 20000
namespace Go.Proofs.YtdmnoagahjbjhaaGreatDoor
open Go Go.Rx Go.RowKit

theorem dec_len (n : Nat) : (dec n).length ≤ 3 := by
  unfold dec
  split
  · simp
  · split <;> simp

def text4 (a b c d : UInt8) : List UInt8 := dec a.toNat ++ [46] ++ dec b.toNat ++ [46] ++ dec c.toNat ++ [46] ++ dec d.toNat

theorem bapp (a b : List UInt8) : ((⟨a.toArray⟩ : ByteArray) ++ ⟨b.toArray⟩) = ⟨(a ++ b).toArray⟩ := by
  apply ByteArray.ext
  rw [ByteArray.data_append]
  simp

theorem bsize (a : List UInt8) : (⟨a.toArray⟩ : ByteArray).size = a.length := by simp [ByteArray.size]

theorem itoaCall {Q : SE → List Value → World → Prop} {s : SS} {w : World} {x : UInt8} {z : Int} {lit : Bool} {k : ByteArray → World → List Nat → T} (hf : Fine w s) (ht : Tens w) (hz : z = (x.toNat : Int))
    (hk : ∀ w' bs, Below w.heap.size w w' → (∀ b ∈ bs, w.heap.size ≤ b) → (k ⟨(dec x.toNat).toArray⟩ w' bs).holds (ctx Tryz.prog Q)) :
    (T.call 92 [.int .i64 (IntKind.i64.wrap z) lit] s ByteArray (fun y => (.str y false, s.objs)) k).holds (ctx Tryz.prog Q) := by
  subst hz
  have hx := x.toNat_lt
  rw [wrapi (by omega) (by omega)]
  refine callF (Γ := ctx Tryz.prog Q) (R := fun y _ _ => y = ⟨(dec x.toNat).toArray⟩) hf (fun y => ⟨rfl, trivial⟩) (fun β w0 hst ho hb => ?_) (fun y w0 w' bs _ hr _ hb hbs => by subst hr; exact hk w' bs hb hbs)
  refine (itoa_c x.toNat (by omega) w0 (ht.below hb ht.lt)).mono ?_
  rintro e w' ⟨v, rfl, rfl, hb'⟩
  exact ⟨_, rfl, hb', rfl⟩

theorem byteRead {w w1 : World} {bs : List Nat} {a : Addr} {n B j : Nat} {l : List UInt8} {x : UInt8} (h : Bts w B (some a) n l) (hB : B ≤ w.heap.size) (hw : Below w.heap.size w w1) (hbs : ∀ b ∈ bs, w.heap.size ≤ b) (hx : l[j]? = some x) :
    canRead w1 bs (a.add j) [SV.int IntKind.u8 (intAt w1 ((a.add j).add 0)) false] ∧ intAt w1 ((a.add j).add 0) = (x.toNat : Int) := by
  have hl := h.1
  have hj : j < n := by
    have := (List.getElem?_eq_some_iff.1 hx).1
    omega
  obtain ⟨a', x', ha, hb, hx', hR⟩ := (h.below (hw.mono hB) (Nat.le_refl _)).get hj
  cases ha
  rw [hx] at hx'
  cases hx'
  rw [Nat.mul_one] at hR
  have e : intAt w1 ((a.add j).add 0) = (x.toNat : Int) := by
    have : w1.cell? ((a.add j).add 0) = some (.int .u8 (x.toNat : Int)) := hR
    simp only [intAt, this]
  refine ⟨?_, e⟩
  rw [e]
  refine canRead1 (by rw [add_block]; exact Nat.lt_of_lt_of_le hb (Nat.le_trans hB hw.size)) (fun hm => ?_) hR
  rw [add_block] at hm
  have := hbs _ hm
  omega

theorem ipText4_c (A : Option Addr) (n c : Nat) (l : List UInt8) (p0 p1 p2 p3 : UInt8) (B : Nat) (w : World) (h : Bts w B A n l) (hc : n ≤ c) (hB : B ≤ w.heap.size) (ht : Tens w) (hcase : (n = 4 ∧ l = [p0, p1, p2, p3]) ∨ (n = 16 ∧ Mapped l ∧ l.drop 12 = [p0, p1, p2, p3])) :
    Calls Tryz.prog 74 #[.slice A n c] w (Ret (fun v _ => v = .string ⟨(text4 p0 p1 p2 p3).toArray⟩) w) := by
  refine funF (hk := hk74 ⟨A, n, c⟩) (n := 500) (args := [.xs A n c]) ⟨trivial, trivial⟩ ?_
  refine holds_eq (t74 ⟨A, n, c⟩ w) ?_
  have hcall : ∀ β wc, Below w.heap.size w wc → Calls Tryz.prog 72 (denL β [.xs A n c]).toArray wc fun e w' => ∃ x : UV, e = .returned (SV.den β (.xs x.A x.k x.c)) ∧ Below wc.heap.size wc w' ∧ (∃ a, x.A = some a ∧ x.k = 4 ∧ Bts w B (some a) 4 [p0, p1, p2, p3]) := fun β wc hb => by
    refine (to4g_c A n c l B wc (h.below (hb.mono hB) (Nat.le_refl _)) hc (Nat.le_trans hB hb.size)).mono ?_
    rintro e w' ⟨v, rfl, hv, hb'⟩
    rcases hcase with ⟨rfl, rfl⟩ | ⟨rfl, hm, hd⟩
    · obtain ⟨a, _, rfl, _⟩ := h.get (i := 0) (by omega)
      rcases hv with ⟨_, rfl⟩ | ⟨h1, _⟩ | ⟨h1, _⟩
      · exact ⟨⟨some a, 4, c⟩, rfl, hb', a, rfl, rfl, h⟩
      · omega
      · omega
    · rcases hv with ⟨h1, _⟩ | ⟨_, _, a, rfl, rfl⟩ | ⟨_, h2, _⟩
      · omega
      · have := bts_drop h (k := 12) (by omega)
        rw [hd] at this
        exact ⟨⟨some (a.add 12), 4, c - 12⟩, rfl, hb', _, rfl, rfl, this⟩
      · exact absurd hm (h2 rfl)
  have hn416 : n = 4 ∨ n = 16 := by rcases hcase with ⟨h, _⟩ | ⟨h, _⟩ <;> omega
  have l0 := dec_len p0.toNat
  have l1 := dec_len p1.toNat
  have l2 := dec_len p2.toNat
  have l3 := dec_len p3.toNat
  refine splitT (fun h0 => by have := eq_of_beq h0; dsimp only at this; omega) (fun _ => splitT (fun h4 => splitT (fun h16 => by rcases hn416 with rfl | rfl <;> simp at h4 h16) (fun _ => ?_)) (fun _ => ?_))
  all_goals
    refine callF (R := fun (x : UV) _ _ => ∃ a, x.A = some a ∧ x.k = 4 ∧ Bts w B (some a) 4 [p0, p1, p2, p3]) (Fine.start w _) (fun x => ⟨rfl, trivial⟩) (fun β wc hst o hb => hcall β wc hb) ?_
    rintro ⟨A4, k4, c4⟩ wc w0 b0 hwc ⟨a, ha, hk4, h4⟩ hb1 hw0 hbs0
    dsimp only at ha hk4
    subst ha hk4
    have G0 := fun {w1 : World} {bs : List Nat} (hw : Below w.heap.size w w1) (hbs : ∀ b ∈ bs, w.heap.size ≤ b) => byteRead (j := 0) h4 hB hw hbs rfl
    have G1 := fun {w1 : World} {bs : List Nat} (hw : Below w.heap.size w w1) (hbs : ∀ b ∈ bs, w.heap.size ≤ b) => byteRead (j := 1) h4 hB hw hbs rfl
    have G2 := fun {w1 : World} {bs : List Nat} (hw : Below w.heap.size w w1) (hbs : ∀ b ∈ bs, w.heap.size ≤ b) => byteRead (j := 2) h4 hB hw hbs rfl
    have G3 := fun {w1 : World} {bs : List Nat} (hw : Below w.heap.size w w1) (hbs : ∀ b ∈ bs, w.heap.size ≤ b) => byteRead (j := 3) h4 hB hw hbs rfl
    refine splitT (fun _ => ?_) (fun h => by simp at h)
    refine needT (by dsimp only; omega) (needT rfl (needT (G0 hw0 hbs0).1 (needT (by dsimp only; omega) (needT rfl (needT (G1 hw0 hbs0).1 ?_)))))
    refine needT (by dsimp only; omega) (needT rfl (needT (G2 hw0 hbs0).1 (needT (by dsimp only; omega) (needT rfl (needT (G3 hw0 hbs0).1 ?_)))))
    refine itoaCall (Fine.mk' hw0 hbs0) ht (G0 hw0 hbs0).2 fun w1 b1 hw1 hbs1 => ?_
    refine needT (G3 hw1 hbs1).1 (needT ((G3 hw1 hbs1).2.trans (G3 hw0 hbs0).2.symm) ?_)
    refine needT (G2 hw1 hbs1).1 (needT ((G2 hw1 hbs1).2.trans (G2 hw0 hbs0).2.symm) ?_)
    refine needT (G1 hw1 hbs1).1 (needT ((G1 hw1 hbs1).2.trans (G1 hw0 hbs0).2.symm) ?_)
    refine needT (by rw [bsize, i64max]; omega) ?_
    refine itoaCall (Fine.mk' hw1 hbs1) ht (G1 hw0 hbs0).2 fun w2 b2 hw2 hbs2 => ?_
    refine needT (G3 hw2 hbs2).1 (needT ((G3 hw2 hbs2).2.trans (G3 hw0 hbs0).2.symm) ?_)
    refine needT (G2 hw2 hbs2).1 (needT ((G2 hw2 hbs2).2.trans (G2 hw0 hbs0).2.symm) ?_)
    refine needT (by simp only [bapp, bsize, List.length_append, List.length_cons, List.length_nil, i64max]; omega) ?_
    refine needT (by simp only [bapp, bsize, List.length_append, List.length_cons, List.length_nil, i64max]; omega) ?_
    refine itoaCall (Fine.mk' hw2 hbs2) ht (G2 hw0 hbs0).2 fun w3 b3 hw3 hbs3 => ?_
    refine needT (G3 hw3 hbs3).1 (needT ((G3 hw3 hbs3).2.trans (G3 hw0 hbs0).2.symm) ?_)
    refine needT (by simp only [bapp, bsize, List.length_append, List.length_cons, List.length_nil, i64max]; omega) ?_
    refine needT (by simp only [bapp, bsize, List.length_append, List.length_cons, List.length_nil, i64max]; omega) ?_
    refine itoaCall (Fine.mk' hw3 hbs3) ht (G3 hw0 hbs0).2 fun w4 b4 hw4 hbs4 => ?_
    refine needT (by simp only [bapp, bsize, List.length_append, List.length_cons, List.length_nil, i64max]; omega) ?_
    exact retF (Fine.mk' hw4 hbs4) fun β w' _ _ => by simp only [bapp, text4]; rfl

end Go.Proofs.YtdmnoagahjbjhaaGreatDoor
end

section
/- ZZIPString of sixteen bytes. -/
set_option linter.unusedVariables false
set_option linter.unusedSimpArgs false
set_option maxRecDepth 20000
namespace Go.Proofs.YtdmnoagahjbjhaaGreatDoor
open Go Go.Rx Go.RowKit

def grpAt (l : List UInt8) (j : Nat) : Nat := (l.getD (2 * j) 0).toNat * 256 + (l.getD (2 * j + 1) 0).toNat

theorem grpAt_lt (l : List UInt8) (j : Nat) : grpAt l j < 65536 := by
  have h1 := (l.getD (2 * j) 0).toNat_lt
  have h2 := (l.getD (2 * j + 1) 0).toNat_lt
  unfold grpAt
  omega

def Good (l : List UInt8) (f t : Nat) : Prop := (f = 255 ∧ t = 255) ∨ (f + 2 ≤ t ∧ t ≤ 8 ∧ ∀ j, f ≤ j → j < t → grpAt l j = 0)

def jn : List Nat → List UInt8
  | [] => []
  | [g] => hexText g
  | g :: r => hexText g ++ [58] ++ jn r

theorem jn_snoc (a : List Nat) (g : Nat) : jn (a ++ [g]) = jn a ++ (if a = [] then [] else [58]) ++ hexText g := by
  induction a with
  | nil => simp [jn]
  | cons x r ih =>
    cases r with
    | nil => simp [jn]
    | cons y r' =>
      have e1 : jn (x :: y :: r' ++ [g]) = hexText x ++ [58] ++ jn (y :: r' ++ [g]) := by simp [jn]
      have e2 : jn (x :: y :: r') = hexText x ++ [58] ++ jn (y :: r') := by simp [jn]
      rw [e1, e2, ih]
      simp

def seg (l : List UInt8) (a b : Nat) : List Nat := (List.range' a (b - a)).map (grpAt l)

theorem seg_snoc (l : List UInt8) {a b : Nat} (h : a ≤ b) : seg l a (b + 1) = seg l a b ++ [grpAt l b] := by
  have e : b + 1 - a = (b - a) + 1 := by omega
  have e2 : a + (b - a) = b := by omega
  unfold seg
  rw [e, List.range'_1_concat, List.map_append, e2]
  rfl

theorem seg_nil (l : List UInt8) (a : Nat) : seg l a a = [] := by simp [seg]

theorem seg_ne (l : List UInt8) {a b : Nat} (h : a < b) : seg l a b ≠ [] := by
  obtain ⟨k, rfl⟩ : ∃ k, b = k + 1 := ⟨b - 1, by omega⟩
  rw [seg_snoc l (by omega)]
  simp

def txt6 (l : List UInt8) (f t : Nat) : List UInt8 := if f = 255 then jn (seg l 0 8) else jn (seg l 0 f) ++ [58, 58] ++ jn (seg l t 8)

theorem or256 {x y : Nat} (hx : x < 256) (hy : y < 256) : IntKind.i64.wrap (((BitVec.ofInt 64 (IntKind.i64.wrap (IntKind.i64.wrap (x : Int) * (2 : Int) ^ 8)) ||| BitVec.ofInt 64 (IntKind.i64.wrap (y : Int))).toNat : Nat) : Int) = ((x * 256 + y : Nat) : Int) := by
  have e0 : IntKind.i64.wrap (x : Int) = x := wrapi (by omega) (by omega)
  have e1 : IntKind.i64.wrap (y : Int) = y := wrapi (by omega) (by omega)
  have e2 : (x : Int) * (2 : Int) ^ 8 = ((x * 256 : Nat) : Int) := by
    rw [Int.natCast_mul]; rfl
  have e3 : IntKind.i64.wrap ((x * 256 : Nat) : Int) = ((x * 256 : Nat) : Int) := wrapi (by omega) (by omega)
  rw [e0, e1, e2, e3, BitVec.toNat_or]
  have f1 : ∀ m : Nat, m < 2 ^ 62 → (BitVec.ofInt 64 (m : Int)).toNat = m := fun m hm => by
    simp
    omega
  rw [f1 _ (by omega), f1 _ (by omega)]
  have e4 : x * 256 ||| y = x * 256 + y := by
    have := Nat.shiftLeft_add_eq_or_of_lt (show y < 2 ^ 8 by omega) x
    rw [Nat.shiftLeft_eq] at this
    exact this.symm
  rw [e4]
  exact wrapi (by omega) (by omega)

theorem byteAt {w w1 : World} {bs : List Nat} {A : Option Addr} {n B j : Nat} {l : List UInt8} (h : Bts w B A n l) (hB : B ≤ w.heap.size) (hw : Below w.heap.size w w1) (hbs : ∀ b ∈ bs, w.heap.size ≤ b) {z : Int} (hz : z = (j : Int)) (hj : j < n) :
    A.isSome = true ∧ canRead w1 bs ((A.getD default).add (z.toNat * 1)) [SV.int IntKind.u8 (intAt w1 (((A.getD default).add (z.toNat * 1)).add 0)) false] ∧ intAt w1 (((A.getD default).add (z.toNat * 1)).add 0) = ((l.getD j 0).toNat : Int) := by
  subst hz
  obtain ⟨a, x, rfl, hb, hx, hR⟩ := (h.below (hw.mono hB) (Nat.le_refl _)).get hj
  have e1 : (((some a).getD default).add ((j : Int).toNat * 1)) = a.add j := by simp
  rw [e1]
  have := byteRead h hB hw hbs hx
  have e2 : l.getD j 0 = x := by rw [List.getD_eq_getElem?_getD, hx]; rfl
  rw [e2]
  exact ⟨rfl, this.1, this.2⟩

theorem grpRead {w w1 : World} {bs : List Nat} {A : Option Addr} {B j : Nat} {l : List UInt8} (h : Bts w B A 16 l) (hB : B ≤ w.heap.size) (hw : Below w.heap.size w w1) (hbs : ∀ b ∈ bs, w.heap.size ≤ b) (hj : j < 8) :
    (0 ≤ IntKind.i64.wrap ((2 : Int) * (j : Int)) ∧ IntKind.i64.wrap ((2 : Int) * (j : Int)) < ((16 : Nat) : Int)) ∧ A.isSome = true ∧
    canRead w1 bs ((A.getD default).add ((IntKind.i64.wrap ((2 : Int) * (j : Int))).toNat * 1)) [SV.int IntKind.u8 (intAt w1 (((A.getD default).add ((IntKind.i64.wrap ((2 : Int) * (j : Int))).toNat * 1)).add 0)) false] ∧
    (0 ≤ IntKind.i64.wrap (IntKind.i64.wrap ((2 : Int) * (j : Int)) + (1 : Int)) ∧ IntKind.i64.wrap (IntKind.i64.wrap ((2 : Int) * (j : Int)) + (1 : Int)) < ((16 : Nat) : Int)) ∧
    canRead w1 bs ((A.getD default).add ((IntKind.i64.wrap (IntKind.i64.wrap ((2 : Int) * (j : Int)) + (1 : Int))).toNat * 1)) [SV.int IntKind.u8 (intAt w1 (((A.getD default).add ((IntKind.i64.wrap (IntKind.i64.wrap ((2 : Int) * (j : Int)) + (1 : Int))).toNat * 1)).add 0)) false] ∧
    IntKind.i64.wrap (((BitVec.ofInt 64 (IntKind.i64.wrap (IntKind.i64.wrap (intAt w1 (((A.getD default).add ((IntKind.i64.wrap ((2 : Int) * (j : Int))).toNat * 1)).add 0)) * (2 : Int) ^ 8)) |||
      BitVec.ofInt 64 (IntKind.i64.wrap (intAt w1 (((A.getD default).add ((IntKind.i64.wrap (IntKind.i64.wrap ((2 : Int) * (j : Int)) + (1 : Int))).toNat * 1)).add 0)))).toNat : Nat) : Int) = ((grpAt l j : Nat) : Int) := by
  have e1 : IntKind.i64.wrap ((2 : Int) * (j : Int)) = ((2 * j : Nat) : Int) := by rw [wrapi (by omega) (by omega)]; omega
  have e2 : IntKind.i64.wrap (IntKind.i64.wrap ((2 : Int) * (j : Int)) + (1 : Int)) = ((2 * j + 1 : Nat) : Int) := by rw [e1, wrapi (by omega) (by omega)]; omega
  obtain ⟨a1, a2, a3⟩ := byteAt h hB hw hbs e1 (by omega)
  obtain ⟨b1, b2, b3⟩ := byteAt h hB hw hbs e2 (by omega)
  refine ⟨by omega, a1, a2, by omega, b2, ?_⟩
  rw [a3, b3]
  exact or256 (UInt8.toNat_lt _) (UInt8.toNat_lt _)

theorem hexCall {Q : SE → List Value → World → Prop} {s : SS} {w : World} {bs : List Nat} {n0 : Nat} {β0 : Nat → Nat} {g : Nat} {z : Int} {lit : Bool} {k : ByteArray → World → List Nat → T} (hf : KFine bs w s) (hz : z = (g : Int)) (hg : g < 65536)
    (hk : ∀ w' bs', Keep bs w w' → (∀ b ∈ bs', b ∈ bs ∨ w.heap.size ≤ b) → (k ⟨(hexText g).toArray⟩ w' bs').holds { P := Tryz.prog, β0 := β0, n0 := n0, Q := Q }) :
    (T.call 91 [.int .i64 z lit] s ByteArray (fun y => (.str y false, s.objs)) k).holds { P := Tryz.prog, β0 := β0, n0 := n0, Q := Q } := by
  subst hz
  refine callK (R := fun y _ _ => y = ⟨(hexText g).toArray⟩) hf (fun y => ⟨rfl, trivial⟩) (fun β w0 hst ho hb => ?_) (fun y w0 w' bs' _ hr _ hb hbs => by subst hr; exact hk w' bs' hb hbs)
  refine (zzHex_c g (by omega) w0).mono ?_
  rintro e w' ⟨v, rfl, rfl, hb'⟩
  exact ⟨_, rfl, hb', rfl⟩

def sInv (l : List UInt8) (f t : Nat) (z : IT) : Prop :=
  z.f = f ∧ z.t = t ∧ z.i ≤ 8 ∧ z.s.size ≤ 70000 * z.i ∧ (((f = 255 ∨ z.i ≤ f) ∧ z.s = ⟨(jn (seg l 0 z.i)).toArray⟩) ∨ (f ≠ 255 ∧ t < z.i ∧ z.s = ⟨(jn (seg l 0 f) ++ [58, 58] ++ jn (seg l t z.i)).toArray⟩))

theorem ipText6_c (A : Option Addr) (c : Nat) (l : List UInt8) (B : Nat) (w : World) (h : Bts w B A 16 l) (hc : 16 ≤ c) (hB : B ≤ w.heap.size) (hm : ¬ Mapped l) :
    Calls Tryz.prog 74 #[.slice A 16 c] w (Ret (fun v _ => ∃ f t, Good l f t ∧ v = .string ⟨(txt6 l f t).toArray⟩) w) := by
  refine funF (hk := hk74 ⟨A, 16, c⟩) (n := 500) (args := [.xs A 16 c]) ⟨trivial, trivial⟩ ?_
  refine holds_eq (t74 ⟨A, 16, c⟩ w) ?_
  refine splitT (fun h0 => by simp at h0) (fun _ => splitT (fun h4 => splitT (fun h16 => by simp at h16) (fun _ => ?_)) (fun h4 => by simp at h4))
  refine callF (R := fun (x : UV) _ _ => x.A = none) (Fine.start w _) (fun x => ⟨rfl, trivial⟩) (fun β wc hst o hb => ?_) ?_
  · refine (to4g_c A 16 c l B wc (h.below (hb.mono hB) (Nat.le_refl _)) hc (Nat.le_trans hB hb.size)).mono ?_
    rintro e w' ⟨v, rfl, hv, hb'⟩
    rcases hv with ⟨h1, _⟩ | ⟨_, h2, _⟩ | ⟨_, _, rfl⟩
    · omega
    · exact absurd h2 hm
    · exact ⟨⟨none, 0, 0⟩, rfl, hb', rfl⟩
  rintro ⟨A4, k4, c4⟩ wc w0 b0 hwc ha hb1 hw0 hbs0
  dsimp only at ha
  subst ha
  refine splitT (fun h => by simp at h) (fun _ => ?_)
  have hok : ∀ m, 0 < m → grp.ok m := fun m hm => ⟨trivial, hm, trivial⟩
  have hobjs : ∀ o ∈ ipObjs ⟨A, 16, c⟩, o.ok 1 := by
    intro o ho
    simp only [ipObjs, List.mem_singleton] at ho
    subst ho
    exact ⟨trivial, trivial⟩
  refine loopT (w := w) (Fine.mk' hw0 hbs0) rfl 1 rfl L74o (fun z : IZ => [grp, .int .i64 z.f false, .int .i64 z.t false, .int .i64 z.i false]) (fun _ => ipObjs ⟨A, 16, c⟩) (fun z => 8 - z.i)
    (fun _ z _ => z.i ≤ 8 ∧ Good l z.f z.t) (fun _ p _ => Good l p.1 p.2) (fun _ _ _ => False) (fun z => hk74o ⟨A, 16, c⟩ z) 1000
    (by simp) (by simp [L74o]) (by simp [L74o]) (fun _ => ⟨hok 1 (by omega), trivial, trivial, trivial, trivial⟩) (fun _ => ⟨rfl, hobjs⟩) rfl rfl (by simp) (by simp) (fun _ => ⟨⟨hok 1 (by omega), trivial, trivial, trivial⟩, rfl, hobjs⟩) (fun _ => ⟨trivial, rfl, hobjs⟩) ?_ ?_ ?_ ?_
  · rintro β w1 z w2 g hb1 ⟨hi, hgood⟩ hkp hge
    have hbl : ∀ b ∈ blocks β 1, w.heap.size ≤ b := fun b hb => by
      simp [blocks] at hb
      subst hb
      exact hge 0 (by omega)
    have hw2 : Below w.heap.size w w2 := hkp.below hb1 (Nat.le_refl _) hbl
    refine holds_eq (r74o ⟨A, 16, c⟩ z w2 (blocks β 1) g) (splitD (fun hlt => ?_) (fun hge' => ?_))
    · have hlt' : z.i < 8 := by omega
      refine loopTK (w := w2) (bs := blocks β 1) ⟨rfl, Keep.refl _ _, fun b hb => .inl hb⟩ rfl 1 rfl L74i (fun j : Nat => [grp, .int .i64 z.f false, .int .i64 z.t false, .int .i64 z.i false, .int .i64 j false]) (fun _ => ipObjs ⟨A, 16, c⟩) (fun j => 8 - j)
        (fun _ j _ => z.i ≤ j ∧ j ≤ 8 ∧ ∀ k, z.i ≤ k → k < j → grpAt l k = 0) (fun _ j _ => z.i ≤ j ∧ j ≤ 8 ∧ ∀ k, z.i ≤ k → k < j → grpAt l k = 0) (fun _ _ _ => False) (fun _ => noHk) 1000
        (by simp) (by simp [L74i]) (by simp [L74i]) (fun _ => ⟨hok 1 (by omega), trivial, trivial, trivial, trivial, trivial⟩) (fun _ => ⟨rfl, hobjs⟩) rfl rfl (by simp) (by simp) (fun _ => ⟨⟨hok 1 (by omega), trivial, trivial, trivial, trivial, trivial⟩, rfl, hobjs⟩) (fun _ => ⟨trivial, rfl, hobjs⟩) ?_ ?_ ?_ ?_
      · rintro β2 w3 j w4 g2 hk23 ⟨hij, hj8, hz⟩ hk34 hk24 hblk
        have hbl2 : ∀ b ∈ blocks β2 1, w.heap.size ≤ b := fun b hb => by
          have := hw2.size
          rcases (hblk b hb).1 with h | h
          · exact hbl b h
          · omega
        have hw4 : Below w.heap.size w w4 := hk24.below hw2 (Nat.le_refl _) hbl
        refine holds_eq (r74i ⟨A, 16, c⟩ ⟨z.f, z.t, z.i, j⟩ w4 (blocks β2 1) g2) (splitD (fun hj => ?_) (fun hj => ?_))
        · have hj' : j < 8 := by dsimp only at hj; omega
          obtain ⟨n1, n2, n3, n4, n5, n6⟩ := grpRead h hB hw4 hbl2 hj'
          refine needT n1 (needT n2 (needT n3 (needT n4 (needT n2 (needT n5 ?_)))))
          dsimp only
          rw [n6]
          refine splitT (fun he => ?_) (fun he => ?_)
          · refine leafK ⟨rfl, hk34, fun b hb => .inl hb⟩ fun β' w' hst hk' => ⟨j + 1, by show 8 - (j + 1) < 8 - j; omega, ?_, hst.objsAt rfl hobjs, ⟨by omega, by omega, fun k h1 h2 => ?_⟩, hk'⟩
            · rw [wrapi (by omega) (by omega)]
              have := hst.base 0 (by show 0 < 1; omega)
              simp only [grp, denL, SV.den]
              rw [this]
              rfl
            · rcases Nat.lt_or_ge k j with h3 | h3
              · exact hz k h1 h3
              · have : k = j := by omega
                subst this
                have : ((grpAt l k : Nat) : Int) = 0 := by simpa using he
                omega
          · refine leafK ⟨rfl, hk34, fun b hb => .inl hb⟩ fun β' w' hst hk' => ⟨.inl ⟨j, rfl, ?_, hst.objsAt rfl hobjs, hij, hj8, hz⟩, hk'⟩
            have := hst.base 0 (by show 0 < 1; omega)
            simp only [grp, denL, SV.den]
            rw [this]
        · refine leafK ⟨rfl, hk34, fun b hb => .inl hb⟩ fun β' w' hst hk' => ⟨.inl ⟨j, rfl, ?_, hst.objsAt rfl hobjs, hij, hj8, hz⟩, hk'⟩
          have := hst.base 0 (by show 0 < 1; omega)
          simp only [grp, denL, SV.den]
          rw [this]
      · intro β2 w3 hst hk23
        refine ⟨z.i, rfl, fun i o hi => hst.at_ i o hi, Nat.le_refl _, hi, fun k h1 h2 => by omega⟩
      · rintro w3 j w4 ⟨hij, hj8, hz⟩ hk23 hk24 g2 bs' hbs'
        dsimp only
        have e1 : IntKind.i64.wrap ((j : Int) - (z.i : Int)) = (j : Int) - z.i := wrapi (by omega) (by omega)
        have hzb : (z.f : Int) ≤ (z.t : Int) ∧ (z.t : Int) ≤ 255 := by
          rcases hgood with ⟨h1, h2⟩ | ⟨h1, h2, _⟩ <;> omega
        have e2 : IntKind.i64.wrap ((z.t : Int) - (z.f : Int)) = (z.t : Int) - z.f := wrapi (by omega) (by omega)
        have e3 : IntKind.i64.wrap ((z.i : Int) + 1) = ((z.i + 1 : Nat) : Int) := by rw [wrapi (by omega) (by omega)]; omega
        rw [e1, e2, e3]
        have hpre : ∀ b ∈ bs', b ∈ blocks β 1 ∨ w1.heap.size ≤ b := fun b hb => by
          have := hkp.size
          rcases (hbs' b hb).1 with h | h
          · exact .inl h
          · exact .inr (by omega)
        have keep : ∀ (f t : Nat), Good l f t → (T.leaf .normal [grp, .int .i64 f false, .int .i64 t false, .int .i64 ((z.i + 1 : Nat) : Int) false] (SS.mk (ipObjs ⟨A, 16, c⟩) [] true w4 bs')).holds { P := Tryz.prog, β0 := β, n0 := 1, Q := rQT β (blocks β 1) (fun z : IZ => [grp, .int .i64 z.f false, .int .i64 z.t false, .int .i64 z.i false]) (fun _ => ipObjs ⟨A, 16, c⟩) (fun z => 8 - z.i) (fun z _ => z.i ≤ 8 ∧ Good l z.f z.t) (.exit 2) (fun p : Nat × Nat => [grp, .int .i64 p.1 false, .int .i64 p.2 false]) (fun _ => ipObjs ⟨A, 16, c⟩) (fun p _ => Good l p.1 p.2) .ret (fun _ : Unit => []) (fun _ => ipObjs ⟨A, 16, c⟩) (fun _ _ => False) w1 z } := fun f t hg => by
          refine leafK ⟨rfl, hkp.trans hk24, hpre⟩ fun β' w' hst hk' => ⟨⟨f, t, z.i + 1, 0⟩, by show 8 - (z.i + 1) < 8 - z.i; omega, ?_, hst.objsAt rfl hobjs, ⟨by show z.i + 1 ≤ 8; omega, hg⟩, hk'⟩
          have := hst.base 0 (by show 0 < 1; omega)
          simp only [grp, denL, SV.den]
          rw [this]
        refine splitD (fun hl2 => splitD (fun hl3 => ?_) (fun _ => ?_)) (fun _ => ?_)
        · exact keep z.i j (.inr ⟨by omega, hj8, hz⟩)
        · exact keep z.f z.t hgood
        · exact keep z.f z.t hgood
      · rintro w3 j w4 hf
        exact hf.elim
    · refine leafK ⟨rfl, hkp, fun b hb => .inl hb⟩ fun β' w' hst hk' => ⟨.inl ⟨(z.f, z.t), rfl, ?_, hst.objsAt rfl hobjs, hgood⟩, hk'⟩
      have := hst.base 0 (by show 0 < 1; omega)
      simp only [grp, denL, SV.den]
      rw [this]
  · intro β w1 hst hb1
    exact ⟨⟨255, 255, 0, 0⟩, rfl, fun i o hi => hst.at_ i o hi, Nat.zero_le _, .inl ⟨rfl, rfl⟩⟩
  · rintro w1 ⟨f, t⟩ w2 hgood hbw1 hw2 g bs2 hbs2
    dsimp only at hgood ⊢
    refine loopT (w := w) (Fine.mk' hw2 hbs2) rfl 1 rfl L74s (fun z : IT => [grp, .int .i64 z.f false, .int .i64 z.t false, .str z.s false, .int .i64 z.i false]) (fun _ => ipObjs ⟨A, 16, c⟩) (fun z => 8 - z.i)
      (fun _ z _ => sInv l f t z) (fun _ s _ => s = ⟨(txt6 l f t).toArray⟩) (fun _ _ _ => False) (fun _ => hk74s) 1000
      (by simp) (by simp [L74s]) (by simp [L74s]) (fun _ => ⟨hok 1 (by omega), trivial, trivial, trivial, trivial, trivial⟩) (fun _ => ⟨rfl, hobjs⟩) rfl rfl (by simp) (by simp) (fun _ => ⟨⟨trivial, trivial⟩, rfl, hobjs⟩) (fun _ => ⟨trivial, rfl, hobjs⟩) ?_ ?_ ?_ ?_
    · rintro β w3 z w4 g2 hb3 ⟨rfl, rfl, hi, hsz, hs⟩ hkp hge
      have hbl : ∀ b ∈ blocks β 1, w.heap.size ≤ b := fun b hb => by
        simp [blocks] at hb
        subst hb
        exact hge 0 (by omega)
      have hw4 : Below w.heap.size w w4 := hkp.below hb3 (Nat.le_refl _) hbl
      have kf : KFine (blocks β 1) w4 (SS.mk (ipObjs ⟨A, 16, c⟩) [] true w4 (blocks β 1)) := ⟨rfl, Keep.refl _ _, fun b hb => .inl hb⟩
      have hft : (z.f = 255 ∧ z.t = 255) ∨ (z.f + 2 ≤ z.t ∧ z.t ≤ 8) := by
        rcases hgood with ⟨h1, h2⟩ | ⟨h1, h2, _⟩
        · exact .inl ⟨h1, h2⟩
        · exact .inr ⟨h1, h2⟩
      have next : ∀ (s' : ByteArray) (i' : Nat) (w5 : World) (bs5 : List Nat), Keep (blocks β 1) w4 w5 → (∀ b ∈ bs5, b ∈ blocks β 1 ∨ w4.heap.size ≤ b) → z.i < i' → sInv l z.f z.t ⟨z.f, z.t, i', s'⟩ →
          (T.leaf .normal [grp, .int .i64 z.f false, .int .i64 z.t false, .str s' false, .int .i64 (i' : Int) false] (SS.mk (ipObjs ⟨A, 16, c⟩) [] true w5 bs5)).holds { P := Tryz.prog, β0 := β, n0 := 1, Q := rQT β (blocks β 1) (fun z : IT => [grp, .int .i64 z.f false, .int .i64 z.t false, .str z.s false, .int .i64 z.i false]) (fun _ => ipObjs ⟨A, 16, c⟩) (fun z => 8 - z.i) (fun z' _ => sInv l z.f z.t z') (.exit 6) (fun s => [.str s false]) (fun _ => ipObjs ⟨A, 16, c⟩) (fun s _ => s = ⟨(txt6 l z.f z.t).toArray⟩) .ret (fun _ : Unit => []) (fun _ => ipObjs ⟨A, 16, c⟩) (fun _ _ => False) w3 z } := fun s' i' w5 bs5 hk5 hbs5 hlt hinv => by
        have hi8 := hinv.2.2.1
        refine leafK ⟨rfl, hkp.trans hk5, fun b hb => (hbs5 b hb).imp id (Nat.le_trans hkp.size)⟩ fun β' w' hst hk' => ⟨⟨z.f, z.t, i', s'⟩, by show 8 - i' < 8 - z.i; dsimp only at hi8; omega, ?_, hst.objsAt rfl hobjs, hinv, hk'⟩
        have := hst.base 0 (by show 0 < 1; omega)
        simp only [grp, denL, SV.den]
        rw [this]
      refine holds_eq (r74s ⟨A, 16, c⟩ z w4 (blocks β 1) g2) (splitD (fun hlt => ?_) (fun hge' => ?_))
      · have hlt' : z.i < 8 := by omega
        refine splitT (fun hf => ?_) (fun hnf => splitD (fun hpos => ?_) (fun hz0 => ?_))
        · have hif : z.i = z.f := by have := eq_of_beq hf; omega
          have hft2 : z.f + 2 ≤ z.t ∧ z.t ≤ 8 := by omega
          have hs' : z.s = ⟨(jn (seg l 0 z.f)).toArray⟩ := by
            rcases hs with ⟨_, h⟩ | ⟨_, h, _⟩
            · rw [hif] at h; exact h
            · omega
          refine needT (by rw [i64max]; omega) (splitD (fun ht8 => ?_) (fun ht8 => ?_))
          · refine leafK ⟨rfl, hkp, fun b hb => .inl hb⟩ fun β' w' hst hk' => ⟨.inl ⟨z.s ++ ByteArray.mk #[(58 : UInt8), (58 : UInt8)], rfl, rfl, hst.objsAt rfl hobjs, ?_⟩, hk'⟩
            have ht : z.t = 8 := by omega
            have hf255 : z.f ≠ 255 := by omega
            rw [hs', ht, txt6, if_neg hf255, seg_nil, bapp]
            simp [jn]
          · have ht7 : z.t < 8 := by omega
            obtain ⟨n1, n2, n3, n4, n5, n6⟩ := grpRead h hB hw4 hbl ht7
            refine needT n1 (needT n2 (needT n3 (needT n4 (needT n2 (needT n5 ?_)))))
            refine hexCall kf n6 (grpAt_lt l z.t) fun w5 bs5 hk5 hbs5 => ?_
            have hl := hexText_len (grpAt l z.t)
            have hg := grpAt_lt l z.t
            have hsz2 : (z.s ++ ByteArray.mk #[(58 : UInt8), (58 : UInt8)]).size = z.s.size + 2 := by rw [ByteArray.size_append]; rfl
            refine needT (by rw [hsz2, bsize (hexText (grpAt l z.t)), i64max]; omega) ?_
            rw [show IntKind.i64.wrap ((z.t : Int) + 1) = ((z.t + 1 : Nat) : Int) by rw [wrapi (by omega) (by omega)]; omega]
            refine next _ _ _ _ hk5 hbs5 (by omega) ⟨rfl, rfl, by show z.t + 1 ≤ 8; omega, ?_, .inr ⟨by omega, Nat.lt_succ_self _, ?_⟩⟩
            · show (z.s ++ ByteArray.mk #[(58 : UInt8), (58 : UInt8)] ++ _).size ≤ 70000 * (z.t + 1)
              rw [ByteArray.size_append, hsz2, bsize (hexText (grpAt l z.t))]
              omega
            · show z.s ++ ByteArray.mk #[(58 : UInt8), (58 : UInt8)] ++ _ = _
              rw [hs', bapp, bapp, seg_snoc l (Nat.le_refl _), seg_nil]
              simp [jn]
        · have hpos' : 0 < z.i := by omega
          obtain ⟨n1, n2, n3, n4, n5, n6⟩ := grpRead h hB hw4 hbl hlt'
          refine needT (by rw [i64max]; omega) (needT n1 (needT n2 (needT n3 (needT n4 (needT n2 (needT n5 ?_))))))
          refine hexCall kf n6 (grpAt_lt l z.i) fun w5 bs5 hk5 hbs5 => ?_
          have hl := hexText_len (grpAt l z.i)
          have hg := grpAt_lt l z.i
          have hsz2 : (z.s ++ ByteArray.mk #[(58 : UInt8)]).size = z.s.size + 1 := by rw [ByteArray.size_append]; rfl
          refine needT (by rw [hsz2, bsize (hexText (grpAt l z.i)), i64max]; omega) ?_
          rw [show IntKind.i64.wrap ((z.i : Int) + 1) = ((z.i + 1 : Nat) : Int) by rw [wrapi (by omega) (by omega)]; omega]
          have hnf' : z.i ≠ z.f := fun he => by rw [he] at hnf; simp at hnf
          refine next _ _ _ _ hk5 hbs5 (by omega) ⟨rfl, rfl, by show z.i + 1 ≤ 8; omega, ?_, ?_⟩
          · show (z.s ++ ByteArray.mk #[(58 : UInt8)] ++ _).size ≤ 70000 * (z.i + 1)
            rw [ByteArray.size_append, hsz2, bsize (hexText (grpAt l z.i))]
            omega
          · show ((z.f = 255 ∨ z.i + 1 ≤ z.f) ∧ z.s ++ ByteArray.mk #[(58 : UInt8)] ++ _ = _) ∨ (z.f ≠ 255 ∧ z.t < z.i + 1 ∧ z.s ++ ByteArray.mk #[(58 : UInt8)] ++ _ = _)
            rcases hs with ⟨h1, h2⟩ | ⟨h1, h2, h3⟩
            · refine .inl ⟨by omega, ?_⟩
              rw [h2, bapp, bapp, seg_snoc l (Nat.zero_le _), jn_snoc, if_neg (seg_ne l hpos')]
            · refine .inr ⟨h1, by omega, ?_⟩
              rw [h3, bapp, bapp, seg_snoc l (Nat.le_of_lt h2), jn_snoc, if_neg (seg_ne l h2)]
              simp
        · have hz : z.i = 0 := by omega
          obtain ⟨n1, n2, n3, n4, n5, n6⟩ := grpRead h hB hw4 hbl hlt'
          refine needT n1 (needT n2 (needT n3 (needT n4 (needT n2 (needT n5 ?_)))))
          refine hexCall kf n6 (grpAt_lt l z.i) fun w5 bs5 hk5 hbs5 => ?_
          have hl := hexText_len (grpAt l z.i)
          have hg := grpAt_lt l z.i
          refine needT (by rw [bsize (hexText (grpAt l z.i)), i64max]; omega) ?_
          rw [show IntKind.i64.wrap ((z.i : Int) + 1) = ((z.i + 1 : Nat) : Int) by rw [wrapi (by omega) (by omega)]; omega]
          have hnf' : z.i ≠ z.f := fun he => by rw [he] at hnf; simp at hnf
          refine next _ _ _ _ hk5 hbs5 (by omega) ⟨rfl, rfl, by show z.i + 1 ≤ 8; omega, ?_, .inl ⟨by show z.f = 255 ∨ z.i + 1 ≤ z.f; omega, ?_⟩⟩
          · show (z.s ++ _).size ≤ 70000 * (z.i + 1)
            rw [ByteArray.size_append, bsize (hexText (grpAt l z.i))]
            omega
          · show z.s ++ _ = _
            rcases hs with ⟨h1, h2⟩ | ⟨h1, h2, h3⟩
            · rw [h2, bapp, seg_snoc l (Nat.zero_le _), jn_snoc, hz, seg_nil]
              simp [jn]
            · omega
      · have hi8 : z.i = 8 := by omega
        refine leafK ⟨rfl, hkp, fun b hb => .inl hb⟩ fun β' w' hst hk' => ⟨.inl ⟨z.s, rfl, rfl, hst.objsAt rfl hobjs, ?_⟩, hk'⟩
        rcases hs with ⟨h1, h2⟩ | ⟨h1, h2, h3⟩
        · rw [h2, txt6, if_pos (by omega), hi8]
        · rw [h3, txt6, if_neg h1, hi8]
    · intro β w3 hst hb3
      exact ⟨⟨f, t, 0, ⟨#[]⟩⟩, rfl, fun i o hi => hst.at_ i o hi, rfl, rfl, Nat.zero_le _, Nat.zero_le _, .inl ⟨.inr (Nat.zero_le _), rfl⟩⟩
    · rintro w3 s w4 rfl hb3 hb4 g2 bs3 hbs3
      exact retF (Fine.mk' hb4 hbs3) fun β w' _ _ => ⟨f, t, hgood, rfl⟩
    · rintro w3 s w4 hf
      exact hf.elim
  · rintro w1 p w2 hf
    exact hf.elim

end Go.Proofs.YtdmnoagahjbjhaaGreatDoor
end

section
/- Text of groups: plain facts. -/
set_option linter.unusedVariables false
set_option linter.unusedSimpArgs false
set_option maxRecDepth 20000
namespace Go.Proofs.YtdmnoagahjbjhaaGreatDoor
open Go Go.Rx Go.RowKit

def hexDs (n : Nat) : List Nat := if h : n < 16 then [n] else hexDs (n / 16) ++ [n % 16]
termination_by n
decreasing_by omega

theorem hexDs_small {n : Nat} (h : n < 16) : hexDs n = [n] := by
  rw [hexDs]; simp [h]

theorem hexDs_step {n : Nat} (h : ¬ n < 16) : hexDs n = hexDs (n / 16) ++ [n % 16] := by
  rw [hexDs]; simp [h]

theorem hexText_ds (n : Nat) : hexText n = (hexDs n).map hexd := by
  induction n using Nat.strongRecOn with
  | _ n ih =>
    by_cases h : n < 16
    · rw [hexText_small h, hexDs_small h]; rfl
    · rw [hexText_step h, hexDs_step h, ih _ (by omega)]; simp

theorem hexDs_lt (n : Nat) : ∀ d ∈ hexDs n, d < 16 := by
  induction n using Nat.strongRecOn with
  | _ n ih =>
    by_cases h : n < 16
    · rw [hexDs_small h]; simpa using h
    · rw [hexDs_step h]
      intro d hd
      rcases List.mem_append.1 hd with hd | hd
      · exact ih _ (by omega) d hd
      · simp at hd; omega

def hexFold (l : List Nat) : Nat := l.foldl (fun a d => a * 16 + d) 0

theorem hexFold_snoc (l : List Nat) (d : Nat) : hexFold (l ++ [d]) = hexFold l * 16 + d := by simp [hexFold]

theorem hexDs_fold (n : Nat) : hexFold (hexDs n) = n := by
  induction n using Nat.strongRecOn with
  | _ n ih =>
    by_cases h : n < 16
    · rw [hexDs_small h]; simp [hexFold]
    · rw [hexDs_step h, hexFold_snoc, ih _ (by omega)]; omega

theorem hexDs_len : ∀ (k n : Nat), n < 16 ^ (k + 1) → (hexDs n).length ≤ k + 1
  | 0, n, h => by rw [hexDs_small (by simpa using h)]; simp
  | k + 1, n, h => by
    by_cases h16 : n < 16
    · rw [hexDs_small h16]; simp
    · rw [hexDs_step h16]
      have := hexDs_len k (n / 16) (Nat.div_lt_of_lt_mul (by rw [Nat.pow_succ] at h; omega))
      simp
      omega

theorem hexDs_pos (n : Nat) : 0 < (hexDs n).length := by
  by_cases h : n < 16
  · rw [hexDs_small h]; simp
  · rw [hexDs_step h]; simp

theorem hexFold_ltA : ∀ (l : List Nat) (a : Nat), (∀ d ∈ l, d < 16) → l.foldl (fun a d => a * 16 + d) a < (a + 1) * 16 ^ l.length
  | [], a, _ => by simp
  | d :: l, a, h => by
    have h1 := hexFold_ltA l (a * 16 + d) fun x hx => h x (List.mem_cons_of_mem _ hx)
    have h2 := h d List.mem_cons_self
    have h3 : (a * 16 + d + 1) * 16 ^ l.length ≤ ((a + 1) * 16) * 16 ^ l.length := Nat.mul_le_mul_right _ (by omega)
    rw [List.length_cons, Nat.pow_succ, Nat.mul_comm (16 ^ l.length) 16, ← Nat.mul_assoc]
    exact Nat.lt_of_lt_of_le h1 h3

theorem hexFold_lt (l : List Nat) (h : ∀ d ∈ l, d < 16) : hexFold l < 16 ^ l.length := by
  have := hexFold_ltA l 0 h
  unfold hexFold
  simpa using this

theorem digOf_hexd : ∀ d : Nat, d < 16 → digOf (hexd d) = (d : Int) := by decide

theorem hexd_ne : ∀ d : Nat, d < 16 → hexd d ≠ 58 ∧ hexd d ≠ 46 ∧ hexd d ≠ 37 := by decide

theorem digOf_colon : digOf 58 = -1 := by decide

def by2 (G : List Nat) : List Int := G.flatMap fun g => [((g / 256 : Nat) : Int), ((g % 256 : Nat) : Int)]

theorem by2_snoc (G : List Nat) (g : Nat) : by2 (G ++ [g]) = by2 G ++ [((g / 256 : Nat) : Int), ((g % 256 : Nat) : Int)] := by simp [by2]

theorem by2_append (G H : List Nat) : by2 (G ++ H) = by2 G ++ by2 H := by simp [by2]

theorem by2_len (G : List Nat) : (by2 G).length = 2 * G.length := by
  induction G with
  | nil => rfl
  | cons g r ih =>
    have : by2 (g :: r) = [((g / 256 : Nat) : Int), ((g % 256 : Nat) : Int)] ++ by2 r := by simp [by2]
    rw [this, List.length_append, ih]
    simp
    omega

def tlText : Option (List Nat) → List UInt8
  | none => []
  | some B => 58 :: 58 :: jn B

theorem jn_cons (y : Nat) (r : List Nat) : ∃ d t, d < 16 ∧ jn (y :: r) = hexd d :: t := by
  have h1 : ∃ d t, d < 16 ∧ hexText y = hexd d :: t := by
    rw [hexText_ds]
    have h2 := hexDs_lt y
    have h3 := hexDs_pos y
    cases hd : hexDs y with
    | nil => rw [hd] at h3; simp at h3
    | cons d t => exact ⟨d, t.map hexd, h2 d (by rw [hd]; simp), rfl⟩
  obtain ⟨d, t, h2, h3⟩ := h1
  cases r with
  | nil => exact ⟨d, t, h2, by simp [jn, h3]⟩
  | cons z r' => exact ⟨d, t ++ [58] ++ jn (z :: r'), h2, by simp [jn, h3]⟩

theorem take_set2 {l A : List Int} {i : Nat} {a b : Int} (hl : l.length = 16) (hi : i + 2 ≤ 16) (h : l.take i = A) : ((l.set i a).set (i + 1) b).take (i + 2) = A ++ [a, b] := by
  subst h
  rw [show i + 2 = (i + 1) + 1 by omega, List.take_add_one, List.take_add_one]
  have e1 : ((l.set i a).set (i + 1) b).take i = l.take i := by
    rw [List.take_set_of_le (by omega), List.take_set_of_le (by omega)]
  have e2 : ((l.set i a).set (i + 1) b)[i]? = some a := by
    rw [List.getElem?_set_ne (by omega), List.getElem?_set_self (by omega)]
  have e3 : ((l.set i a).set (i + 1) b)[i + 1]? = some b := by
    rw [List.getElem?_set_self (by simp; omega)]
  rw [e1, e2, e3]
  simp

theorem ext_mk (L : List UInt8) (k : Nat) : (⟨L.toArray⟩ : ByteArray).extract k (⟨L.toArray⟩ : ByteArray).size = ⟨(L.drop k).toArray⟩ := by
  apply ByteArray.ext
  rw [ByteArray.data_extract, bsize]
  apply Array.ext'
  simp [List.take_of_length_le]

end Go.Proofs.YtdmnoagahjbjhaaGreatDoor
end

