/- netAlive's questions: zoneless, the value's bytes, thin waist, loopback. -/
import Derived.Test.YtdmnoagahjbjhaaGreatDoorM18
set_option linter.unusedVariables false
set_option linter.unusedSimpArgs false
set_option maxRecDepth 20000
namespace Go.Proofs.YtdmnoagahjbjhaaGreatDoor
open Go Go.Rx Go.RowKit
@[reducible] def sameHook : Hook := { X := Unit, out := fun args s _ => (args.headD undefS, s.objs) }
def hk72 : Hooks := { calls := fun f => if f = 87 then some boolHook else none, loops := fun _ _ => none }
def hk51 : Hooks := { calls := fun f => if f = 72 then some sameHook else if f = 78 then some boolHook else none, loops := fun _ _ => none }
def hk35 : Hooks := { calls := fun f => if f = 48 then some sameHook else if f = 46 then some uvHook else if f = 51 then some boolHook else none, loops := fun _ _ => none }
def hk34 : Hooks := { calls := fun f => if f = 48 then some sameHook else if f = 41 then some uvHook else none, loops := fun _ _ => none }
set_option maxRecDepth 100000 in
theorem t72 (A : Option Addr) (n c : Nat) (w : World) : xFunc Tryz.prog hk72 500 72 [.xs A n c] (SS.mk [] [] true w []) =
  (.split ((↑n : Int) == (4 : Int))
   (.leaf .ret [(.xs A n c)] (SS.mk [] [] true w []))
   (.split ((↑n : Int) == (16 : Int))
    (.need ((0 : Int) ≤ (10 : Int) ∧ (10 : Int) ≤ (↑c : Int))
    (.call 87 [(.xs (if c = (0 : Nat) then A else Option.map (fun x => x.add (0 : Nat)) A) 10 (c - (0 : Nat)))] (SS.mk [] [] true w []) (Hook.X (boolHook)) (Hook.out (boolHook) [(.xs (if c = (0 : Nat) then A else Option.map (fun x => x.add (0 : Nat)) A) 10 (c - (0 : Nat)))] (SS.mk [] [] true w [])) fun x0 w0 b0 =>
    (.split x0
     (.need ((0 : Int) ≤ (10 : Int) ∧ (10 : Int) < (↑n : Int))
     (.need (A.isSome = true)
     (.need (canRead w0 b0 ((A.getD default).add (10 : Nat)) [SV.int IntKind.u8 (intAt w0 (((A.getD default).add (10 : Nat)).add (0 : Nat))) false])
     (.split (intAt w0 (((A.getD default).add (10 : Nat)).add (0 : Nat)) == (255 : Int))
      (.need ((0 : Int) ≤ (11 : Int) ∧ (11 : Int) < (↑n : Int))
      (.need (A.isSome = true)
      (.need (canRead w0 b0 ((A.getD default).add (11 : Nat)) [SV.int IntKind.u8 (intAt w0 (((A.getD default).add (11 : Nat)).add (0 : Nat))) false])
      (.split (intAt w0 (((A.getD default).add (11 : Nat)).add (0 : Nat)) == (255 : Int))
       (.need ((0 : Int) ≤ (16 : Int) ∧ (16 : Int) ≤ (↑c : Int))
       (.leaf .ret [(.xs (if c = (12 : Nat) then A else Option.map (fun x => x.add (12 : Nat)) A) 4 (c - (12 : Nat)))] (SS.mk [] [] true w0 b0)))
       (.leaf .ret [(.one (.slice none 0 0) rfl)] (SS.mk [] [] true w0 b0))))))
      (.leaf .ret [(.one (.slice none 0 0) rfl)] (SS.mk [] [] true w0 b0))))))
     (.leaf .ret [(.one (.slice none 0 0) rfl)] (SS.mk [] [] true w0 b0)))))
    (.leaf .ret [(.one (.slice none 0 0) rfl)] (SS.mk [] [] true w [])))) := by kernel_rfl
set_option maxRecDepth 100000 in
theorem t51 (A : Option Addr) (n c : Nat) (w : World) : xFunc Tryz.prog hk51 500 51 [.xs A n c] (SS.mk [] [] true w []) =
  (.call 72 [(.xs A n c)] (SS.mk [] [] true w []) (Hook.X (sameHook)) (Hook.out (sameHook) [(.xs A n c)] (SS.mk [] [] true w [])) fun x0 w0 b0 =>
  (.split (!A.isNone)
   (.need ((0 : Int) ≤ (0 : Int) ∧ (0 : Int) < (↑n : Int))
   (.need (A.isSome = true)
   (.need (canRead w0 b0 ((A.getD default).add (0 : Nat)) [SV.int IntKind.u8 (intAt w0 (((A.getD default).add (0 : Nat)).add (0 : Nat))) false])
   (.leaf .ret [(.bool (intAt w0 (((A.getD default).add (0 : Nat)).add (0 : Nat)) == (127 : Int)) false)] (SS.mk [] [] true w0 b0)))))
   (.call 78 [(.xs A n c), (.slc 0 0 16 16 true true)] (SS.mk [(.cells [(.int .u8 0 true), (.int .u8 0 true), (.int .u8 0 true), (.int .u8 0 true), (.int .u8 0 true), (.int .u8 0 true), (.int .u8 0 true), (.int .u8 0 true), (.int .u8 0 true), (.int .u8 0 true), (.int .u8 0 true), (.int .u8 0 true), (.int .u8 0 true), (.int .u8 0 true), (.int .u8 0 true), (.int .u8 1 true)] 16 5 0 0)] [] true w0 b0) (Hook.X (boolHook)) (Hook.out (boolHook) [(.xs A n c), (.slc 0 0 16 16 true true)] (SS.mk [(.cells [(.int .u8 0 true), (.int .u8 0 true), (.int .u8 0 true), (.int .u8 0 true), (.int .u8 0 true), (.int .u8 0 true), (.int .u8 0 true), (.int .u8 0 true), (.int .u8 0 true), (.int .u8 0 true), (.int .u8 0 true), (.int .u8 0 true), (.int .u8 0 true), (.int .u8 0 true), (.int .u8 0 true), (.int .u8 1 true)] 16 5 0 0)] [] true w0 b0)) fun x1 w1 b1 =>
   (.leaf .ret [(.bool x1 false)] (SS.mk [(.cells [(.int .u8 0 true), (.int .u8 0 true), (.int .u8 0 true), (.int .u8 0 true), (.int .u8 0 true), (.int .u8 0 true), (.int .u8 0 true), (.int .u8 0 true), (.int .u8 0 true), (.int .u8 0 true), (.int .u8 0 true), (.int .u8 0 true), (.int .u8 0 true), (.int .u8 0 true), (.int .u8 0 true), (.int .u8 1 true)] 16 5 0 0)] [] true w1 b1))))) := by kernel_rfl
set_option maxRecDepth 100000 in
theorem t46 (a : Addr) (w : World) : xFunc Tryz.prog noHk 500 46 [.xp a] (SS.mk [] [] true w []) =
  (.need (canRead w [] (a.add (0 : Nat)) [SV.str (strAt w ((a.add (0 : Nat)).add (0 : Nat))) false])
  (.need (canRead w [] (a.add (2 : Nat)) [SV.int IntKind.i64 (intAt w ((a.add (2 : Nat)).add (0 : Nat))) false])
  (.need ((0 : Int) ≤ intAt w ((a.add (2 : Nat)).add (0 : Nat)) ∧ intAt w ((a.add (2 : Nat)).add (0 : Nat)) ≤ (↑(strAt w ((a.add (0 : Nat)).add (0 : Nat))).size : Int))
  (.choose (.appendCap (((strAt w ((a.add (0 : Nat)).add (0 : Nat))).extract (intAt w ((a.add (2 : Nat)).add (0 : Nat))).toNat (strAt w ((a.add (0 : Nat)).add (0 : Nat))).size).size) 0 5) fun c0 =>
  (.leaf .ret [(.slc 0 0 (((strAt w ((a.add (0 : Nat)).add (0 : Nat))).extract (intAt w ((a.add (2 : Nat)).add (0 : Nat))).toNat (strAt w ((a.add (0 : Nat)).add (0 : Nat))).size).size) c0 false false)] (SS.mk [(.ints .u8 (List.map (fun b => (↑b.toNat : Int)) (#[].extract (0 : Nat) (0 : Nat) ++ (strAt w ((a.add (0 : Nat)).add (0 : Nat))).data.extract (intAt w ((a.add (2 : Nat)).add (0 : Nat))).toNat ((intAt w ((a.add (2 : Nat)).add (0 : Nat))).toNat + ((strAt w ((a.add (0 : Nat)).add (0 : Nat))).size - (intAt w ((a.add (2 : Nat)).add (0 : Nat))).toNat)) ++ #[].extract ((0 : Nat) + min ((strAt w ((a.add (0 : Nat)).add (0 : Nat))).size - (intAt w ((a.add (2 : Nat)).add (0 : Nat))).toNat) ((strAt w ((a.add (0 : Nat)).add (0 : Nat))).data.size - (intAt w ((a.add (2 : Nat)).add (0 : Nat))).toNat)) (0 : Nat)).toList ++ List.replicate (c0 - ((strAt w ((a.add (0 : Nat)).add (0 : Nat))).extract (intAt w ((a.add (2 : Nat)).add (0 : Nat))).toNat (strAt w ((a.add (0 : Nat)).add (0 : Nat))).size).size) (0 : Int)) 5 c0 (c0 + (1 : Nat)))] [] true w [])))))) := by kernel_rfl
set_option maxRecDepth 100000 in
theorem t48 (A : Option Addr) (n c : Nat) (w : World) : xFunc Tryz.prog noHk 500 48 [.xs A n c] (SS.mk [] [] true w []) =
  (.split ((↑n : Int) == (0 : Int))
   (.leaf .ret [(.one (.slice none 0 0) rfl)] (SS.mk [] [] true w []))
   (.split ((↑n : Int) == (1 : Int))
    (.split ((↑n : Int) == (0 : Int))
     (.leaf .ret [(.one (.slice none 0 0) rfl)] (SS.mk [] [] true w []))
     (.need ((0 : Int) ≤ (0 : Int) ∧ (0 : Int) < (↑n : Int))
     (.need (A.isSome = true)
     (.need (canRead w [] (((A.getD default).add (0 : Nat)).add (1 : Nat)) [SV.xp (ptrAt w ((((A.getD default).add (0 : Nat)).add (1 : Nat)).add (0 : Nat)))])
     (.need (canRead w [] (((A.getD default).add (0 : Nat)).add (1 : Nat)) [SV.xp (ptrAt w ((((A.getD default).add (0 : Nat)).add (1 : Nat)).add (0 : Nat)))])
     (.need (canRead w [] ((ptrAt w ((((A.getD default).add (0 : Nat)).add (1 : Nat)).add (0 : Nat))).add (1 : Nat)) [SV.int IntKind.i64 (intAt w (((ptrAt w ((((A.getD default).add (0 : Nat)).add (1 : Nat)).add (0 : Nat))).add (1 : Nat)).add (0 : Nat))) false])
     (.split (intAt w (((ptrAt w ((((A.getD default).add (0 : Nat)).add (1 : Nat)).add (0 : Nat))).add (1 : Nat)).add (0 : Nat)) == (42 : Int))
      (.leaf .ret [(.one (.slice none 0 0) rfl)] (SS.mk [] [] true w []))
      (.leaf .ret [(.xs A n c)] (SS.mk [] [] true w [])))))))))
    (.need ((0 : Int) ≤ (1 : Int) ∧ (1 : Int) ≤ (↑c : Int))
    (.need ((0 : Int) ≤ (1 : Int) ∧ (1 : Int) ≤ (↑n : Int))
    (.split false
     (.leaf .ret [(.one (.slice none 0 0) rfl)] (SS.mk [] [] true w []))
     (.need ((0 : Int) ≤ (0 : Int) ∧ (0 : Int) < (↑(1 : Nat) : Int))
     (.need ((if c = (0 : Nat) then A else Option.map (fun x => x.add (0 : Nat)) A).isSome = true)
     (.need (canRead w [] ((((if c = (0 : Nat) then A else Option.map (fun x => x.add (0 : Nat)) A).getD default).add (0 : Nat)).add (1 : Nat)) [SV.xp (ptrAt w (((((if c = (0 : Nat) then A else Option.map (fun x => x.add (0 : Nat)) A).getD default).add (0 : Nat)).add (1 : Nat)).add (0 : Nat)))])
     (.need (canRead w [] ((((if c = (0 : Nat) then A else Option.map (fun x => x.add (0 : Nat)) A).getD default).add (0 : Nat)).add (1 : Nat)) [SV.xp (ptrAt w (((((if c = (0 : Nat) then A else Option.map (fun x => x.add (0 : Nat)) A).getD default).add (0 : Nat)).add (1 : Nat)).add (0 : Nat)))])
     (.need (canRead w [] ((ptrAt w (((((if c = (0 : Nat) then A else Option.map (fun x => x.add (0 : Nat)) A).getD default).add (0 : Nat)).add (1 : Nat)).add (0 : Nat))).add (1 : Nat)) [SV.int IntKind.i64 (intAt w (((ptrAt w (((((if c = (0 : Nat) then A else Option.map (fun x => x.add (0 : Nat)) A).getD default).add (0 : Nat)).add (1 : Nat)).add (0 : Nat))).add (1 : Nat)).add (0 : Nat))) false])
     (.split (intAt w (((ptrAt w (((((if c = (0 : Nat) then A else Option.map (fun x => x.add (0 : Nat)) A).getD default).add (0 : Nat)).add (1 : Nat)).add (0 : Nat))).add (1 : Nat)).add (0 : Nat)) == (42 : Int))
      (.split ((↑(n - (1 : Nat)) : Int) == (0 : Int))
       (.leaf .ret [(.one (.slice none 0 0) rfl)] (SS.mk [] [] true w []))
       (.need ((0 : Int) ≤ (0 : Int) ∧ (0 : Int) < (↑(n - (1 : Nat)) : Int))
       (.need ((if c = (1 : Nat) then A else Option.map (fun x => x.add (3 : Nat)) A).isSome = true)
       (.need (canRead w [] ((((if c = (1 : Nat) then A else Option.map (fun x => x.add (3 : Nat)) A).getD default).add (0 : Nat)).add (1 : Nat)) [SV.xp (ptrAt w (((((if c = (1 : Nat) then A else Option.map (fun x => x.add (3 : Nat)) A).getD default).add (0 : Nat)).add (1 : Nat)).add (0 : Nat)))])
       (.need (canRead w [] ((((if c = (1 : Nat) then A else Option.map (fun x => x.add (3 : Nat)) A).getD default).add (0 : Nat)).add (1 : Nat)) [SV.xp (ptrAt w (((((if c = (1 : Nat) then A else Option.map (fun x => x.add (3 : Nat)) A).getD default).add (0 : Nat)).add (1 : Nat)).add (0 : Nat)))])
       (.need (canRead w [] ((ptrAt w (((((if c = (1 : Nat) then A else Option.map (fun x => x.add (3 : Nat)) A).getD default).add (0 : Nat)).add (1 : Nat)).add (0 : Nat))).add (1 : Nat)) [SV.int IntKind.i64 (intAt w (((ptrAt w (((((if c = (1 : Nat) then A else Option.map (fun x => x.add (3 : Nat)) A).getD default).add (0 : Nat)).add (1 : Nat)).add (0 : Nat))).add (1 : Nat)).add (0 : Nat))) false])
       (.split (intAt w (((ptrAt w (((((if c = (1 : Nat) then A else Option.map (fun x => x.add (3 : Nat)) A).getD default).add (0 : Nat)).add (1 : Nat)).add (0 : Nat))).add (1 : Nat)).add (0 : Nat)) != (41 : Int))
        (.leaf .ret [(.one (.slice none 0 0) rfl)] (SS.mk [] [] true w []))
        (.leaf .ret [(.xs (if c = (1 : Nat) then A else Option.map (fun x => x.add (3 : Nat)) A) (n - (1 : Nat)) (c - (1 : Nat)))] (SS.mk [] [] true w [])))))))))
      (.leaf .ret [(.xs A n c)] (SS.mk [] [] true w []))))))))))))) := by kernel_rfl
set_option maxRecDepth 100000 in
theorem t35 (A : Option Addr) (n c : Nat) (w : World) : xFunc Tryz.prog hk35 500 35 [.xs A n c] (SS.mk [] [] true w []) =
  (.call 48 [(.xs A n c)] (SS.mk [] [] true w []) (Hook.X (sameHook)) (Hook.out (sameHook) [(.xs A n c)] (SS.mk [] [] true w [])) fun x0 w0 b0 =>
  (.split A.isNone
   (.leaf .ret [(.bool false true)] (SS.mk [] [] true w0 b0))
   (.split ((↑n : Int) == (0 : Int))
    (.leaf .ret [(.bool false true)] (SS.mk [] [] true w0 b0))
    (.split ((↑n : Int) == (1 : Int))
     (.split ((↑n : Int) == (0 : Int))
      (.leaf .ret [(.bool false true)] (SS.mk [] [] true w0 b0))
      (.need ((0 : Int) ≤ (0 : Int) ∧ (0 : Int) < (↑n : Int))
      (.need (A.isSome = true)
      (.need (canRead w0 b0 (((A.getD default).add (0 : Nat)).add (1 : Nat)) [SV.xp (ptrAt w0 ((((A.getD default).add (0 : Nat)).add (1 : Nat)).add (0 : Nat)))])
      (.need (canRead w0 b0 (((A.getD default).add (0 : Nat)).add (1 : Nat)) [SV.xp (ptrAt w0 ((((A.getD default).add (0 : Nat)).add (1 : Nat)).add (0 : Nat)))])
      (.need (canRead w0 b0 ((ptrAt w0 ((((A.getD default).add (0 : Nat)).add (1 : Nat)).add (0 : Nat))).add (1 : Nat)) [SV.int IntKind.i64 (intAt w0 (((ptrAt w0 ((((A.getD default).add (0 : Nat)).add (1 : Nat)).add (0 : Nat))).add (1 : Nat)).add (0 : Nat))) false])
      (.split (intAt w0 (((ptrAt w0 ((((A.getD default).add (0 : Nat)).add (1 : Nat)).add (0 : Nat))).add (1 : Nat)).add (0 : Nat)) == (4 : Int))
       (.need ((0 : Int) ≤ (0 : Int) ∧ (0 : Int) < (↑n : Int))
       (.need (A.isSome = true)
       (.call 46 [(.xp ((A.getD default).add (0 : Nat)))] (SS.mk [] [] true w0 b0) (Hook.X (uvHook)) (Hook.out (uvHook) [(.xp ((A.getD default).add (0 : Nat)))] (SS.mk [] [] true w0 b0)) fun x1 w1 b1 =>
       (.call 51 [(.xs x1.A x1.k x1.c)] (SS.mk [] [] true w1 b1) (Hook.X (boolHook)) (Hook.out (boolHook) [(.xs x1.A x1.k x1.c)] (SS.mk [] [] true w1 b1)) fun x2 w2 b2 =>
       (.leaf .ret [(.bool x2 false)] (SS.mk [] [] true w2 b2))))))
       (.split (intAt w0 (((ptrAt w0 ((((A.getD default).add (0 : Nat)).add (1 : Nat)).add (0 : Nat))).add (1 : Nat)).add (0 : Nat)) == (41 : Int))
        (.need ((0 : Int) ≤ (0 : Int) ∧ (0 : Int) < (↑n : Int))
        (.need (A.isSome = true)
        (.call 46 [(.xp ((A.getD default).add (0 : Nat)))] (SS.mk [] [] true w0 b0) (Hook.X (uvHook)) (Hook.out (uvHook) [(.xp ((A.getD default).add (0 : Nat)))] (SS.mk [] [] true w0 b0)) fun x1 w1 b1 =>
        (.call 51 [(.xs x1.A x1.k x1.c)] (SS.mk [] [] true w1 b1) (Hook.X (boolHook)) (Hook.out (boolHook) [(.xs x1.A x1.k x1.c)] (SS.mk [] [] true w1 b1)) fun x2 w2 b2 =>
        (.leaf .ret [(.bool x2 false)] (SS.mk [] [] true w2 b2))))))
        (.leaf .ret [(.bool false true)] (SS.mk [] [] true w0 b0))))))))))
     (.need ((0 : Int) ≤ (1 : Int) ∧ (1 : Int) ≤ (↑c : Int))
     (.need ((0 : Int) ≤ (1 : Int) ∧ (1 : Int) ≤ (↑n : Int))
     (.split false
      (.leaf .ret [(.bool false true)] (SS.mk [] [] true w0 b0))
      (.need ((0 : Int) ≤ (0 : Int) ∧ (0 : Int) < (↑(1 : Nat) : Int))
      (.need ((if c = (0 : Nat) then A else Option.map (fun x => x.add (0 : Nat)) A).isSome = true)
      (.need (canRead w0 b0 ((((if c = (0 : Nat) then A else Option.map (fun x => x.add (0 : Nat)) A).getD default).add (0 : Nat)).add (1 : Nat)) [SV.xp (ptrAt w0 (((((if c = (0 : Nat) then A else Option.map (fun x => x.add (0 : Nat)) A).getD default).add (0 : Nat)).add (1 : Nat)).add (0 : Nat)))])
      (.need (canRead w0 b0 ((((if c = (0 : Nat) then A else Option.map (fun x => x.add (0 : Nat)) A).getD default).add (0 : Nat)).add (1 : Nat)) [SV.xp (ptrAt w0 (((((if c = (0 : Nat) then A else Option.map (fun x => x.add (0 : Nat)) A).getD default).add (0 : Nat)).add (1 : Nat)).add (0 : Nat)))])
      (.need (canRead w0 b0 ((ptrAt w0 (((((if c = (0 : Nat) then A else Option.map (fun x => x.add (0 : Nat)) A).getD default).add (0 : Nat)).add (1 : Nat)).add (0 : Nat))).add (1 : Nat)) [SV.int IntKind.i64 (intAt w0 (((ptrAt w0 (((((if c = (0 : Nat) then A else Option.map (fun x => x.add (0 : Nat)) A).getD default).add (0 : Nat)).add (1 : Nat)).add (0 : Nat))).add (1 : Nat)).add (0 : Nat))) false])
      (.split (intAt w0 (((ptrAt w0 (((((if c = (0 : Nat) then A else Option.map (fun x => x.add (0 : Nat)) A).getD default).add (0 : Nat)).add (1 : Nat)).add (0 : Nat))).add (1 : Nat)).add (0 : Nat)) == (4 : Int))
       (.need ((0 : Int) ≤ (0 : Int) ∧ (0 : Int) < (↑(1 : Nat) : Int))
       (.need ((if c = (0 : Nat) then A else Option.map (fun x => x.add (0 : Nat)) A).isSome = true)
       (.call 46 [(.xp (((if c = (0 : Nat) then A else Option.map (fun x => x.add (0 : Nat)) A).getD default).add (0 : Nat)))] (SS.mk [] [] true w0 b0) (Hook.X (uvHook)) (Hook.out (uvHook) [(.xp (((if c = (0 : Nat) then A else Option.map (fun x => x.add (0 : Nat)) A).getD default).add (0 : Nat)))] (SS.mk [] [] true w0 b0)) fun x1 w1 b1 =>
       (.call 51 [(.xs x1.A x1.k x1.c)] (SS.mk [] [] true w1 b1) (Hook.X (boolHook)) (Hook.out (boolHook) [(.xs x1.A x1.k x1.c)] (SS.mk [] [] true w1 b1)) fun x2 w2 b2 =>
       (.leaf .ret [(.bool x2 false)] (SS.mk [] [] true w2 b2))))))
       (.split (intAt w0 (((ptrAt w0 (((((if c = (0 : Nat) then A else Option.map (fun x => x.add (0 : Nat)) A).getD default).add (0 : Nat)).add (1 : Nat)).add (0 : Nat))).add (1 : Nat)).add (0 : Nat)) == (41 : Int))
        (.need ((0 : Int) ≤ (0 : Int) ∧ (0 : Int) < (↑(1 : Nat) : Int))
        (.need ((if c = (0 : Nat) then A else Option.map (fun x => x.add (0 : Nat)) A).isSome = true)
        (.call 46 [(.xp (((if c = (0 : Nat) then A else Option.map (fun x => x.add (0 : Nat)) A).getD default).add (0 : Nat)))] (SS.mk [] [] true w0 b0) (Hook.X (uvHook)) (Hook.out (uvHook) [(.xp (((if c = (0 : Nat) then A else Option.map (fun x => x.add (0 : Nat)) A).getD default).add (0 : Nat)))] (SS.mk [] [] true w0 b0)) fun x1 w1 b1 =>
        (.call 51 [(.xs x1.A x1.k x1.c)] (SS.mk [] [] true w1 b1) (Hook.X (boolHook)) (Hook.out (boolHook) [(.xs x1.A x1.k x1.c)] (SS.mk [] [] true w1 b1)) fun x2 w2 b2 =>
        (.leaf .ret [(.bool x2 false)] (SS.mk [] [] true w2 b2))))))
        (.leaf .ret [(.bool false true)] (SS.mk [] [] true w0 b0)))))))))))))))) := by kernel_rfl
set_option maxRecDepth 100000 in
theorem t34 (A : Option Addr) (n c : Nat) (w : World) : xFunc Tryz.prog hk34 500 34 [.xs A n c] (SS.mk [] [] true w []) =
  (.call 48 [(.xs A n c)] (SS.mk [] [] true w []) (Hook.X (sameHook)) (Hook.out (sameHook) [(.xs A n c)] (SS.mk [] [] true w [])) fun x0 w0 b0 =>
  (.split A.isNone
   (.leaf .ret [(.bool false true)] (SS.mk [] [] true w0 b0))
   (.call 41 [(.xs A n c)] (SS.mk [] [] true w0 b0) (Hook.X (uvHook)) (Hook.out (uvHook) [(.xs A n c)] (SS.mk [] [] true w0 b0)) fun x1 w1 b1 =>
   (.split ((↑x1.k : Int) == (0 : Int))
    (.leaf .ret [(.bool false true)] (SS.mk [] [] true w1 b1))
    (.need ((0 : Int) ≤ (0 : Int) ∧ (0 : Int) < (↑x1.k : Int))
    (.need (x1.A.isSome = true)
    (.need (canRead w1 b1 (((x1.A.getD default).add (0 : Nat)).add (1 : Nat)) [SV.int IntKind.i64 (intAt w1 ((((x1.A.getD default).add (0 : Nat)).add (1 : Nat)).add (0 : Nat))) false])
    (.split (intAt w1 ((((x1.A.getD default).add (0 : Nat)).add (1 : Nat)).add (0 : Nat)) != (4 : Int))
     (.need ((0 : Int) ≤ (0 : Int) ∧ (0 : Int) < (↑x1.k : Int))
     (.need (x1.A.isSome = true)
     (.need (canRead w1 b1 (((x1.A.getD default).add (0 : Nat)).add (1 : Nat)) [SV.int IntKind.i64 (intAt w1 ((((x1.A.getD default).add (0 : Nat)).add (1 : Nat)).add (0 : Nat))) false])
     (.split (intAt w1 ((((x1.A.getD default).add (0 : Nat)).add (1 : Nat)).add (0 : Nat)) != (41 : Int))
      (.leaf .ret [(.bool false true)] (SS.mk [] [] true w1 b1))
      (.split ((↑x1.k : Int) == (1 : Int))
       (.leaf .ret [(.bool true true)] (SS.mk [] [] true w1 b1))
       (.need ((0 : Int) ≤ (1 : Int) ∧ (1 : Int) < (↑x1.k : Int))
       (.need (x1.A.isSome = true)
       (.need (canRead w1 b1 (((x1.A.getD default).add (6 : Nat)).add (1 : Nat)) [SV.int IntKind.i64 (intAt w1 ((((x1.A.getD default).add (6 : Nat)).add (1 : Nat)).add (0 : Nat))) false])
       (.split (intAt w1 ((((x1.A.getD default).add (6 : Nat)).add (1 : Nat)).add (0 : Nat)) == (6 : Int))
        (.leaf .ret [(.bool true true)] (SS.mk [] [] true w1 b1))
        (.split (intAt w1 ((((x1.A.getD default).add (6 : Nat)).add (1 : Nat)).add (0 : Nat)) == (273 : Int))
         (.leaf .ret [(.bool true true)] (SS.mk [] [] true w1 b1))
         (.split (intAt w1 ((((x1.A.getD default).add (6 : Nat)).add (1 : Nat)).add (0 : Nat)) == (4 : Int))
          (.leaf .ret [(.bool true true)] (SS.mk [] [] true w1 b1))
          (.split (intAt w1 ((((x1.A.getD default).add (6 : Nat)).add (1 : Nat)).add (0 : Nat)) == (41 : Int))
           (.leaf .ret [(.bool true true)] (SS.mk [] [] true w1 b1))
           (.leaf .ret [(.bool false true)] (SS.mk [] [] true w1 b1))))))))))))))
     (.split ((↑x1.k : Int) == (1 : Int))
      (.leaf .ret [(.bool true true)] (SS.mk [] [] true w1 b1))
      (.need ((0 : Int) ≤ (1 : Int) ∧ (1 : Int) < (↑x1.k : Int))
      (.need (x1.A.isSome = true)
      (.need (canRead w1 b1 (((x1.A.getD default).add (6 : Nat)).add (1 : Nat)) [SV.int IntKind.i64 (intAt w1 ((((x1.A.getD default).add (6 : Nat)).add (1 : Nat)).add (0 : Nat))) false])
      (.split (intAt w1 ((((x1.A.getD default).add (6 : Nat)).add (1 : Nat)).add (0 : Nat)) == (6 : Int))
       (.leaf .ret [(.bool true true)] (SS.mk [] [] true w1 b1))
       (.split (intAt w1 ((((x1.A.getD default).add (6 : Nat)).add (1 : Nat)).add (0 : Nat)) == (273 : Int))
        (.leaf .ret [(.bool true true)] (SS.mk [] [] true w1 b1))
        (.split (intAt w1 ((((x1.A.getD default).add (6 : Nat)).add (1 : Nat)).add (0 : Nat)) == (4 : Int))
         (.leaf .ret [(.bool true true)] (SS.mk [] [] true w1 b1))
         (.split (intAt w1 ((((x1.A.getD default).add (6 : Nat)).add (1 : Nat)).add (0 : Nat)) == (41 : Int))
          (.leaf .ret [(.bool true true)] (SS.mk [] [] true w1 b1))
          (.leaf .ret [(.bool false true)] (SS.mk [] [] true w1 b1)))))))))))))))))) := by kernel_rfl


theorem to4_c (A : Option Addr) (c : Nat) (w : World) : Calls Tryz.prog 72 #[.slice A 4 c] w (Ret (fun v _ => v = .slice A 4 c) w) := by
  refine funF (hk := hk72) (n := 500) (args := [.xs A 4 c]) ⟨trivial, trivial⟩ ?_
  refine holds_eq (t72 A 4 c w) ?_
  exact splitT (fun _ => retF (Fine.start _ _) fun β w' _ _ => rfl) (fun h => absurd h (by decide))

theorem loop51_c (A : Option Addr) (c : Nat) (l : List UInt8) (B : Nat) (w : World) (h : Bts w B A 4 (127 :: l)) (hB : B ≤ w.heap.size) : Calls Tryz.prog 51 #[.slice A 4 c] w (Ret (BoolQ fun b => b = true) w) := by
  refine funF (hk := hk51) (n := 500) (args := [.xs A 4 c]) ⟨trivial, trivial⟩ ?_
  refine holds_eq (t51 A 4 c w) ?_
  refine call0 (R := fun _ _ _ => True) (fun x => ⟨rfl, trivial⟩) (fun β wc hk => ?_) ?_
  · refine (to4_c A c wc).mono ?_
    rintro e w' ⟨v, rfl, rfl, hb⟩
    exact ⟨(), rfl, hb, trivial⟩
  rintro ⟨⟩ wc w1 hk _ hb
  have hw1 : Below w.heap.size w w1 := hk.trans (hb.mono hk.size)
  obtain ⟨ad, x, rfl, had, hx, hR⟩ := (h.below (hw1.mono hB) (Nat.le_refl _)).get (i := 0) (by omega)
  simp at hx
  subst hx
  have hc : w1.cell? (ad.add 0) = some (.int .u8 127) := hR
  have f1 : intAt w1 ((((some ad).getD default).add 0).add 0) = 127 := by
    show intAt w1 (ad.add 0) = 127
    simp [intAt, hc]
  refine splitT (fun _ => ?_) (fun hn => by simp at hn)
  refine needT (by omega) (needT rfl (needT ?_ (retF (Fine.nil hw1) fun β w' _ _ => ⟨_, rfl, ?_⟩)))
  · rw [f1]
    exact canRead1 (by show (ad.add 0).block < _; rw [add_block]; exact Nat.lt_of_lt_of_le had (Nat.le_trans hB hw1.size)) (by simp) hc
  · rw [f1]; rfl

theorem raw46_c (a : Addr) (x : Comp) (B : Nat) (w : World) (h : CellsAt (MaR w B) w B a x) (hB : B ≤ w.heap.size) :
    Calls Tryz.prog 46 #[.pointer (some a)] w (Ret (fun v w' => ∃ A k c, v = .slice A k c ∧ Bts (Rx.since w w') w'.heap.size A k x.val) w) := by
  refine funF (hk := noHk) (n := 500) (args := [.xp a]) ⟨trivial, trivial⟩ ?_
  refine holds_eq (t46 a w) ?_
  obtain ⟨hb, vs, ⟨pr, p, rfl, hp, hpl⟩, hc⟩ := h
  have c0 : w.cell? (a.add 0) = some (.string ⟨(pr ++ x.val).toArray⟩) := hc 0 _ rfl
  have c2 : w.cell? (a.add 2) = some (.int .i64 (pr.length : Int)) := hc 2 _ rfl
  have e0 : strAt w ((a.add 0).add 0) = ⟨(pr ++ x.val).toArray⟩ := by
    show strAt w (a.add 0) = _
    simp [strAt, c0]
  have e2 : intAt w ((a.add 2).add 0) = (pr.length : Int) := by
    show intAt w (a.add 2) = _
    simp [intAt, c2]
  refine needT (canRead1 (by rw [add_block]; omega) (by simp) ?_) (needT (canRead1 (by rw [add_block]; omega) (by simp) ?_) (needT ?_ (chooseT ?_)))
  · rw [e0]; exact c0
  · rw [e2]; exact c2
  · rw [e0, e2]
    exact ⟨by omega, by simp [ByteArray.size]; omega⟩
  rintro cc ⟨t, hcc⟩
  refine retF (Fine.start w _) fun β w' hst hb => ?_
  have o := hst.old rfl
  have h0 := hst.at_ 0 _ rfl
  have hfr : Fresh w (some ⟨β 0, 0, none⟩) := fun a ha => by
    cases ha
    exact (Fine.start w _).new o 0 (by simp [SS.n])
  rw [e0, e2] at h0
  refine ⟨some ⟨β 0, 0, none⟩, x.val.length, cc, ?_, ?_⟩
  · simp only [SV.den, denL]
    rw [e0, e2]
    simp [ByteArray.size_extract, ByteArray.size]
  · have hL := bts_of_ints (k := x.val.length) h0 ?_ ?_ (hst.lt 0 (by simp [SS.n]))
    · refine Bts.since ?_ hfr
      refine cast ?_ hL
      congr 1
      simp [ByteArray.size, Function.comp_def]
    · intro v hv
      rcases List.mem_append.1 hv with h | h
      · obtain ⟨b, _, rfl⟩ := List.mem_map.1 h
        have := b.toNat_lt
        omega
      · have := List.eq_of_mem_replicate h
        omega
    · simp [ByteArray.size]

/-- The code of a component of the package, as it is read. -/
theorem codeRead {w : World} {B : Nat} {a : Addr} {x : Comp} (h : CellsAt (MaR w B) w B a x) (hB : B ≤ w.heap.size) :
    canRead w [] ((a.add 0).add 1) [SV.xp (ptrAt w (((a.add 0).add 1).add 0))] ∧ canRead w [] ((ptrAt w (((a.add 0).add 1).add 0)).add 1) [SV.int IntKind.i64 (intAt w (((ptrAt w (((a.add 0).add 1).add 0)).add 1).add 0)) false] ∧
      intAt w (((ptrAt w (((a.add 0).add 1).add 0)).add 1).add 0) = x.code := by
  obtain ⟨hb, vs, ⟨pr, p, rfl, ⟨hp, y, hy⟩, hpl⟩, hc⟩ := h
  have c1 : w.cell? (a.add 1) = some (.pointer (some p)) := hc 1 _ rfl
  have d1 : w.cell? (p.add 1) = some (.int .i64 x.code) := hy 1 _ rfl
  have e1 : ptrAt w (((a.add 0).add 1).add 0) = p := by
    show ptrAt w (a.add 1) = p
    simp [ptrAt, c1]
  have e2 : intAt w ((p.add 1).add 0) = x.code := by
    show intAt w (p.add 1) = _
    simp [intAt, d1]
  rw [e1, e2]
  exact ⟨canRead1 (by show (a.add 1).block < _; rw [add_block]; omega) (by simp) c1, canRead1 (by rw [add_block]; omega) (by simp) d1, rfl⟩

theorem ifz {c : Nat} {ad : Addr} (hc : 1 ≤ c) : (if c = 0 then some ad else Option.map (fun x => x.add 0) (some ad)) = some (ad.add 0) := by
  rw [if_neg (by omega)]; rfl

theorem zoneless_c (A : Option Addr) (n c : Nat) (x : Comp) (l : List Comp) (B : Nat) (w : World) (h : RowAt MaR 3 w B A n (x :: l)) (hx : x.code ≠ 42) (hcap : n ≤ c) (hB : B ≤ w.heap.size) :
    Calls Tryz.prog 48 #[.slice A n c] w (Ret (fun v _ => v = .slice A n c) w) := by
  have hn := h.1
  simp only [List.length_cons] at hn
  obtain ⟨ad, x', rfl, had, hx', hR⟩ := h.get (i := 0) (by omega)
  simp at hx'
  subst hx'
  rw [Nat.zero_mul, Rx.add_zero] at hR
  obtain ⟨r1, r2, r3⟩ := codeRead hR hB
  refine funF (hk := noHk) (n := 500) (args := [.xs (some ad) n c]) ⟨trivial, trivial⟩ ?_
  refine holds_eq (t48 (some ad) n c w) ?_
  rw [ifz (by omega)]
  refine splitT (fun h0 => by simp at h0; omega) (fun _ => splitT (fun _ => splitT (fun h0 => by simp at h0; omega) (fun _ => ?_)) (fun _ => ?_))
  · refine needT (by omega) (needT rfl (needT r1 (needT r1 (needT r2 (splitT (fun h42 => ?_) (fun _ => retF (Fine.start _ _) fun β w' _ _ => rfl))))))
    exact absurd (r3.symm.trans (eq_of_beq h42)) hx
  · refine needT (by omega) (needT (by omega) (splitT (fun h => by cases h) (fun _ => needT (by omega) (needT rfl (needT r1 (needT r1 (needT r2 (splitT (fun h42 => ?_) (fun _ => retF (Fine.start _ _) fun β w' _ _ => rfl)))))))))
    exact absurd (r3.symm.trans (eq_of_beq h42)) hx

theorem protCode {w : World} {B : Nat} {a : Addr} {x : Comp} (h : CellsAt (ProtR w B) w B a x) (hB : B ≤ w.heap.size) : canRead w [] (a.add 1) [SV.int IntKind.i64 (intAt w ((a.add 1).add 0)) false] ∧ intAt w ((a.add 1).add 0) = x.code := by
  obtain ⟨hb, vs, ⟨y, rfl⟩, hc⟩ := h
  have c1 : w.cell? (a.add 1) = some (.int .i64 x.code) := hc 1 _ rfl
  have e1 : intAt w ((a.add 1).add 0) = x.code := by
    show intAt w (a.add 1) = _
    simp [intAt, c1]
  rw [e1]
  exact ⟨canRead1 (by rw [add_block]; omega) (by simp) c1, rfl⟩

theorem thinWaist_c (A : Option Addr) (n c : Nat) (x y : Comp) (l : List Comp) (B : Nat) (w : World) (h : RowAt MaR 3 w B A n (x :: y :: l)) (hx : x.code = 4) (hy : y.code = 273) (hcap : n ≤ c) (hn40 : (n : Int) < 2 ^ 40) (hB : B ≤ w.heap.size) :
    Calls Tryz.prog 34 #[.slice A n c] w (Ret (BoolQ fun b => b = true) w) := by
  have hn := h.1
  simp only [List.length_cons] at hn
  obtain ⟨ad, x', rfl, had, hx', hR⟩ := h.get (i := 0) (by omega)
  refine funF (hk := hk34) (n := 500) (args := [.xs (some ad) n c]) ⟨trivial, trivial⟩ ?_
  refine holds_eq (t34 (some ad) n c w) ?_
  refine call0 (R := fun _ _ _ => True) (fun x => ⟨rfl, trivial⟩) (fun β wc hk => ?_) ?_
  · refine (zoneless_c (some ad) n c x (y :: l) B wc (h.sub MaR.lasts (Below.sub (hk.mono hB)) (Nat.le_refl _)) (by rw [hx]; decide) hcap (Nat.le_trans hB hk.size)).mono ?_
    rintro e w' ⟨v, rfl, rfl, hb⟩
    exact ⟨(), rfl, hb, trivial⟩
  rintro ⟨⟩ wc w1 hk _ hb
  have hw1 : Below w.heap.size w w1 := hk.trans (hb.mono hk.size)
  refine splitT (fun h => by cases h) (fun _ => ?_)
  refine row0 (R := ProtR) (size := 6) (l := x :: y :: l) rfl (fun β wc hk => ?_) ?_
  · have hb := hw1.trans (hk.mono hw1.size)
    exact protocols_c (some ad) n c (x :: y :: l) B wc (h.sub MaR.lasts (Below.sub (hb.mono hB)) (Nat.le_refl _)) (Nat.le_trans hB hb.size) hn40
  rintro ⟨A1, k1, c1⟩ wc2 w2 hk2 hb2 hp
  dsimp only at hp
  have hw2 : Below w.heap.size w w2 := (hw1.trans (hk2.mono hw1.size)).trans (hb2.mono (Nat.le_trans hw1.size hk2.size))
  have hpl := hp.1
  simp only [List.length_cons] at hpl
  have hp' : RowAt ProtR 6 w2 w2.heap.size A1 k1 (x :: y :: l) := hp.sub ProtR.lasts (since_sub _ _ _) (Nat.le_refl _)
  obtain ⟨a1, z, rfl, ha1, hz, hRz⟩ := hp'.get (i := 0) (by omega)
  obtain ⟨a1', z', ha1', _, hz', hRz'⟩ := hp'.get (i := 1) (by omega)
  cases ha1'
  simp at hz hz'
  subst hz hz'
  rw [Nat.zero_mul] at hRz
  rw [Nat.one_mul] at hRz'
  obtain ⟨q1, q2⟩ := protCode hRz (Nat.le_refl _)
  obtain ⟨q3, q4⟩ := protCode hRz' (Nat.le_refl _)
  rw [hx] at q2
  rw [hy] at q4
  have q2' : intAt w2 ((((some a1 : Option Addr).getD default).add 0).add 1 |>.add 0) = 4 := q2
  have q4' : intAt w2 ((((some a1 : Option Addr).getD default).add 6).add 1 |>.add 0) = 273 := q4
  rw [q2', q4']
  have g1 : canRead w2 [] ((((some a1 : Option Addr).getD default).add 0).add 1) [SV.int IntKind.i64 4 false] := by
    rw [q2] at q1; exact q1
  have g3 : canRead w2 [] ((((some a1 : Option Addr).getD default).add 6).add 1) [SV.int IntKind.i64 273 false] := by
    rw [q4] at q3; exact q3
  have fin : ∀ lit, ((T.leaf .ret [(.bool true lit)] (SS.mk [] [] true w2 []))).holds (ctx Tryz.prog (retQ fun v w' => BoolQ (fun b => b = true) v w' ∧ Below w.heap.size w w')) := fun lit => retF (Fine.nil hw2) fun β w' _ _ => ⟨_, rfl, rfl⟩
  refine splitT (fun h => by
    have h' : ((k1 : Int) == 0) = true := h
    simp at h'
    omega) (fun _ => needT (by show (0 : Int) ≤ 0 ∧ (0 : Int) < (k1 : Int); omega) (needT rfl (needT g1 (splitT (fun h => by simp at h) (fun _ => splitT (fun _ => fin _) (fun _ => needT (by show (0 : Int) ≤ 1 ∧ (1 : Int) < (k1 : Int); omega) (needT rfl (needT g3 (splitT (fun _ => fin _) (fun _ => splitT (fun _ => fin _) (fun h => by simp at h)))))))))))

theorem loopback_c (yes : Bool) (A : Option Addr) (n c : Nat) (x : Comp) (l : List Comp) (B : Nat) (w : World) (h : RowAt MaR 3 w B A n (x :: l)) (hx : (yes = true ∧ x.code = 4 ∧ ∃ a b d, x.val = [127, a, b, d]) ∨ (yes = false ∧ x.code = 273)) (hcap : n ≤ c) (hB : B ≤ w.heap.size) :
    Calls Tryz.prog 35 #[.slice A n c] w (Ret (BoolQ fun b => b = yes) w) := by
  have hn := h.1
  simp only [List.length_cons] at hn
  obtain ⟨ad, x', rfl, had, hx', hR⟩ := h.get (i := 0) (by omega)
  simp at hx'
  subst hx'
  refine funF (hk := hk35) (n := 500) (args := [.xs (some ad) n c]) ⟨trivial, trivial⟩ ?_
  refine holds_eq (t35 (some ad) n c w) ?_
  rw [ifz (by omega)]
  refine call0 (R := fun _ _ _ => True) (fun x => ⟨rfl, trivial⟩) (fun β wc hk => ?_) ?_
  · refine (zoneless_c (some ad) n c x l B wc (h.sub MaR.lasts (Below.sub (hk.mono hB)) (Nat.le_refl _)) (by rcases hx with ⟨_, h, _⟩ | ⟨_, h⟩ <;> rw [h] <;> decide) hcap (Nat.le_trans hB hk.size)).mono ?_
    rintro e w' ⟨v, rfl, rfl, hb⟩
    exact ⟨(), rfl, hb, trivial⟩
  rintro ⟨⟩ wc w1 hk _ hb
  have hw1 : Below w.heap.size w w1 := hk.trans (hb.mono hk.size)
  have hB1 : B ≤ w1.heap.size := Nat.le_trans hB hw1.size
  obtain ⟨ad', x', ha', _, hx', hR⟩ := (h.sub MaR.lasts (Below.sub (hw1.mono hB)) (Nat.le_refl _)).get (i := 0) (by omega)
  cases ha'
  simp at hx'
  subst hx'
  rw [Nat.zero_mul, Rx.add_zero] at hR
  obtain ⟨r1, r2, r3⟩ := codeRead hR hB1
  have tail : yes = true → x.code = 4 → (∃ a b d, x.val = [127, a, b, d]) → ∀ (k : Bool → World → List Nat → T), (∀ b w2 bs, b = true → Below w.heap.size w w2 → (∀ b ∈ bs, w.heap.size ≤ b) → (k b w2 bs).holds (ctx Tryz.prog (retQ fun v w' => BoolQ (fun b => b = yes) v w' ∧ Below w.heap.size w w'))) →
      (T.call 46 [(.xp (ad.add 0))] (SS.mk [] [] true w1 []) (Hook.X (uvHook)) (Hook.out (uvHook) [(.xp (ad.add 0))] (SS.mk [] [] true w1 [])) fun x1 w1 b1 =>
        (.call 51 [(.xs x1.A x1.k x1.c)] (SS.mk [] [] true w1 b1) (Hook.X (boolHook)) (Hook.out (boolHook) [(.xs x1.A x1.k x1.c)] (SS.mk [] [] true w1 b1)) k)).holds (ctx Tryz.prog (retQ fun v w' => BoolQ (fun b => b = yes) v w' ∧ Below w.heap.size w w')) := by
    rintro hyes hx4 ⟨a, b, d, hval⟩ k hk'
    refine call0 (R := fun (z : UV) wc w' => Bts (Rx.since wc w') w'.heap.size z.A z.k x.val) (fun z => ⟨rfl, trivial⟩) (fun β wc hkc => ?_) ?_
    · refine (raw46_c (ad.add 0) x B wc (hR.sub (Below.sub (hkc.mono hB1)) (Nat.le_refl _) fun y vs hy => MaR.sub _ _ _ _ _ _ (Below.sub (hkc.mono hB1)) (Nat.le_refl _) hy) (Nat.le_trans hB1 hkc.size)).mono ?_
      rintro e w' ⟨v, rfl, ⟨A3, k3, c3, rfl, h5⟩, hb'⟩
      exact ⟨⟨A3, k3, c3⟩, rfl, hb', h5⟩
    rintro ⟨A2, k2, c2⟩ wc2 w2 hk2 hr hb2
    dsimp only at hr ⊢
    have hw2 : Below w.heap.size w w2 := (hw1.trans (hk2.mono hw1.size)).trans (hb2.mono (Nat.le_trans hw1.size hk2.size))
    have hk4 : k2 = 4 := by rw [hr.1, hval]; rfl
    subst hk4
    rw [hval] at hr
    refine boolCallR (fun b => b = true) (Fine.nil hw2) rfl (fun β w3 hb3 hst3 o3 => ?_) (fun b w3 bs hbt hb3 hbs => hk' b w3 bs hbt hb3 hbs)
    refine loop51_c A2 c2 [a, b, d] w2.heap.size w3 (hr.sub ((since_sub _ _ _).trans fun a v hlt hv => ?_) (Nat.le_refl _)) o3.sz
    have h3 := o3.fr a.block hlt (fun i hi => absurd hi (Nat.not_lt_zero i))
    simp only [World.cell?, h3] at hv ⊢
    exact hv
  have fin : ∀ b w2 bs lit, b = true → yes = true → Below w.heap.size w w2 → (∀ b ∈ bs, w.heap.size ≤ b) → (T.leaf .ret [(.bool b lit)] (SS.mk [] [] true w2 bs)).holds (ctx Tryz.prog (retQ fun v w' => BoolQ (fun b => b = yes) v w' ∧ Below w.heap.size w w')) := fun b w2 bs lit hb hy hw2 hbs => retF (Fine.mk' hw2 hbs) fun β w' _ _ => ⟨_, rfl, by rw [hb, hy]⟩
  have none' : yes = false → (T.leaf .ret [(.bool false true)] (SS.mk [] [] true w1 [])).holds (ctx Tryz.prog (retQ fun v w' => BoolQ (fun b => b = yes) v w' ∧ Below w.heap.size w w')) := fun hy => retF (Fine.nil hw1) fun β w' _ _ => ⟨_, rfl, by rw [hy]⟩
  have both : ∀ p : Prop, p → ∀ t : T, t.holds (ctx Tryz.prog (retQ fun v w' => BoolQ (fun b => b = yes) v w' ∧ Below w.heap.size w w')) → (T.need p t).holds (ctx Tryz.prog (retQ fun v w' => BoolQ (fun b => b = yes) v w' ∧ Below w.heap.size w w')) := fun p hp t ht => needT hp ht
  refine splitT (fun h => by cases h) (fun _ => splitT (fun h => by simp at h; omega) (fun _ => splitT (fun _ => splitT (fun h => by simp at h; omega) (fun _ => ?_)) (fun _ => ?_)))
  · refine needT (by omega) (needT rfl (needT r1 (needT r1 (needT r2 ?_))))
    rcases hx with ⟨hy, h4, hval⟩ | ⟨hy, h273⟩
    · refine splitT (fun _ => needT (by omega) (needT rfl (tail hy h4 hval _ fun b w2 bs hb hw2 hbs => fin b w2 bs _ hb hy hw2 hbs))) (fun h => ?_)
      exact absurd (r3.trans h4) (beq_eq_false_iff_ne.1 h)
    · refine splitT (fun h => ?_) (fun _ => splitT (fun h => ?_) (fun _ => none' hy))
      · have h' : intAt w1 (((ptrAt w1 (((ad.add 0).add 1).add 0)).add 1).add 0) = 4 := eq_of_beq h
        rw [r3, h273] at h'; cases h'
      · have h' : intAt w1 (((ptrAt w1 (((ad.add 0).add 1).add 0)).add 1).add 0) = 41 := eq_of_beq h
        rw [r3, h273] at h'; cases h'
  · refine needT (by omega) (needT (by omega) (splitT (fun h => by cases h) (fun _ => needT (by omega) (needT rfl (needT r1 (needT r1 (needT r2 ?_)))))))
    rcases hx with ⟨hy, h4, hval⟩ | ⟨hy, h273⟩
    · refine splitT (fun _ => needT (by omega) (needT rfl (tail hy h4 hval _ fun b w2 bs hb hw2 hbs => fin b w2 bs _ hb hy hw2 hbs))) (fun h => ?_)
      exact absurd (r3.trans h4) (beq_eq_false_iff_ne.1 h)
    · refine splitT (fun h => ?_) (fun _ => splitT (fun h => ?_) (fun _ => none' hy))
      · have h' : intAt w1 (((ptrAt w1 (((ad.add 0).add 1).add 0)).add 1).add 0) = 4 := eq_of_beq h
        rw [r3, h273] at h'; cases h'
      · have h' : intAt w1 (((ptrAt w1 (((ad.add 0).add 1).add 0)).add 1).add 0) = 41 := eq_of_beq h
        rw [r3, h273] at h'; cases h'

end Go.Proofs.YtdmnoagahjbjhaaGreatDoor
