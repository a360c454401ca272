/- AddrMatch. -/
import Derived.Test.YtdmnoagahjbjhaaGreatDoorM11
import Derived.Test.YtdmnoagahjbjhaaGreatDoorRx5
set_option linter.unusedVariables false
set_option linter.unusedSimpArgs false
set_option maxRecDepth 20000
namespace Go.Proofs.YtdmnoagahjbjhaaGreatDoor
open Go Go.Rx Go.RowKit
def LM : SE → List Nat
  | .normal => [5, 6, 18, 19, 20]
  | .exit 0 => [6]
  | _ => []
def LI : SE → List Nat
  | .normal => [5, 6, 8, 10, 18, 19, 20, 31, 32, 33]
  | .exit 2 => [5, 6, 8, 10, 18, 19, 20]
  | _ => []
structure MC where
  A : Option Addr
  n : Nat
  c : Nat
  A' : Option Addr
  n' : Nat
  c' : Nat
structure MZ where
  i : Nat
  kk : Nat
  Ls : List Value
structure EZ where
  A : Option Addr
  n : Nat
  c : Nat
def mObjs (m : MC) (z : MZ) : List SObj := [.vals z.Ls (m.n' * 1) 47 0 0]
def mSvs (m : MC) (z : MZ) : List SV := [.xs m.A m.n m.c, .slc 0 0 z.kk m.n' false false, .xs m.A' m.n' m.c', .int .i64 m.n' false, .int .i64 z.i false]
def iSvs (m : MC) (z : MZ) (e : EZ) (b : Bool) : List SV := [.xs m.A m.n m.c, .slc 0 0 z.kk m.n' false false, .xs e.A e.n e.c, .bool b false, .xs m.A' m.n' m.c', .int .i64 m.n' false, .int .i64 z.i false]
def jSvs (m : MC) (z : MZ) (e : EZ) (p : UV) (j : Nat) : List SV := [.xs m.A m.n m.c, .slc 0 0 z.kk m.n' false false, .xs e.A e.n e.c, .bool true true, .xs m.A' m.n' m.c', .int .i64 m.n' false, .int .i64 z.i false, .xs p.A p.k p.c, .int .i64 p.k false, .int .i64 j false]
def lhI (m : MC) (z : MZ) (e : EZ) : LoopHook := mkHookT 54 Bool (.exit 2) [5, 6, 8, 10, 18, 19, 20] (iSvs m z e) (fun _ => mObjs m z) Unit .ret [] (fun _ => []) (fun _ => mObjs m z)
def hkI (m : MC) (z : MZ) (e : EZ) : Hooks := { calls := fun f => if f = 41 then some uvHook else none, loops := fun _ _ => some (lhI m z e) }
def lhM (m : MC) : LoopHook := mkHookT 54 MZ (.exit 0) [6] (fun z => [.slc 0 0 z.kk m.n' false false]) (mObjs m) Unit .ret [] (fun _ => []) (fun _ => mObjs m ⟨0, 0, []⟩)
def hkM (m : MC) : Hooks := { calls := fun f => if f = 41 then some uvHook else none, loops := fun _ _ => some (lhM m) }
set_option maxRecDepth 100000 in
theorem t22 (m : MC) (w : World) : xFunc Tryz.prog (hkM m) 1000 22 [.xs m.A m.n m.c, .xs m.A' m.n' m.c'] (SS.mk [] [] true w []) =
  (.call 41 [(.xs m.A m.n m.c)] (SS.mk [] [] true w []) (Hook.X (uvHook)) (Hook.out (uvHook) [(.xs m.A m.n m.c)] (SS.mk [] [] true w [])) fun x0 w0 b0 =>
  (.need ((0 : Int) ≤ (↑m.n' : Int) ∧ (↑(24 : Nat) : Int) * (↑m.n' : Int) ≤ (2 : Int) ^ (48 : Nat) ∧ (↑m.n' : Int) < (2 : Int) ^ (63 : Nat))
  (.loop 22 (loopOf Tryz.prog 22 5) ([(.xs m.A m.n m.c), (.xs m.A' m.n' m.c'), (.tup []), (.tup []), (.one (.slice none 0 0) rfl), (.xs x0.A x0.k x0.c), (.slc 0 0 0 ((↑m.n' : Int).toNat) true false), (.tup []), (.tup []), (.tup []), (.tup []), (.tup []), (.tup []), (.xs m.A m.n m.c), (.xs x0.A x0.k x0.c), (.xs m.A' m.n' m.c'), (.int .i64 ((↑m.n' : Int)) false), (.slc 0 0 0 ((↑m.n' : Int).toNat) true false), (.xs m.A' m.n' m.c'), (.int .i64 ((↑m.n' : Int)) false), (.int .i64 0 true)] ++ List.replicate 33 undefS) (SS.mk [(.vals [] ((↑m.n' : Int).toNat * (1 : Nat)) 47 0 0)] [] true w0 b0) (LoopHook.X (lhM m)) (LoopHook.out (lhM m) ([(.xs m.A m.n m.c), (.xs m.A' m.n' m.c'), (.tup []), (.tup []), (.one (.slice none 0 0) rfl), (.xs x0.A x0.k x0.c), (.slc 0 0 0 ((↑m.n' : Int).toNat) true false), (.tup []), (.tup []), (.tup []), (.tup []), (.tup []), (.tup []), (.xs m.A m.n m.c), (.xs x0.A x0.k x0.c), (.xs m.A' m.n' m.c'), (.int .i64 ((↑m.n' : Int)) false), (.slc 0 0 0 ((↑m.n' : Int).toNat) true false), (.xs m.A' m.n' m.c'), (.int .i64 ((↑m.n' : Int)) false), (.int .i64 0 true)] ++ List.replicate 33 undefS) (SS.mk [(.vals [] ((↑m.n' : Int).toNat * (1 : Nat)) 47 0 0)] [] true w0 b0)) (fun x1 w1 b1 =>
   (.leaf .ret [(.slc 0 0 x1.fst.kk m.n' false false)] (SS.mk [(.vals x1.fst.Ls (m.n' * (1 : Nat)) 47 0 0)] [] true w1 b1)))
  (LoopHook.Y (lhM m)) (LoopHook.out' (lhM m) ([(.xs m.A m.n m.c), (.xs m.A' m.n' m.c'), (.tup []), (.tup []), (.one (.slice none 0 0) rfl), (.xs x0.A x0.k x0.c), (.slc 0 0 0 ((↑m.n' : Int).toNat) true false), (.tup []), (.tup []), (.tup []), (.tup []), (.tup []), (.tup []), (.xs m.A m.n m.c), (.xs x0.A x0.k x0.c), (.xs m.A' m.n' m.c'), (.int .i64 ((↑m.n' : Int)) false), (.slc 0 0 0 ((↑m.n' : Int).toNat) true false), (.xs m.A' m.n' m.c'), (.int .i64 ((↑m.n' : Int)) false), (.int .i64 0 true)] ++ List.replicate 33 undefS) (SS.mk [(.vals [] ((↑m.n' : Int).toNat * (1 : Nat)) 47 0 0)] [] true w0 b0)) (fun x1 w1 b1 =>
   (.leaf .ret [(.raw (x1.snd (4 : Nat)))] (SS.mk [(.vals [] (m.n' * (1 : Nat)) 47 0 0)] [] true w1 b1)))))) := by kernel_rfl
set_option maxRecDepth 100000 in
theorem r22 (m : MC) (z : MZ) (e : EZ) (w : World) (bs : List Nat) (g : Nat → Value) : xCode Tryz.prog (hkI m z e) 1000 22 (loopOf Tryz.prog 22 5) (mkFrame ((LM .normal).zip (mSvs m z)) g 54 0) (fun e a s => .leaf e (sel LM e a) s) (SS.mk (mObjs m z) [] true w bs) =
  (.split (decide ((↑z.i : Int) < (↑m.n' : Int)))
   (.need ((0 : Int) ≤ (↑z.i : Int) ∧ (↑z.i : Int) < (↑m.n' : Int))
   (.need (m.A'.isSome = true)
   (.need (canRead w bs ((m.A'.getD default).add ((↑z.i : Int).toNat * (1 : Nat))) [SV.xs (slA w (((m.A'.getD default).add ((↑z.i : Int).toNat * (1 : Nat))).add (0 : Nat))) (slN w (((m.A'.getD default).add ((↑z.i : Int).toNat * (1 : Nat))).add (0 : Nat))) (slC w (((m.A'.getD default).add ((↑z.i : Int).toNat * (1 : Nat))).add (0 : Nat)))])
   (.call 41 [(.xs (slA w (((m.A'.getD default).add ((↑z.i : Int).toNat * (1 : Nat))).add (0 : Nat))) (slN w (((m.A'.getD default).add ((↑z.i : Int).toNat * (1 : Nat))).add (0 : Nat))) (slC w (((m.A'.getD default).add ((↑z.i : Int).toNat * (1 : Nat))).add (0 : Nat))))] (SS.mk [(.vals z.Ls (m.n' * (1 : Nat)) 47 0 0)] [] true w bs) (Hook.X (uvHook)) (Hook.out (uvHook) [(.xs (slA w (((m.A'.getD default).add ((↑z.i : Int).toNat * (1 : Nat))).add (0 : Nat))) (slN w (((m.A'.getD default).add ((↑z.i : Int).toNat * (1 : Nat))).add (0 : Nat))) (slC w (((m.A'.getD default).add ((↑z.i : Int).toNat * (1 : Nat))).add (0 : Nat))))] (SS.mk [(.vals z.Ls (m.n' * (1 : Nat)) 47 0 0)] [] true w bs)) fun x0 w0 b0 =>
   (.split ((↑m.n : Int) != (↑x0.k : Int))
    (.leaf .normal [(.xs m.A m.n m.c), (.slc 0 0 z.kk m.n' false false), (.xs m.A' m.n' m.c'), (.int .i64 ((↑m.n' : Int)) false), (.int .i64 (IntKind.i64.wrap ((↑z.i : Int) + (1 : Int))) false)] (SS.mk [(.vals z.Ls (m.n' * (1 : Nat)) 47 0 0)] [] true w0 b0))
    (.loop 22 (loopOf Tryz.prog 22 11) [(.raw (g (0 : Nat))), (.raw (g (1 : Nat))), (.raw (g (2 : Nat))), (.raw (g (3 : Nat))), (.raw (g (4 : Nat))), (.xs m.A m.n m.c), (.slc 0 0 z.kk m.n' false false), (.raw (g (7 : Nat))), (.xs (slA w (((m.A'.getD default).add ((↑z.i : Int).toNat * (1 : Nat))).add (0 : Nat))) (slN w (((m.A'.getD default).add ((↑z.i : Int).toNat * (1 : Nat))).add (0 : Nat))) (slC w (((m.A'.getD default).add ((↑z.i : Int).toNat * (1 : Nat))).add (0 : Nat)))), (.xs x0.A x0.k x0.c), (.bool true true), (.raw (g (11 : Nat))), (.raw (g (12 : Nat))), (.raw (g (13 : Nat))), (.raw (g (14 : Nat))), (.raw (g (15 : Nat))), (.raw (g (16 : Nat))), (.raw (g (17 : Nat))), (.xs m.A' m.n' m.c'), (.int .i64 ((↑m.n' : Int)) false), (.int .i64 ((↑z.i : Int)) false), (.bool true true), (.xp ((m.A'.getD default).add ((↑z.i : Int).toNat * (1 : Nat)))), (.xs (slA w (((m.A'.getD default).add ((↑z.i : Int).toNat * (1 : Nat))).add (0 : Nat))) (slN w (((m.A'.getD default).add ((↑z.i : Int).toNat * (1 : Nat))).add (0 : Nat))) (slC w (((m.A'.getD default).add ((↑z.i : Int).toNat * (1 : Nat))).add (0 : Nat)))), (.xs (slA w (((m.A'.getD default).add ((↑z.i : Int).toNat * (1 : Nat))).add (0 : Nat))) (slN w (((m.A'.getD default).add ((↑z.i : Int).toNat * (1 : Nat))).add (0 : Nat))) (slC w (((m.A'.getD default).add ((↑z.i : Int).toNat * (1 : Nat))).add (0 : Nat)))), (.xs x0.A x0.k x0.c), (.xs m.A m.n m.c), (.int .i64 ((↑m.n : Int)) false), (.xs x0.A x0.k x0.c), (.int .i64 ((↑x0.k : Int)) false), (.bool false true), (.xs x0.A x0.k x0.c), (.int .i64 ((↑x0.k : Int)) false), (.int .i64 0 true), (.raw (g (34 : Nat))), (.raw (g (35 : Nat))), (.raw (g (36 : Nat))), (.raw (g (37 : Nat))), (.raw (g (38 : Nat))), (.raw (g (39 : Nat))), (.raw (g (40 : Nat))), (.raw (g (41 : Nat))), (.raw (g (42 : Nat))), (.raw (g (43 : Nat))), (.raw (g (44 : Nat))), (.raw (g (45 : Nat))), (.raw (g (46 : Nat))), (.raw (g (47 : Nat))), (.raw (g (48 : Nat))), (.raw (g (49 : Nat))), (.raw (g (50 : Nat))), (.raw (g (51 : Nat))), (.raw (g (52 : Nat))), (.raw (g (53 : Nat)))] (SS.mk [(.vals z.Ls (m.n' * (1 : Nat)) 47 0 0)] [] true w0 b0) (LoopHook.X (lhI m z e)) (LoopHook.out (lhI m z e) [(.raw (g (0 : Nat))), (.raw (g (1 : Nat))), (.raw (g (2 : Nat))), (.raw (g (3 : Nat))), (.raw (g (4 : Nat))), (.xs m.A m.n m.c), (.slc 0 0 z.kk m.n' false false), (.raw (g (7 : Nat))), (.xs (slA w (((m.A'.getD default).add ((↑z.i : Int).toNat * (1 : Nat))).add (0 : Nat))) (slN w (((m.A'.getD default).add ((↑z.i : Int).toNat * (1 : Nat))).add (0 : Nat))) (slC w (((m.A'.getD default).add ((↑z.i : Int).toNat * (1 : Nat))).add (0 : Nat)))), (.xs x0.A x0.k x0.c), (.bool true true), (.raw (g (11 : Nat))), (.raw (g (12 : Nat))), (.raw (g (13 : Nat))), (.raw (g (14 : Nat))), (.raw (g (15 : Nat))), (.raw (g (16 : Nat))), (.raw (g (17 : Nat))), (.xs m.A' m.n' m.c'), (.int .i64 ((↑m.n' : Int)) false), (.int .i64 ((↑z.i : Int)) false), (.bool true true), (.xp ((m.A'.getD default).add ((↑z.i : Int).toNat * (1 : Nat)))), (.xs (slA w (((m.A'.getD default).add ((↑z.i : Int).toNat * (1 : Nat))).add (0 : Nat))) (slN w (((m.A'.getD default).add ((↑z.i : Int).toNat * (1 : Nat))).add (0 : Nat))) (slC w (((m.A'.getD default).add ((↑z.i : Int).toNat * (1 : Nat))).add (0 : Nat)))), (.xs (slA w (((m.A'.getD default).add ((↑z.i : Int).toNat * (1 : Nat))).add (0 : Nat))) (slN w (((m.A'.getD default).add ((↑z.i : Int).toNat * (1 : Nat))).add (0 : Nat))) (slC w (((m.A'.getD default).add ((↑z.i : Int).toNat * (1 : Nat))).add (0 : Nat)))), (.xs x0.A x0.k x0.c), (.xs m.A m.n m.c), (.int .i64 ((↑m.n : Int)) false), (.xs x0.A x0.k x0.c), (.int .i64 ((↑x0.k : Int)) false), (.bool false true), (.xs x0.A x0.k x0.c), (.int .i64 ((↑x0.k : Int)) false), (.int .i64 0 true), (.raw (g (34 : Nat))), (.raw (g (35 : Nat))), (.raw (g (36 : Nat))), (.raw (g (37 : Nat))), (.raw (g (38 : Nat))), (.raw (g (39 : Nat))), (.raw (g (40 : Nat))), (.raw (g (41 : Nat))), (.raw (g (42 : Nat))), (.raw (g (43 : Nat))), (.raw (g (44 : Nat))), (.raw (g (45 : Nat))), (.raw (g (46 : Nat))), (.raw (g (47 : Nat))), (.raw (g (48 : Nat))), (.raw (g (49 : Nat))), (.raw (g (50 : Nat))), (.raw (g (51 : Nat))), (.raw (g (52 : Nat))), (.raw (g (53 : Nat)))] (SS.mk [(.vals z.Ls (m.n' * (1 : Nat)) 47 0 0)] [] true w0 b0)) (fun x1 w1 b1 =>
     (.split x1.fst
      (.split (decide (z.kk + (1 : Nat) ≤ m.n'))
       (.need ((0 : Nat) + z.kk * (1 : Nat) = z.Ls.length ∧ z.Ls.length + (denL id [(putS (putS (know (putS (mkFrame ([(5 : Nat), (6 : Nat), (8 : Nat), (10 : Nat), (18 : Nat), (19 : Nat), (20 : Nat)].zip (iSvs m z e x1.fst)) x1.snd (54 : Nat) (0 : Nat)) (some (47 : Nat)) ((mkFrame ([(5 : Nat), (6 : Nat), (8 : Nat), (10 : Nat), (18 : Nat), (19 : Nat), (20 : Nat)].zip (iSvs m z e x1.fst)) x1.snd (54 : Nat) (0 : Nat)).getD (10 : Nat) (SV.tup []))) (47 : Nat) true) (some (48 : Nat)) ((know (putS (mkFrame ([(5 : Nat), (6 : Nat), (8 : Nat), (10 : Nat), (18 : Nat), (19 : Nat), (20 : Nat)].zip (iSvs m z e x1.fst)) x1.snd (54 : Nat) (0 : Nat)) (some (47 : Nat)) ((mkFrame ([(5 : Nat), (6 : Nat), (8 : Nat), (10 : Nat), (18 : Nat), (19 : Nat), (20 : Nat)].zip (iSvs m z e x1.fst)) x1.snd (54 : Nat) (0 : Nat)).getD (10 : Nat) (SV.tup []))) (47 : Nat) true).getD (6 : Nat) (SV.tup []))) (some (49 : Nat)) ((putS (know (putS (mkFrame ([(5 : Nat), (6 : Nat), (8 : Nat), (10 : Nat), (18 : Nat), (19 : Nat), (20 : Nat)].zip (iSvs m z e x1.fst)) x1.snd (54 : Nat) (0 : Nat)) (some (47 : Nat)) ((mkFrame ([(5 : Nat), (6 : Nat), (8 : Nat), (10 : Nat), (18 : Nat), (19 : Nat), (20 : Nat)].zip (iSvs m z e x1.fst)) x1.snd (54 : Nat) (0 : Nat)).getD (10 : Nat) (SV.tup []))) (47 : Nat) true) (some (48 : Nat)) ((know (putS (mkFrame ([(5 : Nat), (6 : Nat), (8 : Nat), (10 : Nat), (18 : Nat), (19 : Nat), (20 : Nat)].zip (iSvs m z e x1.fst)) x1.snd (54 : Nat) (0 : Nat)) (some (47 : Nat)) ((mkFrame ([(5 : Nat), (6 : Nat), (8 : Nat), (10 : Nat), (18 : Nat), (19 : Nat), (20 : Nat)].zip (iSvs m z e x1.fst)) x1.snd (54 : Nat) (0 : Nat)).getD (10 : Nat) (SV.tup []))) (47 : Nat) true).getD (6 : Nat) (SV.tup []))).getD (8 : Nat) (SV.tup []))).getD (49 : Nat) (SV.tup [])]).length ≤ m.n' * (1 : Nat) ∧ thawed (0 : Nat) (0 : Nat) z.Ls.length (denL id [(putS (putS (know (putS (mkFrame ([(5 : Nat), (6 : Nat), (8 : Nat), (10 : Nat), (18 : Nat), (19 : Nat), (20 : Nat)].zip (iSvs m z e x1.fst)) x1.snd (54 : Nat) (0 : Nat)) (some (47 : Nat)) ((mkFrame ([(5 : Nat), (6 : Nat), (8 : Nat), (10 : Nat), (18 : Nat), (19 : Nat), (20 : Nat)].zip (iSvs m z e x1.fst)) x1.snd (54 : Nat) (0 : Nat)).getD (10 : Nat) (SV.tup []))) (47 : Nat) true) (some (48 : Nat)) ((know (putS (mkFrame ([(5 : Nat), (6 : Nat), (8 : Nat), (10 : Nat), (18 : Nat), (19 : Nat), (20 : Nat)].zip (iSvs m z e x1.fst)) x1.snd (54 : Nat) (0 : Nat)) (some (47 : Nat)) ((mkFrame ([(5 : Nat), (6 : Nat), (8 : Nat), (10 : Nat), (18 : Nat), (19 : Nat), (20 : Nat)].zip (iSvs m z e x1.fst)) x1.snd (54 : Nat) (0 : Nat)).getD (10 : Nat) (SV.tup []))) (47 : Nat) true).getD (6 : Nat) (SV.tup []))) (some (49 : Nat)) ((putS (know (putS (mkFrame ([(5 : Nat), (6 : Nat), (8 : Nat), (10 : Nat), (18 : Nat), (19 : Nat), (20 : Nat)].zip (iSvs m z e x1.fst)) x1.snd (54 : Nat) (0 : Nat)) (some (47 : Nat)) ((mkFrame ([(5 : Nat), (6 : Nat), (8 : Nat), (10 : Nat), (18 : Nat), (19 : Nat), (20 : Nat)].zip (iSvs m z e x1.fst)) x1.snd (54 : Nat) (0 : Nat)).getD (10 : Nat) (SV.tup []))) (47 : Nat) true) (some (48 : Nat)) ((know (putS (mkFrame ([(5 : Nat), (6 : Nat), (8 : Nat), (10 : Nat), (18 : Nat), (19 : Nat), (20 : Nat)].zip (iSvs m z e x1.fst)) x1.snd (54 : Nat) (0 : Nat)) (some (47 : Nat)) ((mkFrame ([(5 : Nat), (6 : Nat), (8 : Nat), (10 : Nat), (18 : Nat), (19 : Nat), (20 : Nat)].zip (iSvs m z e x1.fst)) x1.snd (54 : Nat) (0 : Nat)).getD (10 : Nat) (SV.tup []))) (47 : Nat) true).getD (6 : Nat) (SV.tup []))).getD (8 : Nat) (SV.tup []))).getD (49 : Nat) (SV.tup [])]).length = true)
       (.leaf .normal [(.xs m.A m.n m.c), (.slc 0 0 (z.kk + (1 : Nat)) m.n' false false), (.xs m.A' m.n' m.c'), (.int .i64 ((↑m.n' : Int)) false), (.int .i64 (IntKind.i64.wrap ((↑z.i : Int) + (1 : Int))) false)] (SS.mk [(.vals (z.Ls ++ denL id [(putS (putS (know (putS (mkFrame ([(5 : Nat), (6 : Nat), (8 : Nat), (10 : Nat), (18 : Nat), (19 : Nat), (20 : Nat)].zip (iSvs m z e x1.fst)) x1.snd (54 : Nat) (0 : Nat)) (some (47 : Nat)) ((mkFrame ([(5 : Nat), (6 : Nat), (8 : Nat), (10 : Nat), (18 : Nat), (19 : Nat), (20 : Nat)].zip (iSvs m z e x1.fst)) x1.snd (54 : Nat) (0 : Nat)).getD (10 : Nat) (SV.tup []))) (47 : Nat) true) (some (48 : Nat)) ((know (putS (mkFrame ([(5 : Nat), (6 : Nat), (8 : Nat), (10 : Nat), (18 : Nat), (19 : Nat), (20 : Nat)].zip (iSvs m z e x1.fst)) x1.snd (54 : Nat) (0 : Nat)) (some (47 : Nat)) ((mkFrame ([(5 : Nat), (6 : Nat), (8 : Nat), (10 : Nat), (18 : Nat), (19 : Nat), (20 : Nat)].zip (iSvs m z e x1.fst)) x1.snd (54 : Nat) (0 : Nat)).getD (10 : Nat) (SV.tup []))) (47 : Nat) true).getD (6 : Nat) (SV.tup []))) (some (49 : Nat)) ((putS (know (putS (mkFrame ([(5 : Nat), (6 : Nat), (8 : Nat), (10 : Nat), (18 : Nat), (19 : Nat), (20 : Nat)].zip (iSvs m z e x1.fst)) x1.snd (54 : Nat) (0 : Nat)) (some (47 : Nat)) ((mkFrame ([(5 : Nat), (6 : Nat), (8 : Nat), (10 : Nat), (18 : Nat), (19 : Nat), (20 : Nat)].zip (iSvs m z e x1.fst)) x1.snd (54 : Nat) (0 : Nat)).getD (10 : Nat) (SV.tup []))) (47 : Nat) true) (some (48 : Nat)) ((know (putS (mkFrame ([(5 : Nat), (6 : Nat), (8 : Nat), (10 : Nat), (18 : Nat), (19 : Nat), (20 : Nat)].zip (iSvs m z e x1.fst)) x1.snd (54 : Nat) (0 : Nat)) (some (47 : Nat)) ((mkFrame ([(5 : Nat), (6 : Nat), (8 : Nat), (10 : Nat), (18 : Nat), (19 : Nat), (20 : Nat)].zip (iSvs m z e x1.fst)) x1.snd (54 : Nat) (0 : Nat)).getD (10 : Nat) (SV.tup []))) (47 : Nat) true).getD (6 : Nat) (SV.tup []))).getD (8 : Nat) (SV.tup []))).getD (49 : Nat) (SV.tup [])]) (m.n' * (1 : Nat)) 47 0 0), (.cells [(.xs e.A e.n e.c)] 1 47 0 0)] [] true w1 b1)))
       (.need ((0 : Nat) + z.kk * (1 : Nat) ≤ z.Ls.length ∧ Builtin.nextslicecap (z.kk + (1 : Nat)) m.n' * (24 : Nat) ≤ (281474976710656 : Nat) ∧ (↑(z.kk + (1 : Nat)) : Int) ≤ IntKind.i64.max)
       (.choose (.appendCap (z.kk + (1 : Nat)) m.n' 47) fun c2 =>
       (.leaf .normal [(.xs m.A m.n m.c), (.slc 2 0 (z.kk + (1 : Nat)) c2 false false), (.xs m.A' m.n' m.c'), (.int .i64 ((↑m.n' : Int)) false), (.int .i64 (IntKind.i64.wrap ((↑z.i : Int) + (1 : Int))) false)] (SS.mk [(.vals z.Ls (m.n' * (1 : Nat)) 47 0 0), (.cells [(.xs e.A e.n e.c)] 1 47 0 0), (.vals (List.take (z.kk * (1 : Nat)) (List.drop (0 : Nat) z.Ls) ++ denL id [(putS (putS (know (putS (mkFrame ([(5 : Nat), (6 : Nat), (8 : Nat), (10 : Nat), (18 : Nat), (19 : Nat), (20 : Nat)].zip (iSvs m z e x1.fst)) x1.snd (54 : Nat) (0 : Nat)) (some (47 : Nat)) ((mkFrame ([(5 : Nat), (6 : Nat), (8 : Nat), (10 : Nat), (18 : Nat), (19 : Nat), (20 : Nat)].zip (iSvs m z e x1.fst)) x1.snd (54 : Nat) (0 : Nat)).getD (10 : Nat) (SV.tup []))) (47 : Nat) true) (some (48 : Nat)) ((know (putS (mkFrame ([(5 : Nat), (6 : Nat), (8 : Nat), (10 : Nat), (18 : Nat), (19 : Nat), (20 : Nat)].zip (iSvs m z e x1.fst)) x1.snd (54 : Nat) (0 : Nat)) (some (47 : Nat)) ((mkFrame ([(5 : Nat), (6 : Nat), (8 : Nat), (10 : Nat), (18 : Nat), (19 : Nat), (20 : Nat)].zip (iSvs m z e x1.fst)) x1.snd (54 : Nat) (0 : Nat)).getD (10 : Nat) (SV.tup []))) (47 : Nat) true).getD (6 : Nat) (SV.tup []))) (some (49 : Nat)) ((putS (know (putS (mkFrame ([(5 : Nat), (6 : Nat), (8 : Nat), (10 : Nat), (18 : Nat), (19 : Nat), (20 : Nat)].zip (iSvs m z e x1.fst)) x1.snd (54 : Nat) (0 : Nat)) (some (47 : Nat)) ((mkFrame ([(5 : Nat), (6 : Nat), (8 : Nat), (10 : Nat), (18 : Nat), (19 : Nat), (20 : Nat)].zip (iSvs m z e x1.fst)) x1.snd (54 : Nat) (0 : Nat)).getD (10 : Nat) (SV.tup []))) (47 : Nat) true) (some (48 : Nat)) ((know (putS (mkFrame ([(5 : Nat), (6 : Nat), (8 : Nat), (10 : Nat), (18 : Nat), (19 : Nat), (20 : Nat)].zip (iSvs m z e x1.fst)) x1.snd (54 : Nat) (0 : Nat)) (some (47 : Nat)) ((mkFrame ([(5 : Nat), (6 : Nat), (8 : Nat), (10 : Nat), (18 : Nat), (19 : Nat), (20 : Nat)].zip (iSvs m z e x1.fst)) x1.snd (54 : Nat) (0 : Nat)).getD (10 : Nat) (SV.tup []))) (47 : Nat) true).getD (6 : Nat) (SV.tup []))).getD (8 : Nat) (SV.tup []))).getD (49 : Nat) (SV.tup [])]) (c2 * (1 : Nat)) 47 0 0)] [] true w1 b1)))))
      (.leaf .normal [(.xs m.A m.n m.c), (.slc 0 0 z.kk m.n' false false), (.xs m.A' m.n' m.c'), (.int .i64 ((↑m.n' : Int)) false), (.int .i64 (IntKind.i64.wrap ((↑z.i : Int) + (1 : Int))) false)] (SS.mk [(.vals z.Ls (m.n' * (1 : Nat)) 47 0 0)] [] true w1 b1))))
    (LoopHook.Y (lhI m z e)) (LoopHook.out' (lhI m z e) [(.raw (g (0 : Nat))), (.raw (g (1 : Nat))), (.raw (g (2 : Nat))), (.raw (g (3 : Nat))), (.raw (g (4 : Nat))), (.xs m.A m.n m.c), (.slc 0 0 z.kk m.n' false false), (.raw (g (7 : Nat))), (.xs (slA w (((m.A'.getD default).add ((↑z.i : Int).toNat * (1 : Nat))).add (0 : Nat))) (slN w (((m.A'.getD default).add ((↑z.i : Int).toNat * (1 : Nat))).add (0 : Nat))) (slC w (((m.A'.getD default).add ((↑z.i : Int).toNat * (1 : Nat))).add (0 : Nat)))), (.xs x0.A x0.k x0.c), (.bool true true), (.raw (g (11 : Nat))), (.raw (g (12 : Nat))), (.raw (g (13 : Nat))), (.raw (g (14 : Nat))), (.raw (g (15 : Nat))), (.raw (g (16 : Nat))), (.raw (g (17 : Nat))), (.xs m.A' m.n' m.c'), (.int .i64 ((↑m.n' : Int)) false), (.int .i64 ((↑z.i : Int)) false), (.bool true true), (.xp ((m.A'.getD default).add ((↑z.i : Int).toNat * (1 : Nat)))), (.xs (slA w (((m.A'.getD default).add ((↑z.i : Int).toNat * (1 : Nat))).add (0 : Nat))) (slN w (((m.A'.getD default).add ((↑z.i : Int).toNat * (1 : Nat))).add (0 : Nat))) (slC w (((m.A'.getD default).add ((↑z.i : Int).toNat * (1 : Nat))).add (0 : Nat)))), (.xs (slA w (((m.A'.getD default).add ((↑z.i : Int).toNat * (1 : Nat))).add (0 : Nat))) (slN w (((m.A'.getD default).add ((↑z.i : Int).toNat * (1 : Nat))).add (0 : Nat))) (slC w (((m.A'.getD default).add ((↑z.i : Int).toNat * (1 : Nat))).add (0 : Nat)))), (.xs x0.A x0.k x0.c), (.xs m.A m.n m.c), (.int .i64 ((↑m.n : Int)) false), (.xs x0.A x0.k x0.c), (.int .i64 ((↑x0.k : Int)) false), (.bool false true), (.xs x0.A x0.k x0.c), (.int .i64 ((↑x0.k : Int)) false), (.int .i64 0 true), (.raw (g (34 : Nat))), (.raw (g (35 : Nat))), (.raw (g (36 : Nat))), (.raw (g (37 : Nat))), (.raw (g (38 : Nat))), (.raw (g (39 : Nat))), (.raw (g (40 : Nat))), (.raw (g (41 : Nat))), (.raw (g (42 : Nat))), (.raw (g (43 : Nat))), (.raw (g (44 : Nat))), (.raw (g (45 : Nat))), (.raw (g (46 : Nat))), (.raw (g (47 : Nat))), (.raw (g (48 : Nat))), (.raw (g (49 : Nat))), (.raw (g (50 : Nat))), (.raw (g (51 : Nat))), (.raw (g (52 : Nat))), (.raw (g (53 : Nat)))] (SS.mk [(.vals z.Ls (m.n' * (1 : Nat)) 47 0 0)] [] true w0 b0)) (fun x1 w1 b1 =>
     (.leaf .ret [] (SS.mk [(.vals z.Ls (m.n' * (1 : Nat)) 47 0 0)] [] true w1 b1)))))))))
   (.leaf (.exit 0) [(.slc 0 0 z.kk m.n' false false)] (SS.mk [(.vals z.Ls (m.n' * (1 : Nat)) 47 0 0)] [] true w bs))) := by kernel_rfl
set_option maxRecDepth 100000 in
theorem i22 (m : MC) (z : MZ) (e : EZ) (p : UV) (j : Nat) (w : World) (bs : List Nat) (g : Nat → Value) : xCode Tryz.prog noHk 1000 22 (loopOf Tryz.prog 22 11) (mkFrame ((LI .normal).zip (jSvs m z e p j)) g 54 0) (fun e a s => .leaf e (sel LI e a) s) (SS.mk (mObjs m z) [] true w bs) =
  (.split (decide ((↑j : Int) < (↑p.k : Int)))
   (.need ((0 : Int) ≤ (↑j : Int) ∧ (↑j : Int) < (↑p.k : Int))
   (.need (p.A.isSome = true)
   (.need (canRead w bs ((p.A.getD default).add ((↑j : Int).toNat * (6 : Nat))) [SV.str (strAt w (((p.A.getD default).add ((↑j : Int).toNat * (6 : Nat))).add (0 : Nat))) false, SV.int IntKind.i64 (intAt w (((p.A.getD default).add ((↑j : Int).toNat * (6 : Nat))).add (1 : Nat))) false, SV.xs (slA w (((p.A.getD default).add ((↑j : Int).toNat * (6 : Nat))).add (2 : Nat))) (slN w (((p.A.getD default).add ((↑j : Int).toNat * (6 : Nat))).add (2 : Nat))) (slC w (((p.A.getD default).add ((↑j : Int).toNat * (6 : Nat))).add (2 : Nat))), SV.int IntKind.i64 (intAt w (((p.A.getD default).add ((↑j : Int).toNat * (6 : Nat))).add (3 : Nat))) false, SV.bool (boolAt w (((p.A.getD default).add ((↑j : Int).toNat * (6 : Nat))).add (4 : Nat))) false, SV.one (oneAt w (((p.A.getD default).add ((↑j : Int).toNat * (6 : Nat))).add (5 : Nat))).val (extOne._proof_1 (SS.mk (mObjs m z) [] true w bs).w0 (((p.A.getD default).add ((↑j : Int).toNat * Tryz.prog.types[(71 : Nat)].size)).add ((0 : Nat) + (1 : Nat) + (1 : Nat) + (1 : Nat) + (1 : Nat) + (1 : Nat))))])
   (.need ((0 : Int) ≤ (↑j : Int) ∧ (↑j : Int) < (↑m.n : Int))
   (.need (m.A.isSome = true)
   (.need (canRead w bs (((m.A.getD default).add ((↑j : Int).toNat * (6 : Nat))).add (1 : Nat)) [SV.int IntKind.i64 (intAt w ((((m.A.getD default).add ((↑j : Int).toNat * (6 : Nat))).add (1 : Nat)).add (0 : Nat))) false])
   (.split (intAt w ((((m.A.getD default).add ((↑j : Int).toNat * (6 : Nat))).add (1 : Nat)).add (0 : Nat)) != intAt w (((p.A.getD default).add ((↑j : Int).toNat * (6 : Nat))).add (1 : Nat)))
    (.leaf (.exit 2) [(.xs m.A m.n m.c), (.slc 0 0 z.kk m.n' false false), (.xs e.A e.n e.c), (.bool false true), (.xs m.A' m.n' m.c'), (.int .i64 ((↑m.n' : Int)) false), (.int .i64 ((↑z.i : Int)) false)] (SS.mk [(.vals z.Ls (m.n' * (1 : Nat)) 47 0 0), (.cells [(.str (strAt w (((p.A.getD default).add ((↑j : Int).toNat * (6 : Nat))).add (0 : Nat))) false), (.int .i64 (intAt w (((p.A.getD default).add ((↑j : Int).toNat * (6 : Nat))).add (1 : Nat))) false), (.xs (slA w (((p.A.getD default).add ((↑j : Int).toNat * (6 : Nat))).add (2 : Nat))) (slN w (((p.A.getD default).add ((↑j : Int).toNat * (6 : Nat))).add (2 : Nat))) (slC w (((p.A.getD default).add ((↑j : Int).toNat * (6 : Nat))).add (2 : Nat)))), (.int .i64 (intAt w (((p.A.getD default).add ((↑j : Int).toNat * (6 : Nat))).add (3 : Nat))) false), (.bool (boolAt w (((p.A.getD default).add ((↑j : Int).toNat * (6 : Nat))).add (4 : Nat))) false), (.one (oneAt w (((p.A.getD default).add ((↑j : Int).toNat * (6 : Nat))).add (5 : Nat))).1 (oneAt w (((p.A.getD default).add ((↑j : Int).toNat * (6 : Nat))).add (5 : Nat))).2)] 6 71 0 0)] [] true w bs))
    (.leaf .normal [(.xs m.A m.n m.c), (.slc 0 0 z.kk m.n' false false), (.xs e.A e.n e.c), (.bool true true), (.xs m.A' m.n' m.c'), (.int .i64 ((↑m.n' : Int)) false), (.int .i64 ((↑z.i : Int)) false), (.xs p.A p.k p.c), (.int .i64 ((↑p.k : Int)) false), (.int .i64 (IntKind.i64.wrap ((↑j : Int) + (1 : Int))) false)] (SS.mk [(.vals z.Ls (m.n' * (1 : Nat)) 47 0 0), (.cells [(.str (strAt w (((p.A.getD default).add ((↑j : Int).toNat * (6 : Nat))).add (0 : Nat))) false), (.int .i64 (intAt w (((p.A.getD default).add ((↑j : Int).toNat * (6 : Nat))).add (1 : Nat))) false), (.xs (slA w (((p.A.getD default).add ((↑j : Int).toNat * (6 : Nat))).add (2 : Nat))) (slN w (((p.A.getD default).add ((↑j : Int).toNat * (6 : Nat))).add (2 : Nat))) (slC w (((p.A.getD default).add ((↑j : Int).toNat * (6 : Nat))).add (2 : Nat)))), (.int .i64 (intAt w (((p.A.getD default).add ((↑j : Int).toNat * (6 : Nat))).add (3 : Nat))) false), (.bool (boolAt w (((p.A.getD default).add ((↑j : Int).toNat * (6 : Nat))).add (4 : Nat))) false), (.one (oneAt w (((p.A.getD default).add ((↑j : Int).toNat * (6 : Nat))).add (5 : Nat))).1 (oneAt w (((p.A.getD default).add ((↑j : Int).toNat * (6 : Nat))).add (5 : Nat))).2)] 6 71 0 0)] [] true w bs)))))))))
   (.leaf (.exit 2) [(.xs m.A m.n m.c), (.slc 0 0 z.kk m.n' false false), (.xs e.A e.n e.c), (.bool true true), (.xs m.A' m.n' m.c'), (.int .i64 ((↑m.n' : Int)) false), (.int .i64 ((↑z.i : Int)) false)] (SS.mk [(.vals z.Ls (m.n' * (1 : Nat)) 47 0 0)] [] true w bs))) := by kernel_rfl


theorem since_same {wc w1 w' : World} (h : ∀ b, wc.heap.size ≤ b → b < w1.heap.size → w'.heap[b]? = w1.heap[b]?) : Sub w1.heap.size (Rx.since wc w1) w' := by
  intro a v hb hx
  rw [cell_since] at hx
  have := h _ hx.1 hb
  simp only [World.cell?, this] at hx ⊢
  exact hx.2

theorem protRead' {w : World} {B : Nat} {p : Addr} {k : Int} (h : ProtAt w B p k) (hB : B ≤ w.heap.size) {pre : List Nat} (hp : p.block ∉ pre) (h1 : (oneAt w (p.add 5)).1.oneCell' = true) :
    canRead w pre p [SV.str (strAt w (p.add 0)) false, SV.int .i64 (intAt w (p.add 1)) false, SV.xs (slA w (p.add 2)) (slN w (p.add 2)) (slC w (p.add 2)), SV.int .i64 (intAt w (p.add 3)) false, SV.bool (boolAt w (p.add 4)) false, SV.one (oneAt w (p.add 5)).1 h1] ∧ intAt w (p.add 1) = k := by
  obtain ⟨q1, y, q2⟩ := protRead h hB (pre := []) (by simp) h1
  refine ⟨⟨q1.1, hp, q1.2.2⟩, ?_⟩
  have := congrArg (fun l => l[1]?) q2
  simpa [denL, SV.den] using this

theorem protCell {w : World} {B : Nat} {a : Addr} {x : Comp} (h : CellsAt (ProtR w B) w B a x) : ProtAt w B a x.code := by
  obtain ⟨h1, vs, ⟨y, rfl⟩, h2⟩ := h
  exact ⟨h1, y, h2⟩

theorem addrRead {w : World} {B : Nat} {a : Addr} {x : List Comp} (h : CellsAt (AddrR w B) w B a x) (hB : B ≤ w.heap.size) {pre : List Nat} (hp : ∀ b ∈ pre, B ≤ b) :
    canRead w pre a [SV.xs (slA w (a.add 0)) (slN w (a.add 0)) (slC w (a.add 0))] ∧ RowAt MaR 3 w B (slA w (a.add 0)) (slN w (a.add 0)) x ∧ w.cell? a = some (.slice (slA w (a.add 0)) (slN w (a.add 0)) (slC w (a.add 0))) := by
  obtain ⟨h1, vs, ⟨A, n, c, rfl, h3⟩, hcell⟩ := h
  have c0 := hcell 0 _ rfl
  have e0 : slA w (a.add 0) = A := by simp [slA, c0]
  have e1 : slN w (a.add 0) = n := by simp [slN, c0]
  have e2 : slC w (a.add 0) = c := by simp [slC, c0]
  rw [e0, e1, e2]
  exact ⟨canRead1 (by omega) (fun hm => by have := hp _ hm; omega) c0, h3, c0⟩

/-- Those that have the same codes. -/
def same (l : List Comp) (ll : List (List Comp)) : List (List Comp) := ll.filter fun x => decide (codes l = codes x)

theorem same_le (l : List Comp) (ll : List (List Comp)) : (same l ll).length ≤ ll.length := List.length_filter_le _ _

def eOf (w : World) (m : MC) (z : MZ) : EZ := ⟨slA w (((m.A'.getD default).add ((z.i : Int).toNat * 1)).add 0), slN w (((m.A'.getD default).add ((z.i : Int).toNat * 1)).add 0), slC w (((m.A'.getD default).add ((z.i : Int).toNat * 1)).add 0)⟩

theorem same_step {l : List Comp} {ll : List (List Comp)} {i : Nat} {x : List Comp} (hx : ll[i]? = some x) : same l (ll.take (i + 1)) = same l (ll.take i) ++ (if codes l = codes x then [x] else []) := by
  unfold same
  rw [List.take_add_one, hx, List.filter_append]
  congr 1
  by_cases h : codes l = codes x <;> simp [h]

theorem RowAt.since_ge {γ : Type} {R : World → Nat → γ → List Value → Prop} {size : Nat} (hR : Lasts R size) {wc w : World} {B : Nat} {A : Option Addr} {k : Nat} {l : List γ} (h : RowAt R size (Rx.since wc w) B A k l) (hk : 0 < k) : ∀ a, A = some a → wc.heap.size ≤ a.block := by
  intro a ha
  obtain ⟨a', ha', hb, hx⟩ := h.2 hk
  rw [ha] at ha'
  cases ha'
  have hl : 0 < l.length := by have := h.1; omega
  obtain ⟨_, vs, h1, h2⟩ := hx 0 _ (List.getElem?_eq_getElem hl)
  have hlen := hR.len _ _ _ _ h1
  have hz := hR.pos
  have := h2 0 _ (List.getElem?_eq_getElem (by omega))
  have h3 := ((cell_since _ _ _ _).1 this).1
  simpa [add_block] using h3

theorem addrMatch_c (A : Option Addr) (n c : Nat) (A' : Option Addr) (n' c' : Nat) (l : List Comp) (ll : List (List Comp)) (B : Nat) (w : World) (h : RowAt MaR 3 w B A n l) (h' : RowAt AddrR 1 w B A' n' ll) (hB : B ≤ w.heap.size) (hn : (n : Int) < 2 ^ 40) (hn' : (n' : Int) < 2 ^ 40) (hlen : ∀ x ∈ ll, (x.length : Int) < 2 ^ 40) :
    Calls Tryz.prog 22 #[.slice A n c, .slice A' n' c'] w (Ret (fun v w' => ∃ A'' k c'', v = .slice A'' k c'' ∧ RowAt AddrR 1 w' w'.heap.size A'' k (same l ll)) w) := by
  have hl := h.1
  have hl' := h'.1
  refine funF (hk := hkM ⟨A, n, c, A', n', c'⟩) (n := 1000) (args := [.xs A n c, .xs A' n' c']) ⟨trivial, trivial, trivial⟩ ?_
  refine holds_eq (t22 ⟨A, n, c, A', n', c'⟩ w) ?_
  refine rowCall (R := ProtR) (size := 6) (l := l) (bs := []) ⟨rfl, Keep.refl _ _, by simp⟩ rfl (fun β wc hk => protocols_c A n c l B wc (h.sub MaR.lasts (Below.sub (hk.belowB hB (by simp))) (Nat.le_refl _)) (Nat.le_trans hB hk.size) hn) ?_
  rintro ⟨P1, k1, c1⟩ wc1 w1 bs1 hk1 hb1 hk2 hbs1 hp1
  dsimp only at hp1
  have hw1 : Below w.heap.size w w1 := hk2.belowB (Nat.le_refl _) (by simp)
  have hbs1' : ∀ b ∈ bs1, w.heap.size ≤ b := fun b hb => by
    rcases (hbs1 b hb).1 with h | h
    · simp at h
    · exact h
  have hp1l := hp1.1
  refine needT (by dsimp only; exact ⟨by omega, by omega, by omega⟩) ?_
  refine loopTK (w := w1) (bs := bs1) ⟨rfl, Keep.refl _ _, fun b hb => .inl hb⟩ rfl 1 rfl LM (mSvs ⟨P1, k1, c1, A', n', c'⟩) (mObjs ⟨P1, k1, c1, A', n', c'⟩) (fun z => n' - z.i)
    (fun _ z _ => z.i ≤ n' ∧ z.kk ≤ z.i ∧ z.Ls.length = z.kk ∧ Row (AddrR w B) (same l (ll.take z.i)) z.Ls) (fun _ z _ => z.kk ≤ n' ∧ z.Ls.length = z.kk ∧ Row (AddrR w B) (same l ll) z.Ls) (fun _ _ _ => False)
    (fun z => hkI ⟨P1, k1, c1, A', n', c'⟩ z (eOf w ⟨P1, k1, c1, A', n', c'⟩ z)) 1000
    (by simp) (by simp [LM]) (by simp [LM]) (fun _ => ⟨trivial, by simp [SV.ok], trivial, trivial, trivial, trivial⟩) (fun _ => ⟨rfl, by simp [mObjs, SObj.ok]⟩) rfl rfl (by simp) (by simp) (fun _ => ⟨⟨by simp [SV.ok], trivial⟩, rfl, by simp [mObjs, SObj.ok]⟩) (fun _ => ⟨trivial, rfl, by simp [mObjs, SObj.ok]⟩) ?_ ?_ ?_ ?_
  · rintro β w0 z w2 g hkw0 ⟨hi, hkk, hLs, hrow⟩ hk02 hk12 hblk
    refine holds_eq (r22 _ z _ w2 (blocks β 1) g) (splitD (fun hlt => ?_) (fun hge' => ?_))
    · have hlt' : z.i < n' := by dsimp only at hlt; omega
      have hw2 : Below w.heap.size w w2 := hk12.below hw1 (Nat.le_refl _) hbs1'
      have hB2 : B ≤ w2.heap.size := Nat.le_trans hB hw2.size
      have hbl : ∀ b ∈ blocks β 1, w.heap.size ≤ b := fun b hb => by
        have := hw1.size
        rcases (hblk b hb).1 with h | h
        · exact hbs1' b h
        · omega
      have hBb : ∀ b ∈ blocks β 1, B ≤ b := fun b hb => Nat.le_trans hB (hbl b hb)
      obtain ⟨ad, x, rfl, had, hx, hR⟩ := (h'.sub AddrR.lasts (Below.sub (hw2.mono hB)) (Nat.le_refl _)).get hlt'
      have hxm := List.mem_of_getElem? hx
      obtain ⟨r1, r2, r3⟩ := addrRead hR hB2 hBb
      refine needT (by dsimp only; omega) (needT rfl (needT r1 ?_))
      refine rowCall (R := ProtR) (size := 6) (l := x) (bs := blocks β 1) ⟨rfl, Keep.refl _ _, fun b hb => .inl hb⟩ rfl (fun β' wc hk => protocols_c _ _ _ x B wc (r2.sub MaR.lasts (Below.sub (hk.belowB hB2 hBb)) (Nat.le_refl _)) (Nat.le_trans hB2 hk.size) ?_) ?_
      · have h7 : slN w2 ((ad.add (z.i * 1)).add 0) = x.length := r2.1
        have := hlen x hxm
        exact_mod_cast (by omega : ((slN w2 ((ad.add (z.i * 1)).add 0) : Nat) : Int) < 2 ^ 40)
      rintro ⟨P2, k2, c2⟩ wc w3 bs3 hkc hbc hk3 hbs3 hp2
      dsimp only at hp2
      replace hkc : Keep (blocks β 1) w2 wc := hkc
      replace hk3 : Keep (blocks β 1) w2 w3 := hk3
      replace hbs3 : ∀ b ∈ bs3, (b ∈ blocks β 1 ∨ w2.heap.size ≤ b) ∧ b < wc.heap.size := hbs3
      have hp2l := hp2.1
      have h02 := hk02.size
      have hpre3 : ∀ b ∈ bs3, b ∈ blocks β 1 ∨ w0.heap.size ≤ b := fun b hb => by
        rcases (hbs3 b hb).1 with h | h
        · exact .inl h
        · exact .inr (Nat.le_trans h02 h)
      have hstep := same_step (l := l) hx
      have skip : ∀ (w4 : World) (bs4 : List Nat), ¬ codes l = codes x → Keep (blocks β 1) w0 w4 → (∀ b ∈ bs4, b ∈ blocks β 1 ∨ w0.heap.size ≤ b) → True := fun _ _ _ _ _ => trivial
      refine splitT (fun hne => ?_) (fun heq => ?_)
      · have hns : ¬ codes l = codes x := fun he => by
          have h1 := congrArg List.length he
          simp only [codes, List.length_map] at h1
          dsimp only at hne
          simp at hne
          omega
        rw [if_neg hns, List.append_nil] at hstep
        refine leafK ⟨rfl, hk02.trans hk3, hpre3⟩ fun β' w' hst hk' => ⟨⟨z.i + 1, z.kk, z.Ls⟩, by show n' - (z.i + 1) < n' - z.i; omega, ?_, hst.objsAt rfl (by simp [mObjs, SObj.ok]), ⟨by show z.i + 1 ≤ n'; omega, by show z.kk ≤ z.i + 1; omega, hLs, ?_⟩, hk'⟩
        · rw [next_i hlt' (by omega)]
          have := hst.base 0 (by show 0 < 1; omega)
          simp only [mSvs, denL, SV.den]
          rw [this]
        · show Row (AddrR w B) (same l (ll.take (z.i + 1))) z.Ls
          rw [hstep]
          exact hrow
      · have hkk2 : k1 = k2 := by
          dsimp only at heq
          have : (k1 : Int) = k2 := by simpa using heq
          omega
        have he : eOf w ⟨P1, k1, c1, some ad, n', c'⟩ z = eOf w2 ⟨P1, k1, c1, some ad, n', c'⟩ z := by
          have hc : w2.cell? ((ad.add (z.i * 1)).add 0) = w.cell? ((ad.add (z.i * 1)).add 0) := below_cell (hw2.mono hB) (by rw [add_block, add_block]; exact had)
          have hc' : w2.cell? (((((some ad).getD default).add ((z.i : Int).toNat * 1)).add 0)) = w.cell? ((((some ad).getD default).add ((z.i : Int).toNat * 1)).add 0) := hc
          simp only [eOf, slA, slN, slC, hc']
        have hk03 := hk02.trans hk3
        rw [he]
        refine loopTK (w := w3) (bs := bs3) ⟨rfl, Keep.refl _ _, fun b hb => .inl hb⟩ rfl 1 rfl LI (jSvs ⟨P1, k1, c1, some ad, n', c'⟩ z (eOf w2 ⟨P1, k1, c1, some ad, n', c'⟩ z) ⟨P2, k2, c2⟩) (fun _ => mObjs ⟨P1, k1, c1, some ad, n', c'⟩ z) (fun j => k2 - j)
          (fun _ j _ => j ≤ k2 ∧ codes (l.take j) = codes (x.take j)) (fun _ b _ => b = true ↔ codes l = codes x) (fun _ _ _ => False) (fun _ => noHk) 1000
          (by simp) (by simp [LI]) (by simp [LI]) (fun _ => ⟨trivial, by simp [SV.ok], trivial, trivial, trivial, trivial, trivial, trivial, trivial, trivial, trivial⟩) (fun _ => ⟨rfl, by simp [mObjs, SObj.ok]⟩) rfl rfl (by simp) (by simp)
          (fun _ => ⟨⟨trivial, by simp [SV.ok], trivial, trivial, trivial, trivial, trivial, trivial⟩, rfl, by simp [mObjs, SObj.ok]⟩) (fun _ => ⟨trivial, rfl, by simp [mObjs, SObj.ok]⟩) ?_ ?_ ?_ ?_
        · rintro β2 w4 j w5 g2 hk34 ⟨hj, hcod⟩ hk45 hk35 hblk2
          have s2 : Sub w3.heap.size (Rx.since wc w3) w5 := since_same fun b h1 h2 => hk35.block b h2 fun hm => by have := (hbs3 b hm).2; omega
          have hc1 := hb1.size
          have hsz12 := hk12.size
          have hszc := hkc.size
          have hszc3 := hbc.size
          have hsz35 := hk35.size
          have s1 : Sub w1.heap.size (Rx.since wc1 w1) w5 := since_same fun b h1 h2 => by
            have n1 : b ∉ bs1 := fun hm => by have := (hbs1 b hm).2; omega
            have n2 : b ∉ blocks β 1 := fun hm => by
              rcases (hblk b hm).1 with h | h
              · exact n1 h
              · omega
            have n3 : b ∉ bs3 := fun hm => by
              rcases (hbs3 b hm).1 with h | h
              · exact n2 h
              · omega
            rw [hk35.block b (by omega) n3, hk3.block b (by omega) n2, hk12.block b h2 n1]
          refine holds_eq (i22 _ z _ ⟨P2, k2, c2⟩ j w5 (blocks β2 1) g2) (splitD (fun hj1 => ?_) (fun hj1 => ?_))
          · have hj2 : j < k2 := by dsimp only at hj1; omega
            have hj3 : j < k1 := by omega
            obtain ⟨a2, y2, hP2, ha2, hy2, hR2⟩ := (hp2.sub ProtR.lasts s2 (Nat.le_refl _)).get hj2
            obtain ⟨a1, y1, hP1, ha1, hy1, hR1⟩ := (hp1.sub ProtR.lasts s1 (Nat.le_refl _)).get hj3
            have g2' := RowAt.since_ge ProtR.lasts hp2 (by omega) a2 hP2
            have g1' := RowAt.since_ge ProtR.lasts hp1 (by omega) a1 hP1
            subst hP2 hP1
            have n1 : a1.block ∉ blocks β2 1 := fun hm => by
              have m1 : a1.block ∉ bs1 := fun hm => by have := (hbs1 _ hm).2; omega
              have m2 : a1.block ∉ blocks β 1 := fun hm => by
                rcases (hblk _ hm).1 with h | h
                · exact m1 h
                · omega
              have m3 : a1.block ∉ bs3 := fun hm => by
                rcases (hbs3 _ hm).1 with h | h
                · exact m2 h
                · omega
              rcases (hblk2 _ hm).1 with h | h
              · exact m3 h
              · omega
            have n2 : a2.block ∉ blocks β2 1 := fun hm => by
              rcases (hblk2 _ hm).1 with h | h
              · have := (hbs3 _ h).2
                omega
              · omega
            obtain ⟨q1, q2⟩ := protRead' (pre := blocks β2 1) (protCell hR2) (by omega) (by rw [add_block]; exact n2) (oneAt w5 _).2
            obtain ⟨_, q4⟩ := protRead' (pre := []) (protCell hR1) (by omega) (by simp) (oneAt w5 _).2
            obtain ⟨_, y, hc5⟩ := protCell hR1
            have hci := hc5 1 _ rfl
            refine needT (by dsimp only; omega) (needT rfl (needT q1 (needT (by dsimp only; omega) (needT rfl (needT ?_ ?_)))))
            · have hrd : canRead w5 (blocks β2 1) ((a1.add (j * 6)).add 1) [SV.int .i64 (intAt w5 (((a1.add (j * 6)).add 1).add 0)) false] := by
                refine canRead1 (by rw [add_block, add_block]; omega) (by rw [add_block, add_block]; exact n1) ?_
                have : intAt w5 ((((a1.add (j * 6)).add 1).add 0)) = y1.code := q4
                simp only [SV.den]
                rw [this]
                exact hci
              exact hrd
            have e1 : intAt w5 ((((((some a1).getD default).add ((j : Int).toNat * 6)).add 1)).add 0) = y1.code := q4
            have e2 : intAt w5 ((((some a2).getD default).add ((j : Int).toNat * 6)).add 1) = y2.code := q2
            dsimp only
            rw [e1, e2]
            refine splitT (fun hne => ?_) (fun heq' => ?_)
            · refine leafK ⟨rfl, hk45, fun b hb => .inl hb⟩ fun β' w' hst hk' => ⟨.inl ⟨false, rfl, ?_, hst.objsAt rfl (by simp [mObjs, SObj.ok]), ⟨fun h => Bool.noConfusion h, fun hcc => ?_⟩⟩, hk'⟩
              · have := hst.base 0 (by show 0 < 1; omega)
                simp only [iSvs, denL, SV.den]
                rw [this]
              · have h1 := congrArg (fun l => l[j]?) hcc
                simp [codes, hy1, hy2] at h1
                simp [h1] at hne
            · refine leafK ⟨rfl, hk45, fun b hb => .inl hb⟩ fun β' w' hst hk' => ⟨j + 1, by show k2 - (j + 1) < k2 - j; omega, ?_, hst.objsAt rfl (by simp [mObjs, SObj.ok]), ⟨by omega, ?_⟩, hk'⟩
              · rw [next_i hj2 (by omega)]
                have := hst.base 0 (by show 0 < 1; omega)
                simp only [jSvs, denL, SV.den]
                rw [this]
              · have hcc : y1.code = y2.code := by simpa using heq'
                rw [List.take_add_one, List.take_add_one, hy1, hy2]
                simp only [codes, List.map_append] at hcod ⊢
                rw [hcod]
                simp [hcc]
          · refine leafK ⟨rfl, hk45, fun b hb => .inl hb⟩ fun β' w' hst hk' => ⟨.inl ⟨true, rfl, ?_, hst.objsAt rfl (by simp [mObjs, SObj.ok]), ⟨fun _ => ?_, fun _ => rfl⟩⟩, hk'⟩
            · have := hst.base 0 (by show 0 < 1; omega)
              simp only [iSvs, denL, SV.den]
              rw [this]
            · dsimp only at hj1
              rw [List.take_of_length_le (by omega), List.take_of_length_le (by omega)] at hcod
              exact hcod
        · intro β2 w4 hst hk4
          refine ⟨0, rfl, ?_, Nat.zero_le _, rfl⟩
          intro i o hi
          exact hst.at_ i o (by simpa [mObjs] using hi)
        · rintro w4 b w5 hb4 hk34 hk35 g2 bs5 hbs5
          have hpre5 : ∀ b ∈ bs5, b ∈ blocks β 1 ∨ w0.heap.size ≤ b := fun b hb => by
            have h1 := hk03.size
            rcases (hbs5 b hb).1 with h | h
            · exact hpre3 b h
            · exact .inr (Nat.le_trans h1 h)
          have hk05 : Keep (blocks β 1) w0 w5 := ⟨hk35.os.trans hk03.os, hk35.tape.trans hk03.tape, hk35.output.trans hk03.output, Nat.le_trans hk03.size hk35.size, fun b hb hn => (hk35.block b (Nat.lt_of_lt_of_le hb hk03.size) (fun hm => by
            rcases hpre3 b hm with h | h
            · exact hn h
            · omega)).trans (hk03.block b hb hn)⟩
          refine splitT (fun hbt => ?_) (fun hbf => ?_)
          · have hcx : codes l = codes x := hb4.1 hbt
            rw [if_pos hcx] at hstep
            obtain ⟨ad', x', e1, _, hx', hR0⟩ := h'.get hlt'
            cases e1
            rw [hx] at hx'
            cases hx'
            obtain ⟨_, r2w, _⟩ := addrRead hR0 hB (pre := []) (by simp)
            refine splitD (fun _ => needT ?_ ?_) (fun hno => absurd (by dsimp only; omega) hno)
            · exact ⟨by omega, by simp [denL]; omega, by simp [thawed]⟩
            · refine leafK ⟨rfl, hk05, hpre5⟩ fun β' w' hst hk' => ⟨⟨z.i + 1, z.kk + 1, _⟩, by show n' - (z.i + 1) < n' - z.i; omega, ?_, hst.objsAt rfl (by simp [mObjs, SObj.ok]), ⟨by show z.i + 1 ≤ n'; omega, by show z.kk + 1 ≤ z.i + 1; omega, by simp [denL, hLs], ?_⟩, hk'⟩
              · rw [next_i hlt' (by omega)]
                have := hst.base 0 (by show 0 < 1; omega)
                simp only [mSvs, denL, SV.den]
                rw [this]
              · show Row (AddrR w B) (same l (ll.take (z.i + 1))) (z.Ls ++ _)
                rw [hstep]
                refine .snoc hrow ⟨(eOf w2 ⟨P1, k1, c1, some ad, n', c'⟩ z).A, (eOf w2 ⟨P1, k1, c1, some ad, n', c'⟩ z).n, (eOf w2 ⟨P1, k1, c1, some ad, n', c'⟩ z).c, rfl, ?_⟩
                rw [← he]
                exact r2w
          · have hns : ¬ codes l = codes x := fun hc => by
              have := hb4.2 hc
              rw [this] at hbf
              cases hbf
            rw [if_neg hns, List.append_nil] at hstep
            refine leafK ⟨rfl, hk05, hpre5⟩ fun β' w' hst hk' => ⟨⟨z.i + 1, z.kk, z.Ls⟩, by show n' - (z.i + 1) < n' - z.i; omega, ?_, hst.objsAt rfl (by simp [mObjs, SObj.ok]), ⟨by show z.i + 1 ≤ n'; omega, by show z.kk ≤ z.i + 1; omega, hLs, ?_⟩, hk'⟩
            · rw [next_i hlt' (by omega)]
              have := hst.base 0 (by show 0 < 1; omega)
              simp only [mSvs, denL, SV.den]
              rw [this]
            · show Row (AddrR w B) (same l (ll.take (z.i + 1))) z.Ls
              rw [hstep]
              exact hrow
        · rintro w4 b w5 h
          exact h.elim
    · dsimp only at hge'
      refine leafK ⟨rfl, hk02, fun b hb => .inl hb⟩ fun β' w' hst hk' => ⟨.inl ⟨z, rfl, ?_, hst.objsAt rfl (by simp [mObjs, SObj.ok]), by omega, hLs, ?_⟩, hk'⟩
      · have := hst.base 0 (by show 0 < 1; omega)
        simp only [denL, SV.den]
        rw [this]
      · rw [List.take_of_length_le (by omega)] at hrow
        exact hrow
  · intro β w0 hst hb0
    refine ⟨⟨0, 0, []⟩, rfl, ?_, Nat.zero_le _, Nat.le_refl _, rfl, .nil⟩
    intro i o hi
    exact hst.at_ i o (by simpa [mObjs] using hi)
  · rintro w0 z w' ⟨hi, hLs, hrow⟩ hk0 hk' g bs' hbs'
    have hbs2 : ∀ b ∈ bs', w.heap.size ≤ b := fun b hb => by
      have := hw1.size
      rcases (hbs' b hb).1 with h | h
      · exact hbs1' b h
      · omega
    have hw' : Below w.heap.size w w' := hk'.below hw1 (Nat.le_refl _) hbs1'
    refine retF (Fine.mk' hw' hbs2) fun β w3 hst hb2 => ?_
    obtain ⟨rest, e2, e3⟩ := hst.at_ 0 _ rfl
    have hfr := (Fine.mk' hw' hbs2).new (hst.old rfl) 0 (by simp [SS.n])
    have hacc : AccAt w w3 47 1 (some ⟨β 0, 0, none⟩) z.kk n' z.Ls := .inr ⟨β 0, rfl, hfr, hst.lt 0 (by simp [SS.n]), by omega, by omega, rest, e2, e3⟩
    refine ⟨some ⟨β 0, 0, none⟩, z.kk, n', rfl, ?_⟩
    have hrow' : Row (AddrR w3 w3.heap.size) (same l ll) z.Ls := hrow.imp fun x vs hx => AddrR.lasts.sub _ _ _ _ _ _ (Below.sub (hb2.mono hB)) (Nat.le_trans hB hb2.size) hx
    exact (seq_of_row (S := fun _ => True) hacc hrow' (AddrR.lasts.len _ _) (by omega) (fun _ _ => trivial)).imp (Nat.le_refl _) fun a x _ hx => hx.sub (fun a v _ hc => ((cell_only _ _ _ _).1 hc).2) (Nat.le_refl _) (fun _ _ h => h)
  · rintro w0 z w' h
    exact h.elim

end Go.Proofs.YtdmnoagahjbjhaaGreatDoor
