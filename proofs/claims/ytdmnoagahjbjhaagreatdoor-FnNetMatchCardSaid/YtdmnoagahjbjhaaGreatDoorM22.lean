/- FnNetMatch. -/
import Derived.Test.YtdmnoagahjbjhaaGreatDoorM21
set_option linter.unusedVariables false
set_option linter.unusedSimpArgs false
set_option maxRecDepth 20000
namespace Go.Proofs.YtdmnoagahjbjhaaGreatDoor
open Go Go.Rx Go.RowKit
def L3w : SE → List Nat
  | .normal => [5, 0, 1, 32, 33, 34]
  | .exit 0 => [5, 0, 1]
  | _ => []
def lh3w (A : Option Addr) (n c : Nat) (A' : Option Addr) (n' c' : Nat) : LoopHook := mkHook 71 UV (.exit 0) [5, 0, 1] (fun x => [.xs x.A x.k x.c, .xs A n c, .xs A' n' c']) Unit .ret [] (fun _ => [])
def L3c : SE → List Nat
  | .normal => [8, 5, 55, 56]
  | .ret => [4]
  | _ => []
def lh3c : LoopHook := mkHook 71 Unit .ret [4] (fun _ => [.bool false true]) Unit (.exit 2) [] (fun _ => [])
def hk3 (A : Option Addr) (n c : Nat) (A' : Option Addr) (n' c' : Nat) : Hooks := { calls := fun f => if f = 11 then some uvHook else if f = 5 ∨ f = 6 ∨ f = 7 ∨ f = 8 ∨ f = 9 ∨ f = 10 ∨ f = 12 then some bHook else none, loops := fun _ k => if k = 8 then some (lh3w A n c A' n' c') else some lh3c }
def hk3r : Hooks := { calls := fun f => if f = 10 ∨ f = 12 then some bHook else none, loops := fun _ _ => none }
set_option maxRecDepth 100000 in
theorem t3 (A : Option Addr) (n c : Nat) (A' : Option Addr) (n' c' : Nat) (w : World) : xFunc Tryz.prog (hk3 A n c A' n' c') 500 3 [.xs A n c, .xs A' n' c'] (SS.mk [] [] true w []) =
  (.call 5 [(.xs A n c)] (SS.mk [] [] true w []) (Hook.X (bHook)) (Hook.out (bHook) [(.xs A n c)] (SS.mk [] [] true w [])) fun x0 w0 b0 =>
  (.split (!x0)
   (.leaf .ret [(.bool true true)] (SS.mk [] [] true w0 b0))
   (.call 6 [(.xs A' n' c')] (SS.mk [] [] true w0 b0) (Hook.X (bHook)) (Hook.out (bHook) [(.xs A' n' c')] (SS.mk [] [] true w0 b0)) fun x1 w1 b1 =>
   (.split (!x1)
    (.leaf .ret [(.bool true true)] (SS.mk [] [] true w1 b1))
    (.call 7 [(.xs A n c)] (SS.mk [] [] true w1 b1) (Hook.X (bHook)) (Hook.out (bHook) [(.xs A n c)] (SS.mk [] [] true w1 b1)) fun x2 w2 b2 =>
    (.split (!x2)
     (.call 9 [] (SS.mk [] [] true w2 b2) (Hook.X (bHook)) (Hook.out (bHook) [] (SS.mk [] [] true w2 b2)) fun x3 w3 b3 =>
     (.leaf .ret [(.bool x3 false)] (SS.mk [] [] true w3 b3)))
     (.call 8 [(.xs A' n' c')] (SS.mk [] [] true w2 b2) (Hook.X (bHook)) (Hook.out (bHook) [(.xs A' n' c')] (SS.mk [] [] true w2 b2)) fun x3 w3 b3 =>
     (.split (!x3)
      (.call 9 [] (SS.mk [] [] true w3 b3) (Hook.X (bHook)) (Hook.out (bHook) [] (SS.mk [] [] true w3 b3)) fun x4 w4 b4 =>
      (.leaf .ret [(.bool x4 false)] (SS.mk [] [] true w4 b4)))
      (.split (decide ((↑n' : Int) > (12 : Int)))
       (.call 9 [] (SS.mk [] [] true w3 b3) (Hook.X (bHook)) (Hook.out (bHook) [] (SS.mk [] [] true w3 b3)) fun x4 w4 b4 =>
       (.leaf .ret [(.bool x4 false)] (SS.mk [] [] true w4 b4)))
       (.loop 3 (loopOf Tryz.prog 3 8) ([(.xs A n c), (.xs A' n' c'), (.tup []), (.tup []), (.bool false true), (.one (.slice none 0 0) rfl), (.tup []), (.tup []), (.tup []), (.tup []), (.xs A n c), (.bool x0 false), (.bool (!x0) false), (.bool false true), (.xs A' n' c'), (.bool x1 false), (.bool (!x1) false), (.bool false true), (.xs A n c), (.bool x2 false), (.bool (!x2) false), (.bool false true), (.xs A' n' c'), (.bool x3 false), (.bool (!x3) false), (.bool (!x3) false), (.bool false true), (.xs A' n' c'), (.int .i64 ((↑n' : Int)) false), (.bool (decide ((↑n' : Int) > (12 : Int))) false), (.bool false true), (.tup []), (.xs A' n' c'), (.int .i64 ((↑n' : Int)) false), (.int .i64 0 true)] ++ List.replicate 36 undefS) (SS.mk [] [] true w3 b3) (LoopHook.X (lh3w A n c A' n' c')) (LoopHook.out (lh3w A n c A' n' c') ([(.xs A n c), (.xs A' n' c'), (.tup []), (.tup []), (.bool false true), (.one (.slice none 0 0) rfl), (.tup []), (.tup []), (.tup []), (.tup []), (.xs A n c), (.bool x0 false), (.bool (!x0) false), (.bool false true), (.xs A' n' c'), (.bool x1 false), (.bool (!x1) false), (.bool false true), (.xs A n c), (.bool x2 false), (.bool (!x2) false), (.bool false true), (.xs A' n' c'), (.bool x3 false), (.bool (!x3) false), (.bool (!x3) false), (.bool false true), (.xs A' n' c'), (.int .i64 ((↑n' : Int)) false), (.bool (decide ((↑n' : Int) > (12 : Int))) false), (.bool false true), (.tup []), (.xs A' n' c'), (.int .i64 ((↑n' : Int)) false), (.int .i64 0 true)] ++ List.replicate 36 undefS) (SS.mk [] [] true w3 b3)) (fun x4 w4 b4 =>
        (.call 11 [(.xs A n c), (.xs A' n' c')] (SS.mk [] [] true w4 b4) (Hook.X (uvHook)) (Hook.out (uvHook) [(.xs A n c), (.xs A' n' c')] (SS.mk [] [] true w4 b4)) fun x5 w5 b5 =>
        (.split ((↑x5.k : Int) != (↑x4.fst.k : Int))
         (.leaf .ret [(.bool false true)] (SS.mk [] [] true w5 b5))
         (.loop 3 (loopOf Tryz.prog 3 17) [(.xs A n c), (.xs A' n' c'), (.raw (x4.snd (2 : Nat))), (.raw (x4.snd (3 : Nat))), (.raw (x4.snd (4 : Nat))), (.xs x4.fst.A x4.fst.k x4.fst.c), (.raw (x4.snd (6 : Nat))), (.raw (x4.snd (7 : Nat))), (.xs x5.A x5.k x5.c), (.raw (x4.snd (9 : Nat))), (.raw (x4.snd (10 : Nat))), (.raw (x4.snd (11 : Nat))), (.raw (x4.snd (12 : Nat))), (.raw (x4.snd (13 : Nat))), (.raw (x4.snd (14 : Nat))), (.raw (x4.snd (15 : Nat))), (.raw (x4.snd (16 : Nat))), (.raw (x4.snd (17 : Nat))), (.raw (x4.snd (18 : Nat))), (.raw (x4.snd (19 : Nat))), (.raw (x4.snd (20 : Nat))), (.raw (x4.snd (21 : Nat))), (.raw (x4.snd (22 : Nat))), (.raw (x4.snd (23 : Nat))), (.raw (x4.snd (24 : Nat))), (.raw (x4.snd (25 : Nat))), (.raw (x4.snd (26 : Nat))), (.raw (x4.snd (27 : Nat))), (.raw (x4.snd (28 : Nat))), (.raw (x4.snd (29 : Nat))), (.raw (x4.snd (30 : Nat))), (.raw (x4.snd (31 : Nat))), (.raw (x4.snd (32 : Nat))), (.raw (x4.snd (33 : Nat))), (.raw (x4.snd (34 : Nat))), (.raw (x4.snd (35 : Nat))), (.raw (x4.snd (36 : Nat))), (.raw (x4.snd (37 : Nat))), (.raw (x4.snd (38 : Nat))), (.raw (x4.snd (39 : Nat))), (.raw (x4.snd (40 : Nat))), (.raw (x4.snd (41 : Nat))), (.raw (x4.snd (42 : Nat))), (.raw (x4.snd (43 : Nat))), (.raw (x4.snd (44 : Nat))), (.raw (x4.snd (45 : Nat))), (.xs A n c), (.xs A' n' c'), (.xs x5.A x5.k x5.c), (.xs x5.A x5.k x5.c), (.int .i64 ((↑x5.k : Int)) false), (.xs x4.fst.A x4.fst.k x4.fst.c), (.int .i64 ((↑x4.fst.k : Int)) false), (.bool false true), (.xs x5.A x5.k x5.c), (.int .i64 ((↑x5.k : Int)) false), (.int .i64 0 true), (.raw (x4.snd (57 : Nat))), (.raw (x4.snd (58 : Nat))), (.raw (x4.snd (59 : Nat))), (.raw (x4.snd (60 : Nat))), (.raw (x4.snd (61 : Nat))), (.raw (x4.snd (62 : Nat))), (.raw (x4.snd (63 : Nat))), (.raw (x4.snd (64 : Nat))), (.raw (x4.snd (65 : Nat))), (.raw (x4.snd (66 : Nat))), (.raw (x4.snd (67 : Nat))), (.raw (x4.snd (68 : Nat))), (.raw (x4.snd (69 : Nat))), (.raw (x4.snd (70 : Nat)))] (SS.mk [] [] true w5 b5) (LoopHook.X (lh3c)) (LoopHook.out (lh3c) [(.xs A n c), (.xs A' n' c'), (.raw (x4.snd (2 : Nat))), (.raw (x4.snd (3 : Nat))), (.raw (x4.snd (4 : Nat))), (.xs x4.fst.A x4.fst.k x4.fst.c), (.raw (x4.snd (6 : Nat))), (.raw (x4.snd (7 : Nat))), (.xs x5.A x5.k x5.c), (.raw (x4.snd (9 : Nat))), (.raw (x4.snd (10 : Nat))), (.raw (x4.snd (11 : Nat))), (.raw (x4.snd (12 : Nat))), (.raw (x4.snd (13 : Nat))), (.raw (x4.snd (14 : Nat))), (.raw (x4.snd (15 : Nat))), (.raw (x4.snd (16 : Nat))), (.raw (x4.snd (17 : Nat))), (.raw (x4.snd (18 : Nat))), (.raw (x4.snd (19 : Nat))), (.raw (x4.snd (20 : Nat))), (.raw (x4.snd (21 : Nat))), (.raw (x4.snd (22 : Nat))), (.raw (x4.snd (23 : Nat))), (.raw (x4.snd (24 : Nat))), (.raw (x4.snd (25 : Nat))), (.raw (x4.snd (26 : Nat))), (.raw (x4.snd (27 : Nat))), (.raw (x4.snd (28 : Nat))), (.raw (x4.snd (29 : Nat))), (.raw (x4.snd (30 : Nat))), (.raw (x4.snd (31 : Nat))), (.raw (x4.snd (32 : Nat))), (.raw (x4.snd (33 : Nat))), (.raw (x4.snd (34 : Nat))), (.raw (x4.snd (35 : Nat))), (.raw (x4.snd (36 : Nat))), (.raw (x4.snd (37 : Nat))), (.raw (x4.snd (38 : Nat))), (.raw (x4.snd (39 : Nat))), (.raw (x4.snd (40 : Nat))), (.raw (x4.snd (41 : Nat))), (.raw (x4.snd (42 : Nat))), (.raw (x4.snd (43 : Nat))), (.raw (x4.snd (44 : Nat))), (.raw (x4.snd (45 : Nat))), (.xs A n c), (.xs A' n' c'), (.xs x5.A x5.k x5.c), (.xs x5.A x5.k x5.c), (.int .i64 ((↑x5.k : Int)) false), (.xs x4.fst.A x4.fst.k x4.fst.c), (.int .i64 ((↑x4.fst.k : Int)) false), (.bool false true), (.xs x5.A x5.k x5.c), (.int .i64 ((↑x5.k : Int)) false), (.int .i64 0 true), (.raw (x4.snd (57 : Nat))), (.raw (x4.snd (58 : Nat))), (.raw (x4.snd (59 : Nat))), (.raw (x4.snd (60 : Nat))), (.raw (x4.snd (61 : Nat))), (.raw (x4.snd (62 : Nat))), (.raw (x4.snd (63 : Nat))), (.raw (x4.snd (64 : Nat))), (.raw (x4.snd (65 : Nat))), (.raw (x4.snd (66 : Nat))), (.raw (x4.snd (67 : Nat))), (.raw (x4.snd (68 : Nat))), (.raw (x4.snd (69 : Nat))), (.raw (x4.snd (70 : Nat)))] (SS.mk [] [] true w5 b5)) (fun x6 w6 b6 =>
          (.leaf .ret [(.bool false true)] (SS.mk [] [] true w6 b6)))
         (LoopHook.Y (lh3c)) (LoopHook.out' (lh3c) [(.xs A n c), (.xs A' n' c'), (.raw (x4.snd (2 : Nat))), (.raw (x4.snd (3 : Nat))), (.raw (x4.snd (4 : Nat))), (.xs x4.fst.A x4.fst.k x4.fst.c), (.raw (x4.snd (6 : Nat))), (.raw (x4.snd (7 : Nat))), (.xs x5.A x5.k x5.c), (.raw (x4.snd (9 : Nat))), (.raw (x4.snd (10 : Nat))), (.raw (x4.snd (11 : Nat))), (.raw (x4.snd (12 : Nat))), (.raw (x4.snd (13 : Nat))), (.raw (x4.snd (14 : Nat))), (.raw (x4.snd (15 : Nat))), (.raw (x4.snd (16 : Nat))), (.raw (x4.snd (17 : Nat))), (.raw (x4.snd (18 : Nat))), (.raw (x4.snd (19 : Nat))), (.raw (x4.snd (20 : Nat))), (.raw (x4.snd (21 : Nat))), (.raw (x4.snd (22 : Nat))), (.raw (x4.snd (23 : Nat))), (.raw (x4.snd (24 : Nat))), (.raw (x4.snd (25 : Nat))), (.raw (x4.snd (26 : Nat))), (.raw (x4.snd (27 : Nat))), (.raw (x4.snd (28 : Nat))), (.raw (x4.snd (29 : Nat))), (.raw (x4.snd (30 : Nat))), (.raw (x4.snd (31 : Nat))), (.raw (x4.snd (32 : Nat))), (.raw (x4.snd (33 : Nat))), (.raw (x4.snd (34 : Nat))), (.raw (x4.snd (35 : Nat))), (.raw (x4.snd (36 : Nat))), (.raw (x4.snd (37 : Nat))), (.raw (x4.snd (38 : Nat))), (.raw (x4.snd (39 : Nat))), (.raw (x4.snd (40 : Nat))), (.raw (x4.snd (41 : Nat))), (.raw (x4.snd (42 : Nat))), (.raw (x4.snd (43 : Nat))), (.raw (x4.snd (44 : Nat))), (.raw (x4.snd (45 : Nat))), (.xs A n c), (.xs A' n' c'), (.xs x5.A x5.k x5.c), (.xs x5.A x5.k x5.c), (.int .i64 ((↑x5.k : Int)) false), (.xs x4.fst.A x4.fst.k x4.fst.c), (.int .i64 ((↑x4.fst.k : Int)) false), (.bool false true), (.xs x5.A x5.k x5.c), (.int .i64 ((↑x5.k : Int)) false), (.int .i64 0 true), (.raw (x4.snd (57 : Nat))), (.raw (x4.snd (58 : Nat))), (.raw (x4.snd (59 : Nat))), (.raw (x4.snd (60 : Nat))), (.raw (x4.snd (61 : Nat))), (.raw (x4.snd (62 : Nat))), (.raw (x4.snd (63 : Nat))), (.raw (x4.snd (64 : Nat))), (.raw (x4.snd (65 : Nat))), (.raw (x4.snd (66 : Nat))), (.raw (x4.snd (67 : Nat))), (.raw (x4.snd (68 : Nat))), (.raw (x4.snd (69 : Nat))), (.raw (x4.snd (70 : Nat)))] (SS.mk [] [] true w5 b5)) (fun x6 w6 b6 =>
          (.call 9 [] (SS.mk [] [] true w6 b6) (Hook.X (bHook)) (Hook.out (bHook) [] (SS.mk [] [] true w6 b6)) fun x7 w7 b7 =>
          (.leaf .ret [(.bool x7 false)] (SS.mk [] [] true w7 b7))))))))
       (LoopHook.Y (lh3w A n c A' n' c')) (LoopHook.out' (lh3w A n c A' n' c') ([(.xs A n c), (.xs A' n' c'), (.tup []), (.tup []), (.bool false true), (.one (.slice none 0 0) rfl), (.tup []), (.tup []), (.tup []), (.tup []), (.xs A n c), (.bool x0 false), (.bool (!x0) false), (.bool false true), (.xs A' n' c'), (.bool x1 false), (.bool (!x1) false), (.bool false true), (.xs A n c), (.bool x2 false), (.bool (!x2) false), (.bool false true), (.xs A' n' c'), (.bool x3 false), (.bool (!x3) false), (.bool (!x3) false), (.bool false true), (.xs A' n' c'), (.int .i64 ((↑n' : Int)) false), (.bool (decide ((↑n' : Int) > (12 : Int))) false), (.bool false true), (.tup []), (.xs A' n' c'), (.int .i64 ((↑n' : Int)) false), (.int .i64 0 true)] ++ List.replicate 36 undefS) (SS.mk [] [] true w3 b3)) (fun x4 w4 b4 =>
        (.leaf .ret [(.raw (x4.snd (4 : Nat)))] (SS.mk [] [] true w4 b4))))))))))))) := by kernel_rfl
set_option maxRecDepth 100000 in
theorem n3 (A : Option Addr) (n c : Nat) (A' : Option Addr) (n' c' i : Nat) (w : World) (g : Nat → Value) : xCode Tryz.prog hk3r 1000 3 (loopOf Tryz.prog 3 8) (mkFrame ((L3w .normal).zip [.one (.slice none 0 0) rfl, .xs A n c, .xs A' n' c', .xs A' n' c', .int .i64 n' false, .int .i64 i false]) g 71 0) (fun e a s => .leaf e (sel L3w e a) s) (SS.mk [] [] true w []) =
  (.split (decide ((↑i : Int) < (↑n' : Int)))
   (.need ((0 : Int) ≤ (↑i : Int) ∧ (↑i : Int) < (↑n' : Int))
   (.need (A'.isSome = true)
   (.need (canRead w [] ((A'.getD default).add ((↑i : Int).toNat * (1 : Nat))) [SV.xs (slA w (((A'.getD default).add ((↑i : Int).toNat * (1 : Nat))).add (0 : Nat))) (slN w (((A'.getD default).add ((↑i : Int).toNat * (1 : Nat))).add (0 : Nat))) (slC w (((A'.getD default).add ((↑i : Int).toNat * (1 : Nat))).add (0 : Nat)))])
   (.call 10 [(.xs A n c), (.xs (slA w (((A'.getD default).add ((↑i : Int).toNat * (1 : Nat))).add (0 : Nat))) (slN w (((A'.getD default).add ((↑i : Int).toNat * (1 : Nat))).add (0 : Nat))) (slC w (((A'.getD default).add ((↑i : Int).toNat * (1 : Nat))).add (0 : Nat))))] (SS.mk [] [] true w []) (Hook.X (bHook)) (Hook.out (bHook) [(.xs A n c), (.xs (slA w (((A'.getD default).add ((↑i : Int).toNat * (1 : Nat))).add (0 : Nat))) (slN w (((A'.getD default).add ((↑i : Int).toNat * (1 : Nat))).add (0 : Nat))) (slC w (((A'.getD default).add ((↑i : Int).toNat * (1 : Nat))).add (0 : Nat))))] (SS.mk [] [] true w [])) fun x0 w0 b0 =>
   (.split x0
    (.need ((24 : Nat) ≤ (281474976710656 : Nat))
    (.need ((↑(1 : Nat) : Int) ≤ IntKind.i64.max)
    (.choose (.appendCap 1 0 22) fun c1 =>
    (.leaf .normal [(.slc 1 0 1 c1 true false), (.xs A n c), (.xs A' n' c'), (.xs A' n' c'), (.int .i64 ((↑n' : Int)) false), (.int .i64 (IntKind.i64.wrap ((↑i : Int) + (1 : Int))) false)] (SS.mk [(.cells [(.xs (slA w (((A'.getD default).add ((↑i : Int).toNat * (1 : Nat))).add (0 : Nat))) (slN w (((A'.getD default).add ((↑i : Int).toNat * (1 : Nat))).add (0 : Nat))) (slC w (((A'.getD default).add ((↑i : Int).toNat * (1 : Nat))).add (0 : Nat))))] 1 22 0 0), (.cells [(.xs (slA w (((A'.getD default).add ((↑i : Int).toNat * (1 : Nat))).add (0 : Nat))) (slN w (((A'.getD default).add ((↑i : Int).toNat * (1 : Nat))).add (0 : Nat))) (slC w (((A'.getD default).add ((↑i : Int).toNat * (1 : Nat))).add (0 : Nat))))] (c1 * (1 : Nat)) 22 0 0)] [] true w0 b0)))))
    (.leaf .normal [(.one (.slice none 0 0) rfl), (.xs A n c), (.xs A' n' c'), (.xs A' n' c'), (.int .i64 ((↑n' : Int)) false), (.int .i64 (IntKind.i64.wrap ((↑i : Int) + (1 : Int))) false)] (SS.mk [] [] true w0 b0)))))))
   (.leaf (.exit 0) [(.one (.slice none 0 0) rfl), (.xs A n c), (.xs A' n' c')] (SS.mk [] [] true w []))) := by kernel_rfl
set_option maxRecDepth 100000 in
theorem r3 (A : Option Addr) (n c : Nat) (A' : Option Addr) (n' c' i kk cc : Nat) (Ls : List Value) (w : World) (bs : List Nat) (g : Nat → Value) : xCode Tryz.prog hk3r 1000 3 (loopOf Tryz.prog 3 8) (mkFrame ((L3w .normal).zip [.slc 0 0 kk cc false false, .xs A n c, .xs A' n' c', .xs A' n' c', .int .i64 n' false, .int .i64 i false]) g 71 0) (fun e a s => .leaf e (sel L3w e a) s) (SS.mk [.vals Ls (cc * 1) 22 0 0] [] true w bs) =
  (.split (decide ((↑i : Int) < (↑n' : Int)))
   (.need ((0 : Int) ≤ (↑i : Int) ∧ (↑i : Int) < (↑n' : Int))
   (.need (A'.isSome = true)
   (.need (canRead w bs ((A'.getD default).add ((↑i : Int).toNat * (1 : Nat))) [SV.xs (slA w (((A'.getD default).add ((↑i : Int).toNat * (1 : Nat))).add (0 : Nat))) (slN w (((A'.getD default).add ((↑i : Int).toNat * (1 : Nat))).add (0 : Nat))) (slC w (((A'.getD default).add ((↑i : Int).toNat * (1 : Nat))).add (0 : Nat)))])
   (.call 10 [(.xs A n c), (.xs (slA w (((A'.getD default).add ((↑i : Int).toNat * (1 : Nat))).add (0 : Nat))) (slN w (((A'.getD default).add ((↑i : Int).toNat * (1 : Nat))).add (0 : Nat))) (slC w (((A'.getD default).add ((↑i : Int).toNat * (1 : Nat))).add (0 : Nat))))] (SS.mk [(.vals Ls (cc * (1 : Nat)) 22 0 0)] [] true w bs) (Hook.X (bHook)) (Hook.out (bHook) [(.xs A n c), (.xs (slA w (((A'.getD default).add ((↑i : Int).toNat * (1 : Nat))).add (0 : Nat))) (slN w (((A'.getD default).add ((↑i : Int).toNat * (1 : Nat))).add (0 : Nat))) (slC w (((A'.getD default).add ((↑i : Int).toNat * (1 : Nat))).add (0 : Nat))))] (SS.mk [(.vals Ls (cc * (1 : Nat)) 22 0 0)] [] true w bs)) fun x0 w0 b0 =>
   (.split x0
    (.split (decide (kk + (1 : Nat) ≤ cc))
     (.need ((0 : Nat) + kk * (1 : Nat) = Ls.length ∧ Ls.length + (denL id [SV.xs (slA w (((A'.getD default).add ((↑i : Int).toNat * (1 : Nat))).add (0 : Nat))) (slN w (((A'.getD default).add ((↑i : Int).toNat * (1 : Nat))).add (0 : Nat))) (slC w (((A'.getD default).add ((↑i : Int).toNat * (1 : Nat))).add (0 : Nat)))]).length ≤ cc * (1 : Nat) ∧ thawed (0 : Nat) (0 : Nat) Ls.length (denL id [SV.xs (slA w (((A'.getD default).add ((↑i : Int).toNat * (1 : Nat))).add (0 : Nat))) (slN w (((A'.getD default).add ((↑i : Int).toNat * (1 : Nat))).add (0 : Nat))) (slC w (((A'.getD default).add ((↑i : Int).toNat * (1 : Nat))).add (0 : Nat)))]).length = true)
     (.leaf .normal [(.slc 0 0 (kk + (1 : Nat)) cc false false), (.xs A n c), (.xs A' n' c'), (.xs A' n' c'), (.int .i64 ((↑n' : Int)) false), (.int .i64 (IntKind.i64.wrap ((↑i : Int) + (1 : Int))) false)] (SS.mk [(.vals (Ls ++ denL id [SV.xs (slA w (((A'.getD default).add ((↑i : Int).toNat * (1 : Nat))).add (0 : Nat))) (slN w (((A'.getD default).add ((↑i : Int).toNat * (1 : Nat))).add (0 : Nat))) (slC w (((A'.getD default).add ((↑i : Int).toNat * (1 : Nat))).add (0 : Nat)))]) (cc * (1 : Nat)) 22 0 0), (.cells [(.xs (slA w (((A'.getD default).add ((↑i : Int).toNat * (1 : Nat))).add (0 : Nat))) (slN w (((A'.getD default).add ((↑i : Int).toNat * (1 : Nat))).add (0 : Nat))) (slC w (((A'.getD default).add ((↑i : Int).toNat * (1 : Nat))).add (0 : Nat))))] 1 22 0 0)] [] true w0 b0)))
     (.need ((0 : Nat) + kk * (1 : Nat) ≤ Ls.length ∧ Builtin.nextslicecap (kk + (1 : Nat)) cc * (24 : Nat) ≤ (281474976710656 : Nat) ∧ (↑(kk + (1 : Nat)) : Int) ≤ IntKind.i64.max)
     (.choose (.appendCap (kk + (1 : Nat)) cc 22) fun c1 =>
     (.leaf .normal [(.slc 2 0 (kk + (1 : Nat)) c1 false false), (.xs A n c), (.xs A' n' c'), (.xs A' n' c'), (.int .i64 ((↑n' : Int)) false), (.int .i64 (IntKind.i64.wrap ((↑i : Int) + (1 : Int))) false)] (SS.mk [(.vals Ls (cc * (1 : Nat)) 22 0 0), (.cells [(.xs (slA w (((A'.getD default).add ((↑i : Int).toNat * (1 : Nat))).add (0 : Nat))) (slN w (((A'.getD default).add ((↑i : Int).toNat * (1 : Nat))).add (0 : Nat))) (slC w (((A'.getD default).add ((↑i : Int).toNat * (1 : Nat))).add (0 : Nat))))] 1 22 0 0), (.vals (List.take (kk * (1 : Nat)) (List.drop (0 : Nat) Ls) ++ denL id [SV.xs (slA w (((A'.getD default).add ((↑i : Int).toNat * (1 : Nat))).add (0 : Nat))) (slN w (((A'.getD default).add ((↑i : Int).toNat * (1 : Nat))).add (0 : Nat))) (slC w (((A'.getD default).add ((↑i : Int).toNat * (1 : Nat))).add (0 : Nat)))]) (c1 * (1 : Nat)) 22 0 0)] [] true w0 b0)))))
    (.leaf .normal [(.slc 0 0 kk cc false false), (.xs A n c), (.xs A' n' c'), (.xs A' n' c'), (.int .i64 ((↑n' : Int)) false), (.int .i64 (IntKind.i64.wrap ((↑i : Int) + (1 : Int))) false)] (SS.mk [(.vals Ls (cc * (1 : Nat)) 22 0 0)] [] true w0 b0)))))))
   (.leaf (.exit 0) [(.slc 0 0 kk cc false false), (.xs A n c), (.xs A' n' c')] (SS.mk [(.vals Ls (cc * (1 : Nat)) 22 0 0)] [] true w bs))) := by kernel_rfl
set_option maxRecDepth 100000 in
theorem cmp3 (A : Option Addr) (n c : Nat) (A' : Option Addr) (n' c' i : Nat) (w : World) (g : Nat → Value) : xCode Tryz.prog hk3r 1000 3 (loopOf Tryz.prog 3 17) (mkFrame ((L3c .normal).zip [.xs A n c, .xs A' n' c', .int .i64 n false, .int .i64 i false]) g 71 0) (fun e a s => .leaf e (sel L3c e a) s) (SS.mk [] [] true w []) =
  (.split (decide ((↑i : Int) < (↑n : Int)))
   (.need ((0 : Int) ≤ (↑i : Int) ∧ (↑i : Int) < (↑n : Int))
   (.need (A.isSome = true)
   (.need (canRead w [] ((A.getD default).add ((↑i : Int).toNat * (1 : Nat))) [SV.xs (slA w (((A.getD default).add ((↑i : Int).toNat * (1 : Nat))).add (0 : Nat))) (slN w (((A.getD default).add ((↑i : Int).toNat * (1 : Nat))).add (0 : Nat))) (slC w (((A.getD default).add ((↑i : Int).toNat * (1 : Nat))).add (0 : Nat)))])
   (.need ((0 : Int) ≤ (↑i : Int) ∧ (↑i : Int) < (↑n' : Int))
   (.need (A'.isSome = true)
   (.need (canRead w [] ((A'.getD default).add ((↑i : Int).toNat * (1 : Nat))) [SV.xs (slA w (((A'.getD default).add ((↑i : Int).toNat * (1 : Nat))).add (0 : Nat))) (slN w (((A'.getD default).add ((↑i : Int).toNat * (1 : Nat))).add (0 : Nat))) (slC w (((A'.getD default).add ((↑i : Int).toNat * (1 : Nat))).add (0 : Nat)))])
   (.call 12 [(.xs (slA w (((A.getD default).add ((↑i : Int).toNat * (1 : Nat))).add (0 : Nat))) (slN w (((A.getD default).add ((↑i : Int).toNat * (1 : Nat))).add (0 : Nat))) (slC w (((A.getD default).add ((↑i : Int).toNat * (1 : Nat))).add (0 : Nat)))), (.xs (slA w (((A'.getD default).add ((↑i : Int).toNat * (1 : Nat))).add (0 : Nat))) (slN w (((A'.getD default).add ((↑i : Int).toNat * (1 : Nat))).add (0 : Nat))) (slC w (((A'.getD default).add ((↑i : Int).toNat * (1 : Nat))).add (0 : Nat))))] (SS.mk [] [] true w []) (Hook.X (bHook)) (Hook.out (bHook) [(.xs (slA w (((A.getD default).add ((↑i : Int).toNat * (1 : Nat))).add (0 : Nat))) (slN w (((A.getD default).add ((↑i : Int).toNat * (1 : Nat))).add (0 : Nat))) (slC w (((A.getD default).add ((↑i : Int).toNat * (1 : Nat))).add (0 : Nat)))), (.xs (slA w (((A'.getD default).add ((↑i : Int).toNat * (1 : Nat))).add (0 : Nat))) (slN w (((A'.getD default).add ((↑i : Int).toNat * (1 : Nat))).add (0 : Nat))) (slC w (((A'.getD default).add ((↑i : Int).toNat * (1 : Nat))).add (0 : Nat))))] (SS.mk [] [] true w [])) fun x0 w0 b0 =>
   (.split (!x0)
    (.leaf .ret [(.bool false true)] (SS.mk [] [] true w0 b0))
    (.leaf .normal [(.xs A n c), (.xs A' n' c'), (.int .i64 ((↑n : Int)) false), (.int .i64 (IntKind.i64.wrap ((↑i : Int) + (1 : Int))) false)] (SS.mk [] [] true w0 b0))))))))))
   (.leaf (.exit 2) [] (SS.mk [] [] true w []))) := by kernel_rfl


/-- A hooked call, nothing tracked, of which a bool comes back. -/
theorem bcall0 {Q : SE → List Value → World → Prop} {w : World} {f : FuncId} {args : List SV} {out : Bool → SV × List SObj} {k : Bool → World → List Nat → T} (R : Bool → Prop) (hout : ∀ b, out b = (.bool b false, []))
    (hc : ∀ β wc, Below w.heap.size w wc → Calls Tryz.prog f (denL β args).toArray wc (Ret (BoolQ R) wc))
    (hk : ∀ b w', Below w.heap.size w w' → R b → (k b w' []).holds (ctx Tryz.prog Q)) : (T.call f args (SS.mk [] [] true w []) Bool out k).holds (ctx Tryz.prog Q) := by
  refine call0 (R := fun b _ _ => R b) (fun b => by rw [hout]; exact ⟨rfl, trivial⟩) (fun β wc hb => ?_) (fun b wc w' h1 hr h2 => hk b w' (h1.trans (h2.mono h1.size)) hr)
  refine (hc β wc hb).mono ?_
  rintro e w' ⟨v, rfl, ⟨b, rfl, hr⟩, hb'⟩
  exact ⟨b, by rw [hout]; rfl, hb', hr⟩

/-- A slice that lies in the memory that came in. -/
def OldR (w : World) (B : Nat) (x : List Comp) (vs : List Value) : Prop := ∃ A n c, vs = [.slice A n c] ∧ CompsAt w B A n x

theorem OldR.len {w : World} {B : Nat} (x : List Comp) (vs : List Value) (h : OldR w B x vs) : vs.length = 1 := by
  obtain ⟨A, n, c, rfl, _⟩ := h
  rfl

theorem sliceAt {w : World} {a : Addr} {A : Option Addr} {n c : Nat} (h : w.cell? a = some (.slice A n c)) : slA w (a.add 0) = A ∧ slN w (a.add 0) = n ∧ slC w (a.add 0) = c := by
  have h' : w.cell? (a.add 0) = some (.slice A n c) := h
  simp [slA, slN, slC, h']

theorem wantRow {l : List Comp} {ll : List (List Comp)} {i : Nat} {x : List Comp} (hx : ll[i]? = some x) (h : codes l = codes x) : same l (ll.take (i + 1)) = same l (ll.take i) ++ [x] := by
  rw [same_step hx, if_pos h]

theorem wantSkip {l : List Comp} {ll : List (List Comp)} {i : Nat} {x : List Comp} (hx : ll[i]? = some x) (h : ¬ codes l = codes x) : same l (ll.take (i + 1)) = same l (ll.take i) := by
  rw [same_step hx, if_neg h, List.append_nil]

theorem fnNetMatch_c (A : Option Addr) (n c : Nat) (A' : Option Addr) (n' c' : Nat) (l : List Comp) (ll : List (List Comp)) (B : Nat) (w : World) (h : CompsAt w B A n l) (h' : ListsAt w B A' n' ll) (hB : B ≤ w.heap.size) (hn : n ≤ reachBytes) (hn' : n' ≤ reachBytes) :
    Calls Tryz.prog 3 #[.slice A n c, .slice A' n' c'] w (Ret (BoolQ fun b => b = true) w) := by
  have hl := h.1
  have hl' := h'.1
  have hrb : reachBytes < 2 ^ 48 := by decide
  refine funF (hk := hk3 A n c A' n' c') (n := 500) (args := [.xs A n c, .xs A' n' c']) ⟨trivial, trivial, trivial⟩ ?_
  refine holds_eq (t3 A n c A' n' c' w) ?_
  have fin : ∀ w2 bs lit b, b = true → Below w.heap.size w w2 → (∀ b ∈ bs, w.heap.size ≤ b) → (T.leaf .ret [(.bool b lit)] (SS.mk [] [] true w2 bs)).holds (ctx Tryz.prog (retQ fun v w' => BoolQ (fun b => b = true) v w' ∧ Below w.heap.size w w')) := fun w2 bs lit b hb hw2 hbs => retF (Fine.mk' hw2 hbs) fun β w' _ _ => ⟨_, rfl, hb⟩
  have alive : ∀ w2 bs, Below w.heap.size w w2 → (∀ b ∈ bs, w.heap.size ≤ b) → (T.call 9 [] (SS.mk [] [] true w2 bs) (Hook.X bHook) (Hook.out bHook [] (SS.mk [] [] true w2 bs)) fun x w b => .leaf .ret [.bool x false] (SS.mk [] [] true w b)).holds (ctx Tryz.prog (retQ fun v w' => BoolQ (fun b => b = true) v w' ∧ Below w.heap.size w w')) := fun w2 bs hw2 hbs =>
    boolCallR (a0 := []) (fun b => b = true) (Fine.mk' hw2 hbs) rfl (fun β w3 _ _ _ => netAlive_c w3) (fun b w3 bs3 hb hw3 hbs3 => fin w3 bs3 _ b hb hw3 hbs3)
  refine bcall0 (fun b => b = true → Fits l) (fun _ => rfl) (fun β wc hb => zzFits6_s A n c l B wc (h.below (hb.mono hB) (Nat.le_refl _)) (Nat.le_trans hB hb.size) (by omega)) (fun b0 w0 hw0 hfit => ?_)
  refine splitT (fun _ => fin _ _ _ _ rfl hw0 (by simp)) (fun hb0 => ?_)
  have hfit := hfit (by simpa using hb0)
  refine bcall0 (fun b => b = true → ∀ x ∈ ll, Fits x) (fun _ => rfl) (fun β wc hb => ?_) (fun b1 w1 hw01 hfits => ?_)
  · have hb' := hw0.trans (hb.mono hw0.size)
    exact zzFits12_s A' n' c' ll B wc (h'.below (hb'.mono hB) (Nat.le_refl _)) (Nat.le_trans hB hb'.size) (by omega)
  have hw1 := hw0.trans (hw01.mono hw0.size)
  refine splitT (fun _ => fin _ _ _ _ rfl hw1 (by simp)) (fun hb1 => ?_)
  have hfits := hfits (by simpa using hb1)
  refine bcall0 (fun b => b = true → AllIn l ∧ n ≤ 12 ∧ 1 ≤ n) (fun _ => rfl) (fun β wc hb => ?_) (fun b2 w2 hw12 haddr => ?_)
  · have hb' := hw1.trans (hb.mono hw1.size)
    exact maAddress_c A n c l B wc (h.below (hb'.mono hB) (Nat.le_refl _)) (Nat.le_trans hB hb'.size) (by omega)
  have hw2 := hw1.trans (hw12.mono hw1.size)
  refine splitT (fun _ => alive _ _ hw2 (by simp)) (fun hb2 => ?_)
  obtain ⟨hall, h12, h1n⟩ := haddr (by simpa using hb2)
  refine bcall0 (fun b => b = true → ∀ l ∈ ll, EmptyOrIn l) (fun _ => rfl) (fun β wc hb => ?_) (fun b3 w3 hw23 hsimple => ?_)
  · have hb' := hw2.trans (hb.mono hw2.size)
    exact maSimpleL_c A' n' c' ll B wc (h'.below (hb'.mono hB) (Nat.le_refl _)) (Nat.le_trans hB hb'.size) (by omega)
  have hw3 := hw2.trans (hw23.mono hw2.size)
  refine splitT (fun _ => alive _ _ hw3 (by simp)) (fun hb3 => ?_)
  have hsimple := hsimple (by simpa using hb3)
  refine splitD (fun _ => alive _ _ hw3 (by simp)) (fun hn12 => ?_)
  have hn12' : n' ≤ 12 := by omega
  have hv : ∀ x ∈ l, (x.val.length : Int) < 2 ^ 46 := fun x hx => by have := hfit.2 x hx; omega
  have hv' : ∀ y ∈ ll, ∀ x ∈ y, (x.val.length : Int) < 2 ^ 46 := fun y hy x hx => by have := (hfits y hy).2 x hx; omega
  have hlen : ∀ x ∈ ll, (x.length : Int) < 2 ^ 40 := fun x hx => by have := (hsimple x hx).2; omega
  refine loopA0 (w := w) (Fine.nil hw3) 22 1 L3w (α := Nat) (fun i => [.xs A n c, .xs A' n' c', .xs A' n' c', .int .i64 n' false, .int .i64 i false]) (fun i => n' - i)
    (fun w0 => IF (OldR w B) (fun i => same l (ll.take i)) n' w0) (fun w0 => EF (OldR w B) 1 (same l (ll.take n')) [.slice A n c, .slice A' n' c'] w0)
    (fun _ => hk3r) 1000 (by simp) (by simp [L3w]) (by simp [L3w]) (fun _ => ⟨trivial, trivial, trivial, trivial, trivial, trivial⟩) rfl rfl rfl rfl (by simp) (by simp) (fun _ => ⟨trivial, trivial, trivial, trivial⟩) (fun _ => trivial) ?_ ?_ ?_ ?_
  · rintro w0 i w1 g hbw0 hI hb0 hbw
    have hi := hI.1
    refine holds_eq (n3 A n c A' n' c' i w1 g) (splitD (fun hlt => ?_) (fun hge => exitNilF (F := fun i => same l (ll.take i)) OldR.len (by omega) (by omega) hI hb0 (fun _ => rfl) (fun _ => rfl)))
    have hlt' : i < n' := by omega
    have hB1 : B ≤ w1.heap.size := Nat.le_trans hB hbw.size
    obtain ⟨ad, x, rfl, had, hx, hblk, A2, n2, c2, hcell, hcomps, hlt2⟩ := h'.get hlt'
    have hcell1 : w1.cell? (ad.add (i * 1)) = some (.slice A2 n2 c2) := by rw [below_cell (hbw.mono hB) hblk]; exact hcell
    obtain ⟨e1, e2, e3⟩ := sliceAt hcell1
    have e1' : slA w1 ((((some ad).getD default).add ((i : Int).toNat * 1)).add 0) = A2 := e1
    have e2' : slN w1 ((((some ad).getD default).add ((i : Int).toNat * 1)).add 0) = n2 := e2
    have e3' : slC w1 ((((some ad).getD default).add ((i : Int).toNat * 1)).add 0) = c2 := e3
    rw [e1', e2', e3']
    refine needT (by omega) (needT rfl (needT (canRead1 (Nat.lt_of_lt_of_le hblk hB1) (by simp) hcell1) ?_))
    refine callKN (R := fun b _ _ => (b = true ↔ codes l = codes x)) (bs := []) (w := w1) ⟨rfl, Keep.refl _ _, by simp⟩ (fun x => ⟨rfl, trivial⟩) (fun β w2 hst o hk => ?_) ?_
    · have hb2 : Below B w w2 := (hbw.mono hB).trans (hk.belowB hB1 (by simp))
      refine (netCodes_c A n c A2 n2 c2 l x B w2 (h.below hb2 (Nat.le_refl _)) (hcomps.below hb2 (Nat.le_refl _)) (Nat.le_trans hB1 hk.size) (by omega)).mono ?_
      rintro e w' ⟨v, rfl, ⟨b, rfl, hr⟩, hb'⟩
      exact ⟨b, rfl, hb', hr⟩
    rintro b w2 w3 bs' hk2 hb hb3 hk3 hbs'
    refine splitT (fun hbt => ?_) (fun hbf => ?_)
    · refine appNilF (R := OldR w B) (F := fun i => same l (ll.take i)) (x := x) (vs := [.slice A2 n2 c2]) OldR.len hlt' (wantRow hx (hb.1 hbt)) hI hb0 hk3 (fun b hb => (hbs' b hb).1) (by omega) (by decide) (fun c1 => rfl) (fun _ => rfl) ⟨A2, n2, c2, rfl, hcomps⟩ (fun β => ?_)
      rw [next_i hlt' (by omega)]; rfl
    · refine skipNilF (R := OldR w B) (F := fun i => same l (ll.take i)) hlt' (wantSkip hx (fun he => by rw [hb.2 he] at hbf; cases hbf)) hI hb0 hk3 (fun b hb => (hbs' b hb).1) (fun _ => rfl) (fun β => ?_)
      rw [next_i hlt' (by omega)]; rfl
  · rintro w0 i w1 g b kk cc Ls hbw0 hI hb0 hbw hb1 hb2 hLs hkc
    have hi := hI.1
    refine holds_eq (r3 A n c A' n' c' i kk cc Ls w1 [b] g) (splitD (fun hlt => ?_) (fun hge => exitRowF (F := fun i => same l (ll.take i)) OldR.len (by omega) (by omega) hI hb0 hb1 hLs hkc (fun _ => rfl)))
    have hlt' : i < n' := by omega
    have hB1 : B ≤ w1.heap.size := Nat.le_trans hB hbw.size
    have hBb : ∀ b' ∈ [b], B ≤ b' := fun b' hb' => by
      have := hbw0.size
      simp at hb'
      omega
    obtain ⟨ad, x, rfl, had, hx, hblk, A2, n2, c2, hcell, hcomps, hlt2⟩ := h'.get hlt'
    have hcell1 : w1.cell? (ad.add (i * 1)) = some (.slice A2 n2 c2) := by rw [below_cell (hbw.mono hB) hblk]; exact hcell
    obtain ⟨e1, e2, e3⟩ := sliceAt hcell1
    have e1' : slA w1 ((((some ad).getD default).add ((i : Int).toNat * 1)).add 0) = A2 := e1
    have e2' : slN w1 ((((some ad).getD default).add ((i : Int).toNat * 1)).add 0) = n2 := e2
    have e3' : slC w1 ((((some ad).getD default).add ((i : Int).toNat * 1)).add 0) = c2 := e3
    rw [e1', e2', e3']
    refine needT (by omega) (needT rfl (needT (canRead1 (Nat.lt_of_lt_of_le hblk hB1) (fun hm => absurd hblk (Nat.not_lt.2 (hBb _ hm))) hcell1) ?_))
    refine callKN (R := fun b _ _ => (b = true ↔ codes l = codes x)) (bs := [b]) (w := w1) ⟨rfl, Keep.refl _ _, fun b hb => .inl hb⟩ (fun x => ⟨rfl, trivial⟩) (fun β w2 hst o hk => ?_) ?_
    · have hb2 : Below B w w2 := (hbw.mono hB).trans (hk.belowB hB1 hBb)
      refine (netCodes_c A n c A2 n2 c2 l x B w2 (h.below hb2 (Nat.le_refl _)) (hcomps.below hb2 (Nat.le_refl _)) (Nat.le_trans hB1 hk.size) (by omega)).mono ?_
      rintro e w' ⟨v, rfl, ⟨b, rfl, hr⟩, hb'⟩
      exact ⟨b, rfl, hb', hr⟩
    rintro b' w2 w3 bs' hk2 hb hb3 hk3 hbs'
    have hFi : (same l (ll.take i)).length ≤ i := Nat.le_trans (same_le _ _) (by simp; omega)
    refine splitT (fun hbt => ?_) (fun hbf => ?_)
    · refine appRowF (R := OldR w B) (F := fun i => same l (ll.take i)) (x := x) (vs := [.slice A2 n2 c2]) OldR.len (by omega) hlt' (wantRow hx (hb.1 hbt)) hFi hI hb0 hb1 hLs hkc hk3 (fun b hb => (hbs' b hb).1) (by omega) (by omega) (idx := 2) rfl (fun c1 => rfl) ⟨A2, n2, c2, rfl, hcomps⟩ (fun β => ?_)
      rw [next_i hlt' (by omega)]; rfl
    · refine skipRowF (R := OldR w B) (F := fun i => same l (ll.take i)) hlt' (wantSkip hx (fun he => by rw [hb.2 he] at hbf; cases hbf)) hI hb0 hb1 hLs hkc hk3 (fun b hb => (hbs' b hb).1) (fun β => ?_)
      rw [next_i hlt' (by omega)]; rfl
  · intro β w0 hst hb
    exact ⟨0, rfl, Nat.zero_le _, by simp only [List.take_zero]; exact .nil⟩
  · rintro β w4 hst hb4 e lv w5 ⟨rfl, A3, k3, c3, rfl, hwant⟩ hb45 hw5
    refine .inl ⟨⟨A3, k3, c3⟩, rfl, rfl, fun g => ?_⟩
    rw [List.take_of_length_le (by omega)] at hwant
    refine row0 (R := ListR) (size := 1) (l := same l ll) rfl (fun β wc hb => ?_) ?_
    · have hb' := hw5.trans (hb.mono hw5.size)
      exact netMatch_c A n c A' n' c' l ll B wc (h.below (hb'.mono hB) (Nat.le_refl _)) (h'.below (hb'.mono hB) (Nat.le_refl _)) (Nat.le_trans hB hb'.size) (by omega) (by omega) hlen hall (fun y hy => (hsimple y hy).1) hv hv'
    rintro ⟨A6, k6, c6⟩ w6 w7 hb56 hb67 hrow
    dsimp only at hrow
    have hk36 : k6 = k3 := by rw [hrow.1, hwant.1]
    subst hk36
    have hw57 : Below w5.heap.size w5 w7 := hb56.trans (hb67.mono hb56.size)
    have hw7 : Below w.heap.size w w7 := hw5.trans (hw57.mono hw5.size)
    have hB7 : B ≤ w7.heap.size := Nat.le_trans hB hw7.size
    have hk6 : k6 ≤ 12 := by have h1 := hwant.1; have h2 := same_le l ll; omega
    refine splitT (fun hne => by simp at hne) (fun _ => ?_)
    refine loopG (Fine.start w7 _) L3c (α := Nat) (fun i => [.xs A6 k6 c6, .xs A3 k6 c3, .int .i64 k6 false, .int .i64 i false]) (fun i => k6 - i) (fun _ i _ => i ≤ k6) (fun _ e lv _ => e = .exit 2 ∧ lv = []) (fun _ => hk3r) 1000
      (by simp) (by simp [L3c]) (by simp [L3c]) (fun _ => ⟨trivial, trivial, trivial, trivial, trivial⟩) rfl rfl rfl (by simp) (by simp) (fun _ => ⟨trivial, trivial⟩) (fun _ => trivial) ?_ ?_ ?_
    · rintro w8 i w9 g hbw8 hi hb0 hbw
      refine holds_eq (cmp3 A6 k6 c6 A3 k6 c3 i w9 g) (splitD (fun hlt => ?_) (fun hge => exitF (Fine.nil hb0) (by simp) fun β w' _ _ => ⟨rfl, rfl⟩))
      have hlt' : i < k6 := by omega
      obtain ⟨a6, x6, ha6, hblk6, hx6, hcb6, vs6, ⟨A10, n10, c10, rfl, hrow10⟩, hc6⟩ := (hrow.sub ListR.lasts ((since_sub _ _ _).trans (Below.sub hbw)) hbw.size).get hlt'
      obtain ⟨a3, x3, ha3, hblk3, hx3, hcb3, vs3, ⟨A11, n11, c11, rfl, hcomps⟩, hc3⟩ := hwant.get hlt'
      rw [hx6] at hx3
      cases hx3
      subst ha6 ha3
      have hcell6 : w9.cell? (a6.add (i * 1)) = some (.slice A10 n10 c10) := hc6 0 _ rfl
      have hcell3' : w5.cell? (a3.add (i * 1)) = some (.slice A11 n11 c11) := ((cell_since _ _ _ _).1 (hc3 0 _ rfl)).2
      have h59 : Below w5.heap.size w5 w9 := hw57.trans (hbw.mono hw57.size)
      have hcell3 : w9.cell? (a3.add (i * 1)) = some (.slice A11 n11 c11) := by rw [below_cell h59 hcb3]; exact hcell3'
      have hxm : x6 ∈ same l ll := List.mem_of_getElem? hx6
      have hxl : x6 ∈ ll := (List.mem_filter.1 hxm).1
      have hw9 : Below w.heap.size w w9 := hw7.trans (hbw.mono hw7.size)
      obtain ⟨e1, e2, e3⟩ := sliceAt hcell6
      obtain ⟨f1, f2, f3⟩ := sliceAt hcell3
      have e1' : slA w9 ((((some a6).getD default).add ((i : Int).toNat * 1)).add 0) = A10 := e1
      have e2' : slN w9 ((((some a6).getD default).add ((i : Int).toNat * 1)).add 0) = n10 := e2
      have e3' : slC w9 ((((some a6).getD default).add ((i : Int).toNat * 1)).add 0) = c10 := e3
      have f1' : slA w9 ((((some a3).getD default).add ((i : Int).toNat * 1)).add 0) = A11 := f1
      have f2' : slN w9 ((((some a3).getD default).add ((i : Int).toNat * 1)).add 0) = n11 := f2
      have f3' : slC w9 ((((some a3).getD default).add ((i : Int).toNat * 1)).add 0) = c11 := f3
      rw [e1', e2', e3', f1', f2', f3']
      refine needT (by omega) (needT rfl (needT (canRead1 (lt_of_cell hcell6) (by simp) hcell6) (needT (by omega) (needT rfl (needT (canRead1 (lt_of_cell hcell3) (by simp) hcell3) ?_)))))
      refine bcall0 (fun b => b = true) (fun _ => rfl) (fun β wc hb => ?_) (fun b w10 hw10 hbt => ?_)
      · refine maAlike_c A10 n10 c10 A11 n11 c11 x6 w9.heap.size wc ?_ ?_ hb.size ?_
        · exact (compsAt_of_row hrow10 (fun y hy => by have := (hfits x6 hxl).2 y hy; omega)).below hb (Nat.le_refl _)
        · exact hcomps.below ((hw9.trans (hb.mono hw9.size)).mono hB) (Nat.le_trans hB hw9.size)
        · have h1 := hrow10.1
          have := hlen x6 hxl
          omega
      · subst hbt
        refine splitT (fun h => by cases h) (fun _ => nextF (Fine.nil (hb0.trans (hw10.mono hb0.size))) fun β w' _ _ => ⟨i + 1, by omega, ?_, by omega⟩)
        rw [next_i hlt' (by omega)]; rfl
    · intro β w8 hst hb
      exact ⟨0, rfl, Nat.zero_le _⟩
    · rintro β w8 hst hb e lv w9 ⟨rfl, rfl⟩ hb0 hb1
      exact .inr ⟨(), rfl, rfl, fun g bs hbs => alive _ _ (hw7.trans (hb1.mono hw7.size)) (fun b hb => Nat.le_trans hw7.size (hbs b hb))⟩

end Go.Proofs.YtdmnoagahjbjhaaGreatDoor
