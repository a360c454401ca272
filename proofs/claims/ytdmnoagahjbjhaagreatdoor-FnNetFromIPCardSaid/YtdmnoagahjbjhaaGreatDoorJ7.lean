/- Joined texts: zzDigit; the loop of zzParse6 that reads digits; NewComponent: what its tree hooks; NetFromIP: the trees. -/
import Derived.Test.YtdmnoagahjbjhaaGreatDoorM8
import Derived.Test.YtdmnoagahjbjhaaGreatDoorM26
section
/- zzDigit; the loop of zzParse6 that reads digits. -/
set_option linter.unusedVariables false
set_option linter.unusedSimpArgs false
set_option maxRecDepth 20000
namespace Go.Proofs.YtdmnoagahjbjhaaGreatDoor
open Go Go.Rx Go.RowKit
@[reducible] def intHk : Hook := { X := Int, out := fun _ s x => (.int .i64 x false, s.objs) }
structure P6 where
  s : ByteArray
  e : Int
  i : Nat
  l : List Int
structure O6 where
  s : ByteArray
  e : Int
  i : Nat
  q : Nat → Int
structure F6 where
  e : Int
  n : Int
  j : Int
  l : List Int
structure G6 where
  e : Int
  n : Int
  q : Nat → Int
@[reducible] def zer16 : List SV := [.int .u8 0 true, .int .u8 0 true, .int .u8 0 true, .int .u8 0 true, .int .u8 0 true, .int .u8 0 true, .int .u8 0 true, .int .u8 0 true, .int .u8 0 true, .int .u8 0 true, .int .u8 0 true, .int .u8 0 true, .int .u8 0 true, .int .u8 0 true, .int .u8 0 true, .int .u8 0 true]
@[reducible] def sixteen (q : Nat → Int) : List SV := [.int .u8 (q 0) false, .int .u8 (q 1) false, .int .u8 (q 2) false, .int .u8 (q 3) false, .int .u8 (q 4) false, .int .u8 (q 5) false, .int .u8 (q 6) false, .int .u8 (q 7) false, .int .u8 (q 8) false, .int .u8 (q 9) false, .int .u8 (q 10) false, .int .u8 (q 11) false, .int .u8 (q 12) false, .int .u8 (q 13) false, .int .u8 (q 14) false, .int .u8 (q 15) false]
@[reducible] def pObjs6 (l : List Int) : List SObj := [.cells zer16 16 196 0 0, .ints .u8 l 196 0 0]
@[reducible] def qObjs6 (q : Nat → Int) : List SObj := [.cells zer16 16 196 0 0, .cells (sixteen q) 16 196 0 0]
def Lp6 : SE → List Nat
  | .normal => [0, 2, 3, 4, 5, 6]
  | .exit _ => [0, 2, 3, 4, 5, 6]
  | _ => []
def Lp6d : SE → List Nat
  | .normal => [0, 2, 3, 4, 5, 6, 7, 8]
  | .exit _ => [0, 2, 3, 4, 5, 6, 7, 8]
  | _ => []
def Lp6f : SE → List Nat
  | .normal => [2, 3, 4, 5, 9, 10]
  | .exit _ => [2, 3, 4, 5, 9]
  | _ => []
def Lp6g : SE → List Nat
  | .normal => [2, 3, 4, 5, 9, 11]
  | .exit _ => [2, 3, 4]
  | _ => []
@[reducible] def p6Svs (z : P6) : List SV := [.str z.s false, .ptr 0 0, .bool false true, .ptr 1 0, .int .i64 z.e false, .int .i64 z.i false]
@[reducible] def o6Svs (z : O6) : List SV := [.str z.s false, .ptr 0 0, .bool false true, .ptr 1 0, .int .i64 z.e false, .int .i64 z.i false]
@[reducible] def d6Svs (z : P6) (p : Nat × Nat) : List SV := [.str z.s false, .ptr 0 0, .bool false true, .ptr 1 0, .int .i64 z.e false, .int .i64 z.i false, .int .i64 p.1 false, .int .i64 p.2 false]
@[reducible] def f6Svs (z : F6) : List SV := [.ptr 0 0, .bool false true, .ptr 1 0, .int .i64 z.e false, .int .i64 z.n false, .int .i64 z.j false]
@[reducible] def g6Svs (z : G6) : List SV := [.ptr 0 0, .bool false true, .ptr 1 0, .int .i64 z.e false, .int .i64 z.n false]
@[reducible] def h6Svs : List SV := [.ptr 0 0, .bool false true, .ptr 1 0]
def lhp6d (z : P6) : LoopHook := mkHookT 172 (Nat × Nat) (.exit 2) [0, 2, 3, 4, 5, 6, 7, 8] (d6Svs z) (fun _ => pObjs6 z.l) Unit .ret [] (fun _ => []) (fun _ => pObjs6 z.l)
def lhp6 : LoopHook := mkHookT 172 O6 (.exit 0) [0, 2, 3, 4, 5, 6] o6Svs (fun z => qObjs6 z.q) Unit .ret [] (fun _ => []) (fun _ => qObjs6 fun _ => 0)
def lhp6f : LoopHook := mkHookT 172 G6 (.exit 4) [2, 3, 4, 5, 9] g6Svs (fun z => qObjs6 z.q) Unit .ret [] (fun _ => []) (fun _ => qObjs6 fun _ => 0)
def lhp6g : LoopHook := mkHookT 172 (Nat → Int) (.exit 6) [2, 3, 4] (fun _ => h6Svs) qObjs6 Unit .ret [] (fun _ => []) (fun _ => qObjs6 fun _ => 0)
def hkp6 (z : P6) : Hooks := { calls := fun f => if f = 305 then some boolHook else if f = 354 then some intHk else none, loops := fun _ _ => some (lhp6d z) }
def hk306 : Hooks := { calls := fun _ => none, loops := fun _ k => if k = 10 then some lhp6 else if k = 44 then some lhp6f else some lhp6g }
set_option maxRecDepth 100000 in
theorem t354 (x : UInt8) (w : World) : xFunc Tryz.prog noHk 500 354 [.int .u8 x.toNat false] (SS.mk [] [] true w []) =
  (.split (decide ((↑x.toNat : Int) ≥ (48 : Int)))
   (.split (decide ((↑x.toNat : Int) ≤ (57 : Int)))
    (.leaf .ret [(.int .i64 (IntKind.i64.wrap (IntKind.u8.wrap ((↑x.toNat : Int) - (48 : Int)))) false)] (SS.mk [] [] true w []))
    (.split (decide ((↑x.toNat : Int) ≥ (97 : Int)))
     (.split (decide ((↑x.toNat : Int) ≤ (102 : Int)))
      (.leaf .ret [(.int .i64 (IntKind.i64.wrap (IntKind.i64.wrap (IntKind.u8.wrap ((↑x.toNat : Int) - (97 : Int))) + (10 : Int))) false)] (SS.mk [] [] true w []))
      (.split (decide ((↑x.toNat : Int) ≥ (65 : Int)))
       (.split (decide ((↑x.toNat : Int) ≤ (70 : Int)))
        (.leaf .ret [(.int .i64 (IntKind.i64.wrap (IntKind.i64.wrap (IntKind.u8.wrap ((↑x.toNat : Int) - (65 : Int))) + (10 : Int))) false)] (SS.mk [] [] true w []))
        (.leaf .ret [(.int .i64 (-1) true)] (SS.mk [] [] true w [])))
       (.leaf .ret [(.int .i64 (-1) true)] (SS.mk [] [] true w []))))
     (.split (decide ((↑x.toNat : Int) ≥ (65 : Int)))
      (.split (decide ((↑x.toNat : Int) ≤ (70 : Int)))
       (.leaf .ret [(.int .i64 (IntKind.i64.wrap (IntKind.i64.wrap (IntKind.u8.wrap ((↑x.toNat : Int) - (65 : Int))) + (10 : Int))) false)] (SS.mk [] [] true w []))
       (.leaf .ret [(.int .i64 (-1) true)] (SS.mk [] [] true w [])))
      (.leaf .ret [(.int .i64 (-1) true)] (SS.mk [] [] true w [])))))
   (.split (decide ((↑x.toNat : Int) ≥ (97 : Int)))
    (.split (decide ((↑x.toNat : Int) ≤ (102 : Int)))
     (.leaf .ret [(.int .i64 (IntKind.i64.wrap (IntKind.i64.wrap (IntKind.u8.wrap ((↑x.toNat : Int) - (97 : Int))) + (10 : Int))) false)] (SS.mk [] [] true w []))
     (.split (decide ((↑x.toNat : Int) ≥ (65 : Int)))
      (.split (decide ((↑x.toNat : Int) ≤ (70 : Int)))
       (.leaf .ret [(.int .i64 (IntKind.i64.wrap (IntKind.i64.wrap (IntKind.u8.wrap ((↑x.toNat : Int) - (65 : Int))) + (10 : Int))) false)] (SS.mk [] [] true w []))
       (.leaf .ret [(.int .i64 (-1) true)] (SS.mk [] [] true w [])))
      (.leaf .ret [(.int .i64 (-1) true)] (SS.mk [] [] true w []))))
    (.split (decide ((↑x.toNat : Int) ≥ (65 : Int)))
     (.split (decide ((↑x.toNat : Int) ≤ (70 : Int)))
      (.leaf .ret [(.int .i64 (IntKind.i64.wrap (IntKind.i64.wrap (IntKind.u8.wrap ((↑x.toNat : Int) - (65 : Int))) + (10 : Int))) false)] (SS.mk [] [] true w []))
      (.leaf .ret [(.int .i64 (-1) true)] (SS.mk [] [] true w [])))
     (.leaf .ret [(.int .i64 (-1) true)] (SS.mk [] [] true w []))))) := by kernel_rfl
set_option maxRecDepth 100000 in
theorem r306 (z : P6) (w : World) (bs : List Nat) (g : Nat → Value) : xCode Tryz.prog (hkp6 z) 1000 306 (loopOf Tryz.prog 306 10) (mkFrame ((Lp6 .normal).zip (p6Svs z)) g 172 0) (fun e a s => .leaf e (sel Lp6 e a) s) (SS.mk (pObjs6 z.l) [] true w bs) =
  (.split (decide ((↑z.i : Int) < (16 : Int)))
   (.loop 306 (loopOf Tryz.prog 306 12) [(.str z.s false), (.raw (g (1 : Nat))), (.ptr 0 0), (.bool false true), (.ptr 1 0), (.int .i64 z.e false), (.int .i64 ((↑z.i : Int)) false), (.int .i64 0 true), (.int .i64 0 true), (.raw (g (9 : Nat))), (.raw (g (10 : Nat))), (.raw (g (11 : Nat))), (.raw (g (12 : Nat))), (.raw (g (13 : Nat))), (.raw (g (14 : Nat))), (.raw (g (15 : Nat))), (.raw (g (16 : Nat))), (.raw (g (17 : Nat))), (.raw (g (18 : Nat))), (.raw (g (19 : Nat))), (.raw (g (20 : Nat))), (.raw (g (21 : Nat))), (.raw (g (22 : Nat))), (.raw (g (23 : Nat))), (.raw (g (24 : Nat))), (.raw (g (25 : Nat))), (.raw (g (26 : Nat))), (.raw (g (27 : Nat))), (.raw (g (28 : Nat))), (.raw (g (29 : Nat))), (.raw (g (30 : Nat))), (.int .i64 ((↑z.i : Int)) false), (.bool true true), (.raw (g (33 : Nat))), (.raw (g (34 : Nat))), (.raw (g (35 : Nat))), (.raw (g (36 : Nat))), (.raw (g (37 : Nat))), (.raw (g (38 : Nat))), (.raw (g (39 : Nat))), (.raw (g (40 : Nat))), (.raw (g (41 : Nat))), (.raw (g (42 : Nat))), (.raw (g (43 : Nat))), (.raw (g (44 : Nat))), (.raw (g (45 : Nat))), (.raw (g (46 : Nat))), (.raw (g (47 : Nat))), (.raw (g (48 : Nat))), (.raw (g (49 : Nat))), (.raw (g (50 : Nat))), (.raw (g (51 : Nat))), (.raw (g (52 : Nat))), (.raw (g (53 : Nat))), (.raw (g (54 : Nat))), (.raw (g (55 : Nat))), (.raw (g (56 : Nat))), (.raw (g (57 : Nat))), (.raw (g (58 : Nat))), (.raw (g (59 : Nat))), (.raw (g (60 : Nat))), (.raw (g (61 : Nat))), (.raw (g (62 : Nat))), (.raw (g (63 : Nat))), (.raw (g (64 : Nat))), (.raw (g (65 : Nat))), (.raw (g (66 : Nat))), (.raw (g (67 : Nat))), (.raw (g (68 : Nat))), (.raw (g (69 : Nat))), (.raw (g (70 : Nat))), (.raw (g (71 : Nat))), (.raw (g (72 : Nat))), (.raw (g (73 : Nat))), (.raw (g (74 : Nat))), (.raw (g (75 : Nat))), (.raw (g (76 : Nat))), (.raw (g (77 : Nat))), (.raw (g (78 : Nat))), (.raw (g (79 : Nat))), (.raw (g (80 : Nat))), (.raw (g (81 : Nat))), (.raw (g (82 : Nat))), (.raw (g (83 : Nat))), (.raw (g (84 : Nat))), (.raw (g (85 : Nat))), (.raw (g (86 : Nat))), (.raw (g (87 : Nat))), (.raw (g (88 : Nat))), (.raw (g (89 : Nat))), (.raw (g (90 : Nat))), (.raw (g (91 : Nat))), (.raw (g (92 : Nat))), (.raw (g (93 : Nat))), (.raw (g (94 : Nat))), (.raw (g (95 : Nat))), (.raw (g (96 : Nat))), (.raw (g (97 : Nat))), (.raw (g (98 : Nat))), (.raw (g (99 : Nat))), (.raw (g (100 : Nat))), (.raw (g (101 : Nat))), (.raw (g (102 : Nat))), (.raw (g (103 : Nat))), (.raw (g (104 : Nat))), (.raw (g (105 : Nat))), (.raw (g (106 : Nat))), (.raw (g (107 : Nat))), (.raw (g (108 : Nat))), (.raw (g (109 : Nat))), (.raw (g (110 : Nat))), (.raw (g (111 : Nat))), (.raw (g (112 : Nat))), (.raw (g (113 : Nat))), (.raw (g (114 : Nat))), (.raw (g (115 : Nat))), (.raw (g (116 : Nat))), (.raw (g (117 : Nat))), (.raw (g (118 : Nat))), (.raw (g (119 : Nat))), (.raw (g (120 : Nat))), (.raw (g (121 : Nat))), (.raw (g (122 : Nat))), (.raw (g (123 : Nat))), (.raw (g (124 : Nat))), (.raw (g (125 : Nat))), (.raw (g (126 : Nat))), (.raw (g (127 : Nat))), (.raw (g (128 : Nat))), (.raw (g (129 : Nat))), (.raw (g (130 : Nat))), (.raw (g (131 : Nat))), (.raw (g (132 : Nat))), (.raw (g (133 : Nat))), (.raw (g (134 : Nat))), (.raw (g (135 : Nat))), (.raw (g (136 : Nat))), (.raw (g (137 : Nat))), (.raw (g (138 : Nat))), (.raw (g (139 : Nat))), (.raw (g (140 : Nat))), (.raw (g (141 : Nat))), (.raw (g (142 : Nat))), (.raw (g (143 : Nat))), (.raw (g (144 : Nat))), (.raw (g (145 : Nat))), (.raw (g (146 : Nat))), (.raw (g (147 : Nat))), (.raw (g (148 : Nat))), (.raw (g (149 : Nat))), (.raw (g (150 : Nat))), (.raw (g (151 : Nat))), (.raw (g (152 : Nat))), (.raw (g (153 : Nat))), (.raw (g (154 : Nat))), (.raw (g (155 : Nat))), (.raw (g (156 : Nat))), (.raw (g (157 : Nat))), (.raw (g (158 : Nat))), (.raw (g (159 : Nat))), (.raw (g (160 : Nat))), (.raw (g (161 : Nat))), (.raw (g (162 : Nat))), (.raw (g (163 : Nat))), (.raw (g (164 : Nat))), (.raw (g (165 : Nat))), (.raw (g (166 : Nat))), (.raw (g (167 : Nat))), (.raw (g (168 : Nat))), (.raw (g (169 : Nat))), (.raw (g (170 : Nat))), (.raw (g (171 : Nat)))] (SS.mk [(.cells [(.int .u8 0 true), (.int .u8 0 true), (.int .u8 0 true), (.int .u8 0 true), (.int .u8 0 true), (.int .u8 0 true), (.int .u8 0 true), (.int .u8 0 true), (.int .u8 0 true), (.int .u8 0 true), (.int .u8 0 true), (.int .u8 0 true), (.int .u8 0 true), (.int .u8 0 true), (.int .u8 0 true), (.int .u8 0 true)] 16 196 0 0), (.ints .u8 z.l 196 0 0)] [] true w bs) (LoopHook.X (lhp6d z)) (LoopHook.out (lhp6d z) [(.str z.s false), (.raw (g (1 : Nat))), (.ptr 0 0), (.bool false true), (.ptr 1 0), (.int .i64 z.e false), (.int .i64 ((↑z.i : Int)) false), (.int .i64 0 true), (.int .i64 0 true), (.raw (g (9 : Nat))), (.raw (g (10 : Nat))), (.raw (g (11 : Nat))), (.raw (g (12 : Nat))), (.raw (g (13 : Nat))), (.raw (g (14 : Nat))), (.raw (g (15 : Nat))), (.raw (g (16 : Nat))), (.raw (g (17 : Nat))), (.raw (g (18 : Nat))), (.raw (g (19 : Nat))), (.raw (g (20 : Nat))), (.raw (g (21 : Nat))), (.raw (g (22 : Nat))), (.raw (g (23 : Nat))), (.raw (g (24 : Nat))), (.raw (g (25 : Nat))), (.raw (g (26 : Nat))), (.raw (g (27 : Nat))), (.raw (g (28 : Nat))), (.raw (g (29 : Nat))), (.raw (g (30 : Nat))), (.int .i64 ((↑z.i : Int)) false), (.bool true true), (.raw (g (33 : Nat))), (.raw (g (34 : Nat))), (.raw (g (35 : Nat))), (.raw (g (36 : Nat))), (.raw (g (37 : Nat))), (.raw (g (38 : Nat))), (.raw (g (39 : Nat))), (.raw (g (40 : Nat))), (.raw (g (41 : Nat))), (.raw (g (42 : Nat))), (.raw (g (43 : Nat))), (.raw (g (44 : Nat))), (.raw (g (45 : Nat))), (.raw (g (46 : Nat))), (.raw (g (47 : Nat))), (.raw (g (48 : Nat))), (.raw (g (49 : Nat))), (.raw (g (50 : Nat))), (.raw (g (51 : Nat))), (.raw (g (52 : Nat))), (.raw (g (53 : Nat))), (.raw (g (54 : Nat))), (.raw (g (55 : Nat))), (.raw (g (56 : Nat))), (.raw (g (57 : Nat))), (.raw (g (58 : Nat))), (.raw (g (59 : Nat))), (.raw (g (60 : Nat))), (.raw (g (61 : Nat))), (.raw (g (62 : Nat))), (.raw (g (63 : Nat))), (.raw (g (64 : Nat))), (.raw (g (65 : Nat))), (.raw (g (66 : Nat))), (.raw (g (67 : Nat))), (.raw (g (68 : Nat))), (.raw (g (69 : Nat))), (.raw (g (70 : Nat))), (.raw (g (71 : Nat))), (.raw (g (72 : Nat))), (.raw (g (73 : Nat))), (.raw (g (74 : Nat))), (.raw (g (75 : Nat))), (.raw (g (76 : Nat))), (.raw (g (77 : Nat))), (.raw (g (78 : Nat))), (.raw (g (79 : Nat))), (.raw (g (80 : Nat))), (.raw (g (81 : Nat))), (.raw (g (82 : Nat))), (.raw (g (83 : Nat))), (.raw (g (84 : Nat))), (.raw (g (85 : Nat))), (.raw (g (86 : Nat))), (.raw (g (87 : Nat))), (.raw (g (88 : Nat))), (.raw (g (89 : Nat))), (.raw (g (90 : Nat))), (.raw (g (91 : Nat))), (.raw (g (92 : Nat))), (.raw (g (93 : Nat))), (.raw (g (94 : Nat))), (.raw (g (95 : Nat))), (.raw (g (96 : Nat))), (.raw (g (97 : Nat))), (.raw (g (98 : Nat))), (.raw (g (99 : Nat))), (.raw (g (100 : Nat))), (.raw (g (101 : Nat))), (.raw (g (102 : Nat))), (.raw (g (103 : Nat))), (.raw (g (104 : Nat))), (.raw (g (105 : Nat))), (.raw (g (106 : Nat))), (.raw (g (107 : Nat))), (.raw (g (108 : Nat))), (.raw (g (109 : Nat))), (.raw (g (110 : Nat))), (.raw (g (111 : Nat))), (.raw (g (112 : Nat))), (.raw (g (113 : Nat))), (.raw (g (114 : Nat))), (.raw (g (115 : Nat))), (.raw (g (116 : Nat))), (.raw (g (117 : Nat))), (.raw (g (118 : Nat))), (.raw (g (119 : Nat))), (.raw (g (120 : Nat))), (.raw (g (121 : Nat))), (.raw (g (122 : Nat))), (.raw (g (123 : Nat))), (.raw (g (124 : Nat))), (.raw (g (125 : Nat))), (.raw (g (126 : Nat))), (.raw (g (127 : Nat))), (.raw (g (128 : Nat))), (.raw (g (129 : Nat))), (.raw (g (130 : Nat))), (.raw (g (131 : Nat))), (.raw (g (132 : Nat))), (.raw (g (133 : Nat))), (.raw (g (134 : Nat))), (.raw (g (135 : Nat))), (.raw (g (136 : Nat))), (.raw (g (137 : Nat))), (.raw (g (138 : Nat))), (.raw (g (139 : Nat))), (.raw (g (140 : Nat))), (.raw (g (141 : Nat))), (.raw (g (142 : Nat))), (.raw (g (143 : Nat))), (.raw (g (144 : Nat))), (.raw (g (145 : Nat))), (.raw (g (146 : Nat))), (.raw (g (147 : Nat))), (.raw (g (148 : Nat))), (.raw (g (149 : Nat))), (.raw (g (150 : Nat))), (.raw (g (151 : Nat))), (.raw (g (152 : Nat))), (.raw (g (153 : Nat))), (.raw (g (154 : Nat))), (.raw (g (155 : Nat))), (.raw (g (156 : Nat))), (.raw (g (157 : Nat))), (.raw (g (158 : Nat))), (.raw (g (159 : Nat))), (.raw (g (160 : Nat))), (.raw (g (161 : Nat))), (.raw (g (162 : Nat))), (.raw (g (163 : Nat))), (.raw (g (164 : Nat))), (.raw (g (165 : Nat))), (.raw (g (166 : Nat))), (.raw (g (167 : Nat))), (.raw (g (168 : Nat))), (.raw (g (169 : Nat))), (.raw (g (170 : Nat))), (.raw (g (171 : Nat)))] (SS.mk [(.cells [(.int .u8 0 true), (.int .u8 0 true), (.int .u8 0 true), (.int .u8 0 true), (.int .u8 0 true), (.int .u8 0 true), (.int .u8 0 true), (.int .u8 0 true), (.int .u8 0 true), (.int .u8 0 true), (.int .u8 0 true), (.int .u8 0 true), (.int .u8 0 true), (.int .u8 0 true), (.int .u8 0 true), (.int .u8 0 true)] 16 196 0 0), (.ints .u8 z.l 196 0 0)] [] true w bs)) (fun x0 w0 b0 =>
    (.split ((↑x0.fst.fst : Int) == (0 : Int))
     (.bad "load: cells not tracked")
     (.split (decide ((↑x0.fst.fst : Int) < (↑z.s.size : Int)))
      (.need ((0 : Int) ≤ (↑x0.fst.fst : Int) ∧ (↑x0.fst.fst : Int) < (↑z.s.size : Int))
      (.split ((↑(z.s.data.toList.getD (↑x0.fst.fst : Int).toNat (0 : UInt8)).toNat : Int) == (46 : Int))
       (.split (decide (z.e < (0 : Int)))
        (.split ((↑z.i : Int) != (12 : Int))
         (.bad "load: cells not tracked")
         (.split (decide (IntKind.i64.wrap ((↑z.i : Int) + (4 : Int)) > (16 : Int)))
          (.bad "load: cells not tracked")
          (.need ((0 : Int) ≤ IntKind.i64.wrap ((↑z.i : Int) + (4 : Int)) ∧ IntKind.i64.wrap ((↑z.i : Int) + (4 : Int)) ≤ (↑(16 : Nat) : Int))
          (.need ((0 : Int) ≤ (↑z.i : Int) ∧ (↑z.i : Int) ≤ (↑(IntKind.i64.wrap ((↑z.i : Int) + (4 : Int))).toNat : Int))
          (.call 305 [(.str z.s false), (.slc 1 (if (16 : Nat) = (↑z.i : Int).toNat then (0 : Nat) else (0 : Nat) + (↑z.i : Int).toNat * (1 : Nat)) ((IntKind.i64.wrap ((↑z.i : Int) + (4 : Int))).toNat - (↑z.i : Int).toNat) ((16 : Nat) - (↑z.i : Int).toNat) false false)] (SS.mk [(.cells [(.int .u8 0 true), (.int .u8 0 true), (.int .u8 0 true), (.int .u8 0 true), (.int .u8 0 true), (.int .u8 0 true), (.int .u8 0 true), (.int .u8 0 true), (.int .u8 0 true), (.int .u8 0 true), (.int .u8 0 true), (.int .u8 0 true), (.int .u8 0 true), (.int .u8 0 true), (.int .u8 0 true), (.int .u8 0 true)] 16 196 0 0), (.ints .u8 z.l 196 0 0)] [] true w0 b0) (Hook.X (boolHook)) (Hook.out (boolHook) [(.str z.s false), (.slc 1 (if (16 : Nat) = (↑z.i : Int).toNat then (0 : Nat) else (0 : Nat) + (↑z.i : Int).toNat * (1 : Nat)) ((IntKind.i64.wrap ((↑z.i : Int) + (4 : Int))).toNat - (↑z.i : Int).toNat) ((16 : Nat) - (↑z.i : Int).toNat) false false)] (SS.mk [(.cells [(.int .u8 0 true), (.int .u8 0 true), (.int .u8 0 true), (.int .u8 0 true), (.int .u8 0 true), (.int .u8 0 true), (.int .u8 0 true), (.int .u8 0 true), (.int .u8 0 true), (.int .u8 0 true), (.int .u8 0 true), (.int .u8 0 true), (.int .u8 0 true), (.int .u8 0 true), (.int .u8 0 true), (.int .u8 0 true)] 16 196 0 0), (.ints .u8 z.l 196 0 0)] [] true w0 b0)) fun x1 w1 b1 =>
          (.split (!x1)
           (.bad "load: cells not tracked")
           (.leaf (.exit 0) [(.str (ByteArray.mk #[]) true), (.ptr 0 0), (.bool false true), (.ptr 1 0), (.int .i64 z.e false), (.int .i64 (IntKind.i64.wrap ((↑z.i : Int) + (4 : Int))) false)] (SS.mk [(.cells [(.int .u8 0 true), (.int .u8 0 true), (.int .u8 0 true), (.int .u8 0 true), (.int .u8 0 true), (.int .u8 0 true), (.int .u8 0 true), (.int .u8 0 true), (.int .u8 0 true), (.int .u8 0 true), (.int .u8 0 true), (.int .u8 0 true), (.int .u8 0 true), (.int .u8 0 true), (.int .u8 0 true), (.int .u8 0 true)] 16 196 0 0), (.ints .u8 z.l 196 0 0)] [] true w1 b1))))))))
        (.split (decide (IntKind.i64.wrap ((↑z.i : Int) + (4 : Int)) > (16 : Int)))
         (.bad "load: cells not tracked")
         (.need ((0 : Int) ≤ IntKind.i64.wrap ((↑z.i : Int) + (4 : Int)) ∧ IntKind.i64.wrap ((↑z.i : Int) + (4 : Int)) ≤ (↑(16 : Nat) : Int))
         (.need ((0 : Int) ≤ (↑z.i : Int) ∧ (↑z.i : Int) ≤ (↑(IntKind.i64.wrap ((↑z.i : Int) + (4 : Int))).toNat : Int))
         (.call 305 [(.str z.s false), (.slc 1 (if (16 : Nat) = (↑z.i : Int).toNat then (0 : Nat) else (0 : Nat) + (↑z.i : Int).toNat * (1 : Nat)) ((IntKind.i64.wrap ((↑z.i : Int) + (4 : Int))).toNat - (↑z.i : Int).toNat) ((16 : Nat) - (↑z.i : Int).toNat) false false)] (SS.mk [(.cells [(.int .u8 0 true), (.int .u8 0 true), (.int .u8 0 true), (.int .u8 0 true), (.int .u8 0 true), (.int .u8 0 true), (.int .u8 0 true), (.int .u8 0 true), (.int .u8 0 true), (.int .u8 0 true), (.int .u8 0 true), (.int .u8 0 true), (.int .u8 0 true), (.int .u8 0 true), (.int .u8 0 true), (.int .u8 0 true)] 16 196 0 0), (.ints .u8 z.l 196 0 0)] [] true w0 b0) (Hook.X (boolHook)) (Hook.out (boolHook) [(.str z.s false), (.slc 1 (if (16 : Nat) = (↑z.i : Int).toNat then (0 : Nat) else (0 : Nat) + (↑z.i : Int).toNat * (1 : Nat)) ((IntKind.i64.wrap ((↑z.i : Int) + (4 : Int))).toNat - (↑z.i : Int).toNat) ((16 : Nat) - (↑z.i : Int).toNat) false false)] (SS.mk [(.cells [(.int .u8 0 true), (.int .u8 0 true), (.int .u8 0 true), (.int .u8 0 true), (.int .u8 0 true), (.int .u8 0 true), (.int .u8 0 true), (.int .u8 0 true), (.int .u8 0 true), (.int .u8 0 true), (.int .u8 0 true), (.int .u8 0 true), (.int .u8 0 true), (.int .u8 0 true), (.int .u8 0 true), (.int .u8 0 true)] 16 196 0 0), (.ints .u8 z.l 196 0 0)] [] true w0 b0)) fun x1 w1 b1 =>
         (.split (!x1)
          (.bad "load: cells not tracked")
          (.leaf (.exit 0) [(.str (ByteArray.mk #[]) true), (.ptr 0 0), (.bool false true), (.ptr 1 0), (.int .i64 z.e false), (.int .i64 (IntKind.i64.wrap ((↑z.i : Int) + (4 : Int))) false)] (SS.mk [(.cells [(.int .u8 0 true), (.int .u8 0 true), (.int .u8 0 true), (.int .u8 0 true), (.int .u8 0 true), (.int .u8 0 true), (.int .u8 0 true), (.int .u8 0 true), (.int .u8 0 true), (.int .u8 0 true), (.int .u8 0 true), (.int .u8 0 true), (.int .u8 0 true), (.int .u8 0 true), (.int .u8 0 true), (.int .u8 0 true)] 16 196 0 0), (.ints .u8 z.l 196 0 0)] [] true w1 b1))))))))
       (.need ((0 : Int) ≤ (↑z.i : Int) ∧ (↑z.i : Int) < (↑(16 : Nat) : Int))
       (.need ((0 : Nat) + (↑z.i : Int).toNat * (1 : Nat) < z.l.length)
       (.need (thawed (0 : Nat) (0 : Nat) ((0 : Nat) + (↑z.i : Int).toNat * (1 : Nat)) (1 : Nat) = true)
       (.need ((0 : Int) ≤ IntKind.i64.wrap ((↑z.i : Int) + (1 : Int)) ∧ IntKind.i64.wrap ((↑z.i : Int) + (1 : Int)) < (↑(16 : Nat) : Int))
       (.need ((0 : Nat) + (IntKind.i64.wrap ((↑z.i : Int) + (1 : Int))).toNat * (1 : Nat) < (z.l.set ((0 : Nat) + (↑z.i : Int).toNat * (1 : Nat)) (IntKind.u8.wrap ((↑x0.fst.snd : Int).fdiv ((2 : Int) ^ (8 : Nat))))).length)
       (.need (thawed (0 : Nat) (0 : Nat) ((0 : Nat) + (IntKind.i64.wrap ((↑z.i : Int) + (1 : Int))).toNat * (1 : Nat)) (1 : Nat) = true)
       (.need ((0 : Int) ≤ (↑x0.fst.fst : Int) ∧ (↑x0.fst.fst : Int) ≤ (↑z.s.size : Int))
       (.split ((↑(z.s.extract (↑x0.fst.fst : Int).toNat z.s.size).size : Int) == (0 : Int))
        (.leaf (.exit 0) [(.str (z.s.extract (↑x0.fst.fst : Int).toNat z.s.size) false), (.ptr 0 0), (.bool false true), (.ptr 1 0), (.int .i64 z.e false), (.int .i64 (IntKind.i64.wrap ((↑z.i : Int) + (2 : Int))) false)] (SS.mk [(.cells [(.int .u8 0 true), (.int .u8 0 true), (.int .u8 0 true), (.int .u8 0 true), (.int .u8 0 true), (.int .u8 0 true), (.int .u8 0 true), (.int .u8 0 true), (.int .u8 0 true), (.int .u8 0 true), (.int .u8 0 true), (.int .u8 0 true), (.int .u8 0 true), (.int .u8 0 true), (.int .u8 0 true), (.int .u8 0 true)] 16 196 0 0), (.ints .u8 ((z.l.set ((0 : Nat) + (↑z.i : Int).toNat * (1 : Nat)) (IntKind.u8.wrap ((↑x0.fst.snd : Int).fdiv ((2 : Int) ^ (8 : Nat))))).set ((0 : Nat) + (IntKind.i64.wrap ((↑z.i : Int) + (1 : Int))).toNat * (1 : Nat)) (IntKind.u8.wrap (↑x0.fst.snd : Int))) 196 0 0)] [] true w0 b0))
        (.need ((0 : Int) ≤ (0 : Int) ∧ (0 : Int) < (↑(z.s.extract (↑x0.fst.fst : Int).toNat z.s.size).size : Int))
        (.split ((↑((#[].extract (0 : Nat) (0 : Nat) ++ z.s.data.extract (↑x0.fst.fst : Int).toNat ((↑x0.fst.fst : Int).toNat + (z.s.size - (↑x0.fst.fst : Int).toNat)) ++ #[].extract ((0 : Nat) + min (z.s.size - (↑x0.fst.fst : Int).toNat) (z.s.data.size - (↑x0.fst.fst : Int).toNat)) (0 : Nat)).toList.getD (0 : Nat) (0 : UInt8)).toNat : Int) != (58 : Int))
         (.bad "load: cells not tracked")
         (.split ((↑(z.s.extract (↑x0.fst.fst : Int).toNat z.s.size).size : Int) == (1 : Int))
          (.bad "load: cells not tracked")
          (.need ((0 : Int) ≤ (1 : Int) ∧ (1 : Int) ≤ (↑(z.s.extract (↑x0.fst.fst : Int).toNat z.s.size).size : Int))
          (.need ((0 : Int) ≤ (0 : Int) ∧ (0 : Int) < (↑((z.s.extract (↑x0.fst.fst : Int).toNat z.s.size).extract (1 : Nat) (z.s.extract (↑x0.fst.fst : Int).toNat z.s.size).size).size : Int))
          (.split ((↑((#[].extract (0 : Nat) (0 : Nat) ++ (#[].extract (0 : Nat) (0 : Nat) ++ z.s.data.extract (↑x0.fst.fst : Int).toNat ((↑x0.fst.fst : Int).toNat + (z.s.size - (↑x0.fst.fst : Int).toNat)) ++ #[].extract ((0 : Nat) + min (z.s.size - (↑x0.fst.fst : Int).toNat) (z.s.data.size - (↑x0.fst.fst : Int).toNat)) (0 : Nat)).extract (1 : Nat) ((1 : Nat) + ((z.s.extract (↑x0.fst.fst : Int).toNat z.s.size).size - (1 : Nat))) ++ #[].extract ((0 : Nat) + min ((z.s.extract (↑x0.fst.fst : Int).toNat z.s.size).size - (1 : Nat)) ((#[].extract (0 : Nat) (0 : Nat) ++ z.s.data.extract (↑x0.fst.fst : Int).toNat ((↑x0.fst.fst : Int).toNat + (z.s.size - (↑x0.fst.fst : Int).toNat)) ++ #[].extract ((0 : Nat) + min (z.s.size - (↑x0.fst.fst : Int).toNat) (z.s.data.size - (↑x0.fst.fst : Int).toNat)) (0 : Nat)).size - (1 : Nat))) (0 : Nat)).toList.getD (0 : Nat) (0 : UInt8)).toNat : Int) == (58 : Int))
           (.split (decide (z.e ≥ (0 : Int)))
            (.bad "load: cells not tracked")
            (.need ((0 : Int) ≤ (1 : Int) ∧ (1 : Int) ≤ (↑((z.s.extract (↑x0.fst.fst : Int).toNat z.s.size).extract (1 : Nat) (z.s.extract (↑x0.fst.fst : Int).toNat z.s.size).size).size : Int))
            (.split ((↑(((z.s.extract (↑x0.fst.fst : Int).toNat z.s.size).extract (1 : Nat) (z.s.extract (↑x0.fst.fst : Int).toNat z.s.size).size).extract (1 : Nat) ((z.s.extract (↑x0.fst.fst : Int).toNat z.s.size).extract (1 : Nat) (z.s.extract (↑x0.fst.fst : Int).toNat z.s.size).size).size).size : Int) == (0 : Int))
             (.leaf (.exit 0) [(.str (((z.s.extract (↑x0.fst.fst : Int).toNat z.s.size).extract (1 : Nat) (z.s.extract (↑x0.fst.fst : Int).toNat z.s.size).size).extract (1 : Nat) ((z.s.extract (↑x0.fst.fst : Int).toNat z.s.size).extract (1 : Nat) (z.s.extract (↑x0.fst.fst : Int).toNat z.s.size).size).size) false), (.ptr 0 0), (.bool false true), (.ptr 1 0), (.int .i64 (IntKind.i64.wrap ((↑z.i : Int) + (2 : Int))) false), (.int .i64 (IntKind.i64.wrap ((↑z.i : Int) + (2 : Int))) false)] (SS.mk [(.cells [(.int .u8 0 true), (.int .u8 0 true), (.int .u8 0 true), (.int .u8 0 true), (.int .u8 0 true), (.int .u8 0 true), (.int .u8 0 true), (.int .u8 0 true), (.int .u8 0 true), (.int .u8 0 true), (.int .u8 0 true), (.int .u8 0 true), (.int .u8 0 true), (.int .u8 0 true), (.int .u8 0 true), (.int .u8 0 true)] 16 196 0 0), (.ints .u8 ((z.l.set ((0 : Nat) + (↑z.i : Int).toNat * (1 : Nat)) (IntKind.u8.wrap ((↑x0.fst.snd : Int).fdiv ((2 : Int) ^ (8 : Nat))))).set ((0 : Nat) + (IntKind.i64.wrap ((↑z.i : Int) + (1 : Int))).toNat * (1 : Nat)) (IntKind.u8.wrap (↑x0.fst.snd : Int))) 196 0 0)] [] true w0 b0))
             (.leaf .normal [(.str (((z.s.extract (↑x0.fst.fst : Int).toNat z.s.size).extract (1 : Nat) (z.s.extract (↑x0.fst.fst : Int).toNat z.s.size).size).extract (1 : Nat) ((z.s.extract (↑x0.fst.fst : Int).toNat z.s.size).extract (1 : Nat) (z.s.extract (↑x0.fst.fst : Int).toNat z.s.size).size).size) false), (.ptr 0 0), (.bool false true), (.ptr 1 0), (.int .i64 (IntKind.i64.wrap ((↑z.i : Int) + (2 : Int))) false), (.int .i64 (IntKind.i64.wrap ((↑z.i : Int) + (2 : Int))) false)] (SS.mk [(.cells [(.int .u8 0 true), (.int .u8 0 true), (.int .u8 0 true), (.int .u8 0 true), (.int .u8 0 true), (.int .u8 0 true), (.int .u8 0 true), (.int .u8 0 true), (.int .u8 0 true), (.int .u8 0 true), (.int .u8 0 true), (.int .u8 0 true), (.int .u8 0 true), (.int .u8 0 true), (.int .u8 0 true), (.int .u8 0 true)] 16 196 0 0), (.ints .u8 ((z.l.set ((0 : Nat) + (↑z.i : Int).toNat * (1 : Nat)) (IntKind.u8.wrap ((↑x0.fst.snd : Int).fdiv ((2 : Int) ^ (8 : Nat))))).set ((0 : Nat) + (IntKind.i64.wrap ((↑z.i : Int) + (1 : Int))).toNat * (1 : Nat)) (IntKind.u8.wrap (↑x0.fst.snd : Int))) 196 0 0)] [] true w0 b0)))))
           (.leaf .normal [(.str ((z.s.extract (↑x0.fst.fst : Int).toNat z.s.size).extract (1 : Nat) (z.s.extract (↑x0.fst.fst : Int).toNat z.s.size).size) false), (.ptr 0 0), (.bool false true), (.ptr 1 0), (.int .i64 z.e false), (.int .i64 (IntKind.i64.wrap ((↑z.i : Int) + (2 : Int))) false)] (SS.mk [(.cells [(.int .u8 0 true), (.int .u8 0 true), (.int .u8 0 true), (.int .u8 0 true), (.int .u8 0 true), (.int .u8 0 true), (.int .u8 0 true), (.int .u8 0 true), (.int .u8 0 true), (.int .u8 0 true), (.int .u8 0 true), (.int .u8 0 true), (.int .u8 0 true), (.int .u8 0 true), (.int .u8 0 true), (.int .u8 0 true)] 16 196 0 0), (.ints .u8 ((z.l.set ((0 : Nat) + (↑z.i : Int).toNat * (1 : Nat)) (IntKind.u8.wrap ((↑x0.fst.snd : Int).fdiv ((2 : Int) ^ (8 : Nat))))).set ((0 : Nat) + (IntKind.i64.wrap ((↑z.i : Int) + (1 : Int))).toNat * (1 : Nat)) (IntKind.u8.wrap (↑x0.fst.snd : Int))) 196 0 0)] [] true w0 b0))))))))))))))))))
      (.need ((0 : Int) ≤ (↑z.i : Int) ∧ (↑z.i : Int) < (↑(16 : Nat) : Int))
      (.need ((0 : Nat) + (↑z.i : Int).toNat * (1 : Nat) < z.l.length)
      (.need (thawed (0 : Nat) (0 : Nat) ((0 : Nat) + (↑z.i : Int).toNat * (1 : Nat)) (1 : Nat) = true)
      (.need ((0 : Int) ≤ IntKind.i64.wrap ((↑z.i : Int) + (1 : Int)) ∧ IntKind.i64.wrap ((↑z.i : Int) + (1 : Int)) < (↑(16 : Nat) : Int))
      (.need ((0 : Nat) + (IntKind.i64.wrap ((↑z.i : Int) + (1 : Int))).toNat * (1 : Nat) < (z.l.set ((0 : Nat) + (↑z.i : Int).toNat * (1 : Nat)) (IntKind.u8.wrap ((↑x0.fst.snd : Int).fdiv ((2 : Int) ^ (8 : Nat))))).length)
      (.need (thawed (0 : Nat) (0 : Nat) ((0 : Nat) + (IntKind.i64.wrap ((↑z.i : Int) + (1 : Int))).toNat * (1 : Nat)) (1 : Nat) = true)
      (.need ((0 : Int) ≤ (↑x0.fst.fst : Int) ∧ (↑x0.fst.fst : Int) ≤ (↑z.s.size : Int))
      (.split ((↑(z.s.extract (↑x0.fst.fst : Int).toNat z.s.size).size : Int) == (0 : Int))
       (.leaf (.exit 0) [(.str (z.s.extract (↑x0.fst.fst : Int).toNat z.s.size) false), (.ptr 0 0), (.bool false true), (.ptr 1 0), (.int .i64 z.e false), (.int .i64 (IntKind.i64.wrap ((↑z.i : Int) + (2 : Int))) false)] (SS.mk [(.cells [(.int .u8 0 true), (.int .u8 0 true), (.int .u8 0 true), (.int .u8 0 true), (.int .u8 0 true), (.int .u8 0 true), (.int .u8 0 true), (.int .u8 0 true), (.int .u8 0 true), (.int .u8 0 true), (.int .u8 0 true), (.int .u8 0 true), (.int .u8 0 true), (.int .u8 0 true), (.int .u8 0 true), (.int .u8 0 true)] 16 196 0 0), (.ints .u8 ((z.l.set ((0 : Nat) + (↑z.i : Int).toNat * (1 : Nat)) (IntKind.u8.wrap ((↑x0.fst.snd : Int).fdiv ((2 : Int) ^ (8 : Nat))))).set ((0 : Nat) + (IntKind.i64.wrap ((↑z.i : Int) + (1 : Int))).toNat * (1 : Nat)) (IntKind.u8.wrap (↑x0.fst.snd : Int))) 196 0 0)] [] true w0 b0))
       (.need ((0 : Int) ≤ (0 : Int) ∧ (0 : Int) < (↑(z.s.extract (↑x0.fst.fst : Int).toNat z.s.size).size : Int))
       (.split ((↑((#[].extract (0 : Nat) (0 : Nat) ++ z.s.data.extract (↑x0.fst.fst : Int).toNat ((↑x0.fst.fst : Int).toNat + (z.s.size - (↑x0.fst.fst : Int).toNat)) ++ #[].extract ((0 : Nat) + min (z.s.size - (↑x0.fst.fst : Int).toNat) (z.s.data.size - (↑x0.fst.fst : Int).toNat)) (0 : Nat)).toList.getD (0 : Nat) (0 : UInt8)).toNat : Int) != (58 : Int))
        (.bad "load: cells not tracked")
        (.split ((↑(z.s.extract (↑x0.fst.fst : Int).toNat z.s.size).size : Int) == (1 : Int))
         (.bad "load: cells not tracked")
         (.need ((0 : Int) ≤ (1 : Int) ∧ (1 : Int) ≤ (↑(z.s.extract (↑x0.fst.fst : Int).toNat z.s.size).size : Int))
         (.need ((0 : Int) ≤ (0 : Int) ∧ (0 : Int) < (↑((z.s.extract (↑x0.fst.fst : Int).toNat z.s.size).extract (1 : Nat) (z.s.extract (↑x0.fst.fst : Int).toNat z.s.size).size).size : Int))
         (.split ((↑((#[].extract (0 : Nat) (0 : Nat) ++ (#[].extract (0 : Nat) (0 : Nat) ++ z.s.data.extract (↑x0.fst.fst : Int).toNat ((↑x0.fst.fst : Int).toNat + (z.s.size - (↑x0.fst.fst : Int).toNat)) ++ #[].extract ((0 : Nat) + min (z.s.size - (↑x0.fst.fst : Int).toNat) (z.s.data.size - (↑x0.fst.fst : Int).toNat)) (0 : Nat)).extract (1 : Nat) ((1 : Nat) + ((z.s.extract (↑x0.fst.fst : Int).toNat z.s.size).size - (1 : Nat))) ++ #[].extract ((0 : Nat) + min ((z.s.extract (↑x0.fst.fst : Int).toNat z.s.size).size - (1 : Nat)) ((#[].extract (0 : Nat) (0 : Nat) ++ z.s.data.extract (↑x0.fst.fst : Int).toNat ((↑x0.fst.fst : Int).toNat + (z.s.size - (↑x0.fst.fst : Int).toNat)) ++ #[].extract ((0 : Nat) + min (z.s.size - (↑x0.fst.fst : Int).toNat) (z.s.data.size - (↑x0.fst.fst : Int).toNat)) (0 : Nat)).size - (1 : Nat))) (0 : Nat)).toList.getD (0 : Nat) (0 : UInt8)).toNat : Int) == (58 : Int))
          (.split (decide (z.e ≥ (0 : Int)))
           (.bad "load: cells not tracked")
           (.need ((0 : Int) ≤ (1 : Int) ∧ (1 : Int) ≤ (↑((z.s.extract (↑x0.fst.fst : Int).toNat z.s.size).extract (1 : Nat) (z.s.extract (↑x0.fst.fst : Int).toNat z.s.size).size).size : Int))
           (.split ((↑(((z.s.extract (↑x0.fst.fst : Int).toNat z.s.size).extract (1 : Nat) (z.s.extract (↑x0.fst.fst : Int).toNat z.s.size).size).extract (1 : Nat) ((z.s.extract (↑x0.fst.fst : Int).toNat z.s.size).extract (1 : Nat) (z.s.extract (↑x0.fst.fst : Int).toNat z.s.size).size).size).size : Int) == (0 : Int))
            (.leaf (.exit 0) [(.str (((z.s.extract (↑x0.fst.fst : Int).toNat z.s.size).extract (1 : Nat) (z.s.extract (↑x0.fst.fst : Int).toNat z.s.size).size).extract (1 : Nat) ((z.s.extract (↑x0.fst.fst : Int).toNat z.s.size).extract (1 : Nat) (z.s.extract (↑x0.fst.fst : Int).toNat z.s.size).size).size) false), (.ptr 0 0), (.bool false true), (.ptr 1 0), (.int .i64 (IntKind.i64.wrap ((↑z.i : Int) + (2 : Int))) false), (.int .i64 (IntKind.i64.wrap ((↑z.i : Int) + (2 : Int))) false)] (SS.mk [(.cells [(.int .u8 0 true), (.int .u8 0 true), (.int .u8 0 true), (.int .u8 0 true), (.int .u8 0 true), (.int .u8 0 true), (.int .u8 0 true), (.int .u8 0 true), (.int .u8 0 true), (.int .u8 0 true), (.int .u8 0 true), (.int .u8 0 true), (.int .u8 0 true), (.int .u8 0 true), (.int .u8 0 true), (.int .u8 0 true)] 16 196 0 0), (.ints .u8 ((z.l.set ((0 : Nat) + (↑z.i : Int).toNat * (1 : Nat)) (IntKind.u8.wrap ((↑x0.fst.snd : Int).fdiv ((2 : Int) ^ (8 : Nat))))).set ((0 : Nat) + (IntKind.i64.wrap ((↑z.i : Int) + (1 : Int))).toNat * (1 : Nat)) (IntKind.u8.wrap (↑x0.fst.snd : Int))) 196 0 0)] [] true w0 b0))
            (.leaf .normal [(.str (((z.s.extract (↑x0.fst.fst : Int).toNat z.s.size).extract (1 : Nat) (z.s.extract (↑x0.fst.fst : Int).toNat z.s.size).size).extract (1 : Nat) ((z.s.extract (↑x0.fst.fst : Int).toNat z.s.size).extract (1 : Nat) (z.s.extract (↑x0.fst.fst : Int).toNat z.s.size).size).size) false), (.ptr 0 0), (.bool false true), (.ptr 1 0), (.int .i64 (IntKind.i64.wrap ((↑z.i : Int) + (2 : Int))) false), (.int .i64 (IntKind.i64.wrap ((↑z.i : Int) + (2 : Int))) false)] (SS.mk [(.cells [(.int .u8 0 true), (.int .u8 0 true), (.int .u8 0 true), (.int .u8 0 true), (.int .u8 0 true), (.int .u8 0 true), (.int .u8 0 true), (.int .u8 0 true), (.int .u8 0 true), (.int .u8 0 true), (.int .u8 0 true), (.int .u8 0 true), (.int .u8 0 true), (.int .u8 0 true), (.int .u8 0 true), (.int .u8 0 true)] 16 196 0 0), (.ints .u8 ((z.l.set ((0 : Nat) + (↑z.i : Int).toNat * (1 : Nat)) (IntKind.u8.wrap ((↑x0.fst.snd : Int).fdiv ((2 : Int) ^ (8 : Nat))))).set ((0 : Nat) + (IntKind.i64.wrap ((↑z.i : Int) + (1 : Int))).toNat * (1 : Nat)) (IntKind.u8.wrap (↑x0.fst.snd : Int))) 196 0 0)] [] true w0 b0)))))
          (.leaf .normal [(.str ((z.s.extract (↑x0.fst.fst : Int).toNat z.s.size).extract (1 : Nat) (z.s.extract (↑x0.fst.fst : Int).toNat z.s.size).size) false), (.ptr 0 0), (.bool false true), (.ptr 1 0), (.int .i64 z.e false), (.int .i64 (IntKind.i64.wrap ((↑z.i : Int) + (2 : Int))) false)] (SS.mk [(.cells [(.int .u8 0 true), (.int .u8 0 true), (.int .u8 0 true), (.int .u8 0 true), (.int .u8 0 true), (.int .u8 0 true), (.int .u8 0 true), (.int .u8 0 true), (.int .u8 0 true), (.int .u8 0 true), (.int .u8 0 true), (.int .u8 0 true), (.int .u8 0 true), (.int .u8 0 true), (.int .u8 0 true), (.int .u8 0 true)] 16 196 0 0), (.ints .u8 ((z.l.set ((0 : Nat) + (↑z.i : Int).toNat * (1 : Nat)) (IntKind.u8.wrap ((↑x0.fst.snd : Int).fdiv ((2 : Int) ^ (8 : Nat))))).set ((0 : Nat) + (IntKind.i64.wrap ((↑z.i : Int) + (1 : Int))).toNat * (1 : Nat)) (IntKind.u8.wrap (↑x0.fst.snd : Int))) 196 0 0)] [] true w0 b0)))))))))))))))))))
   (LoopHook.Y (lhp6d z)) (LoopHook.out' (lhp6d z) [(.str z.s false), (.raw (g (1 : Nat))), (.ptr 0 0), (.bool false true), (.ptr 1 0), (.int .i64 z.e false), (.int .i64 ((↑z.i : Int)) false), (.int .i64 0 true), (.int .i64 0 true), (.raw (g (9 : Nat))), (.raw (g (10 : Nat))), (.raw (g (11 : Nat))), (.raw (g (12 : Nat))), (.raw (g (13 : Nat))), (.raw (g (14 : Nat))), (.raw (g (15 : Nat))), (.raw (g (16 : Nat))), (.raw (g (17 : Nat))), (.raw (g (18 : Nat))), (.raw (g (19 : Nat))), (.raw (g (20 : Nat))), (.raw (g (21 : Nat))), (.raw (g (22 : Nat))), (.raw (g (23 : Nat))), (.raw (g (24 : Nat))), (.raw (g (25 : Nat))), (.raw (g (26 : Nat))), (.raw (g (27 : Nat))), (.raw (g (28 : Nat))), (.raw (g (29 : Nat))), (.raw (g (30 : Nat))), (.int .i64 ((↑z.i : Int)) false), (.bool true true), (.raw (g (33 : Nat))), (.raw (g (34 : Nat))), (.raw (g (35 : Nat))), (.raw (g (36 : Nat))), (.raw (g (37 : Nat))), (.raw (g (38 : Nat))), (.raw (g (39 : Nat))), (.raw (g (40 : Nat))), (.raw (g (41 : Nat))), (.raw (g (42 : Nat))), (.raw (g (43 : Nat))), (.raw (g (44 : Nat))), (.raw (g (45 : Nat))), (.raw (g (46 : Nat))), (.raw (g (47 : Nat))), (.raw (g (48 : Nat))), (.raw (g (49 : Nat))), (.raw (g (50 : Nat))), (.raw (g (51 : Nat))), (.raw (g (52 : Nat))), (.raw (g (53 : Nat))), (.raw (g (54 : Nat))), (.raw (g (55 : Nat))), (.raw (g (56 : Nat))), (.raw (g (57 : Nat))), (.raw (g (58 : Nat))), (.raw (g (59 : Nat))), (.raw (g (60 : Nat))), (.raw (g (61 : Nat))), (.raw (g (62 : Nat))), (.raw (g (63 : Nat))), (.raw (g (64 : Nat))), (.raw (g (65 : Nat))), (.raw (g (66 : Nat))), (.raw (g (67 : Nat))), (.raw (g (68 : Nat))), (.raw (g (69 : Nat))), (.raw (g (70 : Nat))), (.raw (g (71 : Nat))), (.raw (g (72 : Nat))), (.raw (g (73 : Nat))), (.raw (g (74 : Nat))), (.raw (g (75 : Nat))), (.raw (g (76 : Nat))), (.raw (g (77 : Nat))), (.raw (g (78 : Nat))), (.raw (g (79 : Nat))), (.raw (g (80 : Nat))), (.raw (g (81 : Nat))), (.raw (g (82 : Nat))), (.raw (g (83 : Nat))), (.raw (g (84 : Nat))), (.raw (g (85 : Nat))), (.raw (g (86 : Nat))), (.raw (g (87 : Nat))), (.raw (g (88 : Nat))), (.raw (g (89 : Nat))), (.raw (g (90 : Nat))), (.raw (g (91 : Nat))), (.raw (g (92 : Nat))), (.raw (g (93 : Nat))), (.raw (g (94 : Nat))), (.raw (g (95 : Nat))), (.raw (g (96 : Nat))), (.raw (g (97 : Nat))), (.raw (g (98 : Nat))), (.raw (g (99 : Nat))), (.raw (g (100 : Nat))), (.raw (g (101 : Nat))), (.raw (g (102 : Nat))), (.raw (g (103 : Nat))), (.raw (g (104 : Nat))), (.raw (g (105 : Nat))), (.raw (g (106 : Nat))), (.raw (g (107 : Nat))), (.raw (g (108 : Nat))), (.raw (g (109 : Nat))), (.raw (g (110 : Nat))), (.raw (g (111 : Nat))), (.raw (g (112 : Nat))), (.raw (g (113 : Nat))), (.raw (g (114 : Nat))), (.raw (g (115 : Nat))), (.raw (g (116 : Nat))), (.raw (g (117 : Nat))), (.raw (g (118 : Nat))), (.raw (g (119 : Nat))), (.raw (g (120 : Nat))), (.raw (g (121 : Nat))), (.raw (g (122 : Nat))), (.raw (g (123 : Nat))), (.raw (g (124 : Nat))), (.raw (g (125 : Nat))), (.raw (g (126 : Nat))), (.raw (g (127 : Nat))), (.raw (g (128 : Nat))), (.raw (g (129 : Nat))), (.raw (g (130 : Nat))), (.raw (g (131 : Nat))), (.raw (g (132 : Nat))), (.raw (g (133 : Nat))), (.raw (g (134 : Nat))), (.raw (g (135 : Nat))), (.raw (g (136 : Nat))), (.raw (g (137 : Nat))), (.raw (g (138 : Nat))), (.raw (g (139 : Nat))), (.raw (g (140 : Nat))), (.raw (g (141 : Nat))), (.raw (g (142 : Nat))), (.raw (g (143 : Nat))), (.raw (g (144 : Nat))), (.raw (g (145 : Nat))), (.raw (g (146 : Nat))), (.raw (g (147 : Nat))), (.raw (g (148 : Nat))), (.raw (g (149 : Nat))), (.raw (g (150 : Nat))), (.raw (g (151 : Nat))), (.raw (g (152 : Nat))), (.raw (g (153 : Nat))), (.raw (g (154 : Nat))), (.raw (g (155 : Nat))), (.raw (g (156 : Nat))), (.raw (g (157 : Nat))), (.raw (g (158 : Nat))), (.raw (g (159 : Nat))), (.raw (g (160 : Nat))), (.raw (g (161 : Nat))), (.raw (g (162 : Nat))), (.raw (g (163 : Nat))), (.raw (g (164 : Nat))), (.raw (g (165 : Nat))), (.raw (g (166 : Nat))), (.raw (g (167 : Nat))), (.raw (g (168 : Nat))), (.raw (g (169 : Nat))), (.raw (g (170 : Nat))), (.raw (g (171 : Nat)))] (SS.mk [(.cells [(.int .u8 0 true), (.int .u8 0 true), (.int .u8 0 true), (.int .u8 0 true), (.int .u8 0 true), (.int .u8 0 true), (.int .u8 0 true), (.int .u8 0 true), (.int .u8 0 true), (.int .u8 0 true), (.int .u8 0 true), (.int .u8 0 true), (.int .u8 0 true), (.int .u8 0 true), (.int .u8 0 true), (.int .u8 0 true)] 16 196 0 0), (.ints .u8 z.l 196 0 0)] [] true w bs)) (fun x0 w0 b0 =>
    (.leaf .ret [] (SS.mk [(.cells [(.int .u8 0 true), (.int .u8 0 true), (.int .u8 0 true), (.int .u8 0 true), (.int .u8 0 true), (.int .u8 0 true), (.int .u8 0 true), (.int .u8 0 true), (.int .u8 0 true), (.int .u8 0 true), (.int .u8 0 true), (.int .u8 0 true), (.int .u8 0 true), (.int .u8 0 true), (.int .u8 0 true), (.int .u8 0 true)] 16 196 0 0), (.ints .u8 z.l 196 0 0)] [] true w0 b0))))
   (.leaf (.exit 0) [(.str z.s false), (.ptr 0 0), (.bool false true), (.ptr 1 0), (.int .i64 z.e false), (.int .i64 ((↑z.i : Int)) false)] (SS.mk [(.cells [(.int .u8 0 true), (.int .u8 0 true), (.int .u8 0 true), (.int .u8 0 true), (.int .u8 0 true), (.int .u8 0 true), (.int .u8 0 true), (.int .u8 0 true), (.int .u8 0 true), (.int .u8 0 true), (.int .u8 0 true), (.int .u8 0 true), (.int .u8 0 true), (.int .u8 0 true), (.int .u8 0 true), (.int .u8 0 true)] 16 196 0 0), (.ints .u8 z.l 196 0 0)] [] true w bs))) := by kernel_rfl
set_option maxRecDepth 100000 in
theorem r306d (z : P6) (p : Nat × Nat) (w : World) (bs : List Nat) (g : Nat → Value) : xCode Tryz.prog (hkp6 z) 1000 306 (loopOf Tryz.prog 306 12) (mkFrame ((Lp6d .normal).zip (d6Svs z p)) g 172 0) (fun e a s => .leaf e (sel Lp6d e a) s) (SS.mk (pObjs6 z.l) [] true w bs) =
  (.split (decide ((↑p.fst : Int) < (↑z.s.size : Int)))
   (.need ((0 : Int) ≤ (↑p.fst : Int) ∧ (↑p.fst : Int) < (↑z.s.size : Int))
   (.call 354 [(.int .u8 ((↑(z.s.data.toList.getD (↑p.fst : Int).toNat (0 : UInt8)).toNat : Int)) false)] (SS.mk [(.cells [(.int .u8 0 true), (.int .u8 0 true), (.int .u8 0 true), (.int .u8 0 true), (.int .u8 0 true), (.int .u8 0 true), (.int .u8 0 true), (.int .u8 0 true), (.int .u8 0 true), (.int .u8 0 true), (.int .u8 0 true), (.int .u8 0 true), (.int .u8 0 true), (.int .u8 0 true), (.int .u8 0 true), (.int .u8 0 true)] 16 196 0 0), (.ints .u8 z.l 196 0 0)] [] true w bs) (Hook.X (intHk)) (Hook.out (intHk) [(.int .u8 ((↑(z.s.data.toList.getD (↑p.fst : Int).toNat (0 : UInt8)).toNat : Int)) false)] (SS.mk [(.cells [(.int .u8 0 true), (.int .u8 0 true), (.int .u8 0 true), (.int .u8 0 true), (.int .u8 0 true), (.int .u8 0 true), (.int .u8 0 true), (.int .u8 0 true), (.int .u8 0 true), (.int .u8 0 true), (.int .u8 0 true), (.int .u8 0 true), (.int .u8 0 true), (.int .u8 0 true), (.int .u8 0 true), (.int .u8 0 true)] 16 196 0 0), (.ints .u8 z.l 196 0 0)] [] true w bs)) fun x0 w0 b0 =>
   (.split (decide (x0 ≥ (0 : Int)))
    (.need ((0 : Int) ≤ (↑p.fst : Int) ∧ (↑p.fst : Int) < (↑z.s.size : Int))
    (.call 354 [(.int .u8 ((↑(z.s.data.toList.getD (↑p.fst : Int).toNat (0 : UInt8)).toNat : Int)) false)] (SS.mk [(.cells [(.int .u8 0 true), (.int .u8 0 true), (.int .u8 0 true), (.int .u8 0 true), (.int .u8 0 true), (.int .u8 0 true), (.int .u8 0 true), (.int .u8 0 true), (.int .u8 0 true), (.int .u8 0 true), (.int .u8 0 true), (.int .u8 0 true), (.int .u8 0 true), (.int .u8 0 true), (.int .u8 0 true), (.int .u8 0 true)] 16 196 0 0), (.ints .u8 z.l 196 0 0)] [] true w0 b0) (Hook.X (intHk)) (Hook.out (intHk) [(.int .u8 ((↑(z.s.data.toList.getD (↑p.fst : Int).toNat (0 : UInt8)).toNat : Int)) false)] (SS.mk [(.cells [(.int .u8 0 true), (.int .u8 0 true), (.int .u8 0 true), (.int .u8 0 true), (.int .u8 0 true), (.int .u8 0 true), (.int .u8 0 true), (.int .u8 0 true), (.int .u8 0 true), (.int .u8 0 true), (.int .u8 0 true), (.int .u8 0 true), (.int .u8 0 true), (.int .u8 0 true), (.int .u8 0 true), (.int .u8 0 true)] 16 196 0 0), (.ints .u8 z.l 196 0 0)] [] true w0 b0)) fun x1 w1 b1 =>
    (.split (decide ((↑p.fst : Int) > (3 : Int)))
     (.bad "load: cells not tracked")
     (.leaf .normal [(.str z.s false), (.ptr 0 0), (.bool false true), (.ptr 1 0), (.int .i64 z.e false), (.int .i64 ((↑z.i : Int)) false), (.int .i64 (IntKind.i64.wrap ((↑p.fst : Int) + (1 : Int))) false), (.int .i64 (IntKind.i64.wrap (IntKind.i64.wrap ((↑p.snd : Int) * (2 : Int) ^ (4 : Nat)) + x1)) false)] (SS.mk [(.cells [(.int .u8 0 true), (.int .u8 0 true), (.int .u8 0 true), (.int .u8 0 true), (.int .u8 0 true), (.int .u8 0 true), (.int .u8 0 true), (.int .u8 0 true), (.int .u8 0 true), (.int .u8 0 true), (.int .u8 0 true), (.int .u8 0 true), (.int .u8 0 true), (.int .u8 0 true), (.int .u8 0 true), (.int .u8 0 true)] 16 196 0 0), (.ints .u8 z.l 196 0 0)] [] true w1 b1)))))
    (.leaf (.exit 2) [(.str z.s false), (.ptr 0 0), (.bool false true), (.ptr 1 0), (.int .i64 z.e false), (.int .i64 ((↑z.i : Int)) false), (.int .i64 ((↑p.fst : Int)) false), (.int .i64 ((↑p.snd : Int)) false)] (SS.mk [(.cells [(.int .u8 0 true), (.int .u8 0 true), (.int .u8 0 true), (.int .u8 0 true), (.int .u8 0 true), (.int .u8 0 true), (.int .u8 0 true), (.int .u8 0 true), (.int .u8 0 true), (.int .u8 0 true), (.int .u8 0 true), (.int .u8 0 true), (.int .u8 0 true), (.int .u8 0 true), (.int .u8 0 true), (.int .u8 0 true)] 16 196 0 0), (.ints .u8 z.l 196 0 0)] [] true w0 b0)))))
   (.leaf (.exit 2) [(.str z.s false), (.ptr 0 0), (.bool false true), (.ptr 1 0), (.int .i64 z.e false), (.int .i64 ((↑z.i : Int)) false), (.int .i64 ((↑p.fst : Int)) false), (.int .i64 ((↑p.snd : Int)) false)] (SS.mk [(.cells [(.int .u8 0 true), (.int .u8 0 true), (.int .u8 0 true), (.int .u8 0 true), (.int .u8 0 true), (.int .u8 0 true), (.int .u8 0 true), (.int .u8 0 true), (.int .u8 0 true), (.int .u8 0 true), (.int .u8 0 true), (.int .u8 0 true), (.int .u8 0 true), (.int .u8 0 true), (.int .u8 0 true), (.int .u8 0 true)] 16 196 0 0), (.ints .u8 z.l 196 0 0)] [] true w bs))) := by kernel_rfl
set_option maxRecDepth 100000 in
theorem r306f (z : F6) (w : World) (bs : List Nat) (g : Nat → Value) : xCode Tryz.prog hk306 1000 306 (loopOf Tryz.prog 306 44) (mkFrame ((Lp6f .normal).zip (f6Svs z)) g 172 0) (fun e a s => .leaf e (sel Lp6f e a) s) (SS.mk (pObjs6 z.l) [] true w bs) =
  (.split (decide (z.j ≥ z.e))
   (.need ((0 : Int) ≤ z.j ∧ z.j < (↑(16 : Nat) : Int))
   (.need ((0 : Nat) + z.j.toNat * (1 : Nat) < z.l.length)
   (.need ((0 : Int) ≤ IntKind.i64.wrap (z.j + z.n) ∧ IntKind.i64.wrap (z.j + z.n) < (↑(16 : Nat) : Int))
   (.need ((0 : Nat) + (IntKind.i64.wrap (z.j + z.n)).toNat * (1 : Nat) < z.l.length)
   (.need (thawed (0 : Nat) (0 : Nat) ((0 : Nat) + (IntKind.i64.wrap (z.j + z.n)).toNat * (1 : Nat)) (1 : Nat) = true)
   (.leaf .normal [(.ptr 0 0), (.bool false true), (.ptr 1 0), (.int .i64 z.e false), (.int .i64 z.n false), (.int .i64 (IntKind.i64.wrap (z.j - (1 : Int))) false)] (SS.mk [(.cells [(.int .u8 0 true), (.int .u8 0 true), (.int .u8 0 true), (.int .u8 0 true), (.int .u8 0 true), (.int .u8 0 true), (.int .u8 0 true), (.int .u8 0 true), (.int .u8 0 true), (.int .u8 0 true), (.int .u8 0 true), (.int .u8 0 true), (.int .u8 0 true), (.int .u8 0 true), (.int .u8 0 true), (.int .u8 0 true)] 16 196 0 0), (.ints .u8 (z.l.set ((0 : Nat) + (IntKind.i64.wrap (z.j + z.n)).toNat * (1 : Nat)) (z.l.getD ((0 : Nat) + z.j.toNat * (1 : Nat)) (0 : Int))) 196 0 0)] [] true w bs)))))))
   (.leaf (.exit 4) [(.ptr 0 0), (.bool false true), (.ptr 1 0), (.int .i64 z.e false), (.int .i64 z.n false)] (SS.mk [(.cells [(.int .u8 0 true), (.int .u8 0 true), (.int .u8 0 true), (.int .u8 0 true), (.int .u8 0 true), (.int .u8 0 true), (.int .u8 0 true), (.int .u8 0 true), (.int .u8 0 true), (.int .u8 0 true), (.int .u8 0 true), (.int .u8 0 true), (.int .u8 0 true), (.int .u8 0 true), (.int .u8 0 true), (.int .u8 0 true)] 16 196 0 0), (.ints .u8 z.l 196 0 0)] [] true w bs))) := by kernel_rfl
set_option maxRecDepth 100000 in
theorem r306g (z : F6) (w : World) (bs : List Nat) (g : Nat → Value) : xCode Tryz.prog hk306 1000 306 (loopOf Tryz.prog 306 48) (mkFrame ((Lp6g .normal).zip (f6Svs z)) g 172 0) (fun e a s => .leaf e (sel Lp6g e a) s) (SS.mk (pObjs6 z.l) [] true w bs) =
  (.split (decide (z.j < IntKind.i64.wrap (z.e + z.n)))
   (.need ((0 : Int) ≤ z.j ∧ z.j < (↑(16 : Nat) : Int))
   (.need ((0 : Nat) + z.j.toNat * (1 : Nat) < z.l.length)
   (.need (thawed (0 : Nat) (0 : Nat) ((0 : Nat) + z.j.toNat * (1 : Nat)) (1 : Nat) = true)
   (.leaf .normal [(.ptr 0 0), (.bool false true), (.ptr 1 0), (.int .i64 z.e false), (.int .i64 z.n false), (.int .i64 (IntKind.i64.wrap (z.j + (1 : Int))) false)] (SS.mk [(.cells [(.int .u8 0 true), (.int .u8 0 true), (.int .u8 0 true), (.int .u8 0 true), (.int .u8 0 true), (.int .u8 0 true), (.int .u8 0 true), (.int .u8 0 true), (.int .u8 0 true), (.int .u8 0 true), (.int .u8 0 true), (.int .u8 0 true), (.int .u8 0 true), (.int .u8 0 true), (.int .u8 0 true), (.int .u8 0 true)] 16 196 0 0), (.ints .u8 (z.l.set ((0 : Nat) + z.j.toNat * (1 : Nat)) (0 : Int)) 196 0 0)] [] true w bs)))))
   (.leaf (.exit 6) [(.ptr 0 0), (.bool false true), (.ptr 1 0)] (SS.mk [(.cells [(.int .u8 0 true), (.int .u8 0 true), (.int .u8 0 true), (.int .u8 0 true), (.int .u8 0 true), (.int .u8 0 true), (.int .u8 0 true), (.int .u8 0 true), (.int .u8 0 true), (.int .u8 0 true), (.int .u8 0 true), (.int .u8 0 true), (.int .u8 0 true), (.int .u8 0 true), (.int .u8 0 true), (.int .u8 0 true)] 16 196 0 0), (.ints .u8 z.l 196 0 0)] [] true w bs))) := by kernel_rfl

def digOf (x : UInt8) : Int := if 48 ≤ x.toNat ∧ x.toNat ≤ 57 then (x.toNat : Int) - 48 else if 97 ≤ x.toNat ∧ x.toNat ≤ 102 then (x.toNat : Int) - 87 else if 65 ≤ x.toNat ∧ x.toNat ≤ 70 then (x.toNat : Int) - 55 else -1

theorem u8wrapi {n : Int} (h0 : 0 ≤ n) (h1 : n < 256) : IntKind.u8.wrap n = n := by
  obtain ⟨m, rfl⟩ := Int.eq_ofNat_of_zero_le h0
  exact u8_wrap (by omega)

theorem zzDigit_c (x : UInt8) (w : World) : Calls Tryz.prog 354 #[.int .u8 (x.toNat : Int)] w (Ret (fun v _ => v = .int .i64 (digOf x)) w) := by
  refine funF (hk := noHk) (n := 500) (args := [.int .u8 x.toNat false]) ⟨trivial, trivial⟩ ?_
  have hx := x.toNat_lt
  refine holds_eq (t354 x w) ?_
  have leafD : ∀ (z : Int) (b : Bool), z = digOf x → (T.leaf .ret [.int .i64 z b] (SS.mk [] [] true w [])).holds (ctx Tryz.prog (retQ fun v w' => v = .int .i64 (digOf x) ∧ Below w.heap.size w w')) := fun z b hz => by
    subst hz
    exact retF (Fine.start w _) fun β w' _ _ => rfl
  repeat' (refine splitD (fun _ => ?_) (fun _ => ?_))
  all_goals
    refine leafD _ _ ?_
    first
      | (rw [u8wrapi (by omega) (by omega), show IntKind.i64.wrap ((x.toNat : Int) - 97) = (x.toNat : Int) - 97 from wrapi (by omega) (by omega), wrapi (by omega) (by omega)]; unfold digOf; (repeat' split) <;> omega)
      | (rw [u8wrapi (by omega) (by omega), show IntKind.i64.wrap ((x.toNat : Int) - 65) = (x.toNat : Int) - 65 from wrapi (by omega) (by omega), wrapi (by omega) (by omega)]; unfold digOf; (repeat' split) <;> omega)
      | (rw [u8wrapi (by omega) (by omega), wrapi (by omega) (by omega)]; unfold digOf; (repeat' split) <;> omega)
      | (unfold digOf; (repeat' split) <;> omega)

end Go.Proofs.YtdmnoagahjbjhaaGreatDoor
end

section
/- NewComponent: what its tree hooks. -/
set_option linter.unusedVariables false
set_option linter.unusedSimpArgs false
set_option maxRecDepth 20000
namespace Go.Proofs.YtdmnoagahjbjhaaGreatDoor
open Go Go.Rx Go.RowKit
@[reducible] def stb4Hook : Hook := { X := Nat → Int, out := fun _ s q => (.tup [.slc s.objs.length 12 4 4 true true, .one .nilIface rfl], s.objs ++ [.cells (sixteen q) 16 196 0 0]) }
@[reducible] def stb6Hook : Hook := { X := Nat → Int, out := fun _ s q => (.tup [.slc s.objs.length 0 16 16 true true, .one .nilIface rfl], s.objs ++ [.cells (sixteen q) 16 196 0 0]) }
@[reducible] def btsHook : Hook := { X := ByteArray, out := fun _ s x => (.tup [.str x false, .one .nilIface rfl], s.objs) }
@[reducible] def nilHook : Hook := { X := Unit, out := fun _ s _ => (.one .nilIface rfl, s.objs) }
def hk73 : Hooks := { calls := fun f => if f = 163 then some stb4Hook else if f = 170 then some stb6Hook else if f = 139 then some nilHook else none, loops := fun _ _ => none }
def hk139 : Hooks := { calls := fun f => if f = 164 ∨ f = 171 then some btsHook else if f = 399 then some nilHook else none, loops := fun _ _ => none }
@[reducible] def pObj4 (id : Nat) : SObj := .cells [(.str (ByteArray.mk #[105, 112, 52]) true), (.int .i64 4 true), (.slc id 0 1 1 true true), (.int .i64 32 true), (.bool false true), (.ifc 150 (.agg [(.fn (.func 163) [] []), (.fn (.func 164) [] []), (.one .nilFunc rfl)]))] 6 71 0 0
@[reducible] def pObj6 (id : Nat) : SObj := .cells [(.str (ByteArray.mk #[105, 112, 54]) true), (.int .i64 41 true), (.slc id 0 1 1 true true), (.int .i64 128 true), (.bool false true), (.ifc 150 (.agg [(.fn (.func 170) [] []), (.fn (.func 171) [] []), (.one .nilFunc rfl)]))] 6 71 0 0
@[reducible] def vObjs4 (s : ByteArray) : List SObj := [.cells [.str s false, .ptr 1 0, .int .i64 1 true] 3 74 0 0, pObj4 2, .cells [.int .u8 4 true] 1 5 0 0]
@[reducible] def vObjs6 (s : ByteArray) : List SObj := [.cells [.str s false, .ptr 1 0, .int .i64 1 true] 3 74 0 0, pObj6 2, .cells [.int .u8 41 true] 1 5 0 0]

end Go.Proofs.YtdmnoagahjbjhaaGreatDoor
end

section
/- NetFromIP: the trees. -/
set_option linter.unusedVariables false
set_option linter.unusedSimpArgs false
set_option maxRecDepth 20000
namespace Go.Proofs.YtdmnoagahjbjhaaGreatDoor
open Go Go.Rx Go.RowKit
structure NC where
  s : ByteArray
  p : Addr
  i : Nat
@[reducible] def ncHook : Hook := { X := NC, out := fun _ s x => (.tup [.ptr s.objs.length 0, .one .nilIface rfl], s.objs ++ [.cells [.str x.s false, .xp x.p, .int .i64 x.i false] 3 74 0 0]) }
def hk13 : Hooks := { calls := fun f => if f = 72 ∨ f = 76 ∨ f = 27 then some uvHook else if f = 74 then some strHook else if f = 73 then some ncHook else none, loops := fun _ _ => none }
def hk171 : Hooks := { calls := fun f => if f = 72 then some uvHook else if f = 74 then some strHook else none, loops := fun _ _ => none }
set_option maxRecDepth 100000 in
theorem t164 (A : Option Addr) (n c : Nat) (w : World) : xFunc Tryz.prog hk171 500 164 [.xs A n c] (SS.mk [] [] true w []) =
  (.hc 74 [(.xs A n c)] (SS.mk [] [] true w []) (strHook) fun x0 w0 b0 =>
  (.leaf .ret [(.tup [(.str x0 false), (.one .nilIface rfl)])] (SS.mk [] [] true w0 b0))) := by kernel_rfl
set_option maxRecDepth 100000 in
theorem t171 (A : Option Addr) (n c : Nat) (w : World) : xFunc Tryz.prog hk171 500 171 [.xs A n c] (SS.mk [] [] true w []) =
  (.hc 72 [(.xs A n c)] (SS.mk [] [] true w []) (uvHook) fun x0 w0 b0 =>
  (.split (!x0.A.isNone)
   (.hc 74 [(.xs x0.A x0.k x0.c)] (SS.mk [] [] true w0 b0) (strHook) fun x1 w1 b1 =>
   (.need ((↑((7 : Nat) + ByteArray.size x1) : Int) ≤ IntKind.i64.max)
   (.leaf .ret [(.tup [(.str (ByteArray.mk #[(58 : UInt8), (58 : UInt8), (102 : UInt8), (102 : UInt8), (102 : UInt8), (102 : UInt8), (58 : UInt8)] ++ x1) false), (.one .nilIface rfl)])] (SS.mk [] [] true w1 b1))))
   (.hc 74 [(.xs A n c)] (SS.mk [] [] true w0 b0) (strHook) fun x1 w1 b1 =>
   (.leaf .ret [(.tup [(.str x1 false), (.one .nilIface rfl)])] (SS.mk [] [] true w1 b1))))) := by kernel_rfl
set_option maxRecDepth 100000 in
theorem t13 (A : Option Addr) (n c : Nat) (w : World) : xFunc Tryz.prog hk13 2000 13 [.xs A n c] (SS.mk [] [] true w []) =
  (.hc 72 [(.xs A n c)] (SS.mk [] [] true w []) (uvHook) fun x0 w0 b0 =>
  (.split (!x0.A.isNone)
   (.hc 74 [(.xs A n c)] (SS.mk [] [] true w0 b0) (strHook) fun x1 w1 b1 =>
   (.hc 73 [(.str (ByteArray.mk #[105, 112, 52]) true), (.str x1 false)] (SS.mk [] [] true w1 b1) (ncHook) fun x2 w2 b2 =>
   (.hc 27 [(.slc 1 0 1 1 true true)] (SS.mk [(.cells [(.str x2.s false), (.xp x2.p), (.int .i64 ((↑x2.i : Int)) false)] 3 74 0 0), (.cells [(.str x2.s false), (.xp x2.p), (.int .i64 ((↑x2.i : Int)) false)] 3 74 0 0)] [] true w2 b2) (uvHook) fun x3 w3 b3 =>
   (.leaf .ret [(.tup [(.xs x3.A x3.k x3.c), (.bool true true)])] (SS.mk [(.cells [(.str x2.s false), (.xp x2.p), (.int .i64 ((↑x2.i : Int)) false)] 3 74 0 0), (.cells [(.str x2.s false), (.xp x2.p), (.int .i64 ((↑x2.i : Int)) false)] 3 74 0 0)] [] true w3 b3)))))
   (.hc 76 [(.xs A n c)] (SS.mk [] [] true w0 b0) (uvHook) fun x1 w1 b1 =>
   (.split (!x1.A.isNone)
    (.hc 74 [(.xs A n c)] (SS.mk [] [] true w1 b1) (strHook) fun x2 w2 b2 =>
    (.hc 73 [(.str (ByteArray.mk #[105, 112, 54]) true), (.str x2 false)] (SS.mk [] [] true w2 b2) (ncHook) fun x3 w3 b3 =>
    (.hc 27 [(.slc 1 0 1 1 true true)] (SS.mk [(.cells [(.str x3.s false), (.xp x3.p), (.int .i64 ((↑x3.i : Int)) false)] 3 74 0 0), (.cells [(.str x3.s false), (.xp x3.p), (.int .i64 ((↑x3.i : Int)) false)] 3 74 0 0)] [] true w3 b3) (uvHook) fun x4 w4 b4 =>
    (.leaf .ret [(.tup [(.xs x4.A x4.k x4.c), (.bool true true)])] (SS.mk [(.cells [(.str x3.s false), (.xp x3.p), (.int .i64 ((↑x3.i : Int)) false)] 3 74 0 0), (.cells [(.str x3.s false), (.xp x3.p), (.int .i64 ((↑x3.i : Int)) false)] 3 74 0 0)] [] true w4 b4)))))
    (.bad "load: no address"))))) := by kernel_rfl
set_option maxRecDepth 100000 in
theorem t13g (A : Option Addr) (n c : Nat) (a : Addr) (w : World) : xFunc Tryz.prog hk13 2000 13 [.xs A n c] (SS.mk [.cells [.ifc 130 (.xp a)] 1 52 0 0] [(1, 0)] true w [1]) =
  (.hc 72 [(.xs A n c)] (SS.mk [(.cells [(.ifc 130 (.xp a))] 1 52 0 0)] [(1, 0)] true w [1]) (uvHook) fun x0 w0 b0 =>
  (.split (!x0.A.isNone)
   (.hc 74 [(.xs A n c)] (SS.mk [(.cells [(.ifc 130 (.xp a))] 1 52 0 0)] [(1, 0)] true w0 b0) (strHook) fun x1 w1 b1 =>
   (.hc 73 [(.str (ByteArray.mk #[105, 112, 52]) true), (.str x1 false)] (SS.mk [(.cells [(.ifc 130 (.xp a))] 1 52 0 0)] [(1, 0)] true w1 b1) (ncHook) fun x2 w2 b2 =>
   (.hc 27 [(.slc 2 0 1 1 true true)] (SS.mk [(.cells [(.ifc 130 (.xp a))] 1 52 0 0), (.cells [(.str x2.s false), (.xp x2.p), (.int .i64 ((↑x2.i : Int)) false)] 3 74 0 0), (.cells [(.str x2.s false), (.xp x2.p), (.int .i64 ((↑x2.i : Int)) false)] 3 74 0 0)] [(1, 0)] true w2 b2) (uvHook) fun x3 w3 b3 =>
   (.leaf .ret [(.tup [(.xs x3.A x3.k x3.c), (.bool true true)])] (SS.mk [(.cells [(.ifc 130 (.xp a))] 1 52 0 0), (.cells [(.str x2.s false), (.xp x2.p), (.int .i64 ((↑x2.i : Int)) false)] 3 74 0 0), (.cells [(.str x2.s false), (.xp x2.p), (.int .i64 ((↑x2.i : Int)) false)] 3 74 0 0)] [(1, 0)] true w3 b3)))))
   (.hc 76 [(.xs A n c)] (SS.mk [(.cells [(.ifc 130 (.xp a))] 1 52 0 0)] [(1, 0)] true w0 b0) (uvHook) fun x1 w1 b1 =>
   (.split (!x1.A.isNone)
    (.hc 74 [(.xs A n c)] (SS.mk [(.cells [(.ifc 130 (.xp a))] 1 52 0 0)] [(1, 0)] true w1 b1) (strHook) fun x2 w2 b2 =>
    (.hc 73 [(.str (ByteArray.mk #[105, 112, 54]) true), (.str x2 false)] (SS.mk [(.cells [(.ifc 130 (.xp a))] 1 52 0 0)] [(1, 0)] true w2 b2) (ncHook) fun x3 w3 b3 =>
    (.hc 27 [(.slc 2 0 1 1 true true)] (SS.mk [(.cells [(.ifc 130 (.xp a))] 1 52 0 0), (.cells [(.str x3.s false), (.xp x3.p), (.int .i64 ((↑x3.i : Int)) false)] 3 74 0 0), (.cells [(.str x3.s false), (.xp x3.p), (.int .i64 ((↑x3.i : Int)) false)] 3 74 0 0)] [(1, 0)] true w3 b3) (uvHook) fun x4 w4 b4 =>
    (.leaf .ret [(.tup [(.xs x4.A x4.k x4.c), (.bool true true)])] (SS.mk [(.cells [(.ifc 130 (.xp a))] 1 52 0 0), (.cells [(.str x3.s false), (.xp x3.p), (.int .i64 ((↑x3.i : Int)) false)] 3 74 0 0), (.cells [(.str x3.s false), (.xp x3.p), (.int .i64 ((↑x3.i : Int)) false)] 3 74 0 0)] [(1, 0)] true w4 b4)))))
    (.leaf .ret [(.tup [(.one (.slice none 0 0) rfl), (.bool false true)])] (SS.mk [(.cells [(.ifc 130 (.xp a))] 1 52 0 0)] [(1, 0)] true w1 b1)))))) := by kernel_rfl

end Go.Proofs.YtdmnoagahjbjhaaGreatDoor
end

