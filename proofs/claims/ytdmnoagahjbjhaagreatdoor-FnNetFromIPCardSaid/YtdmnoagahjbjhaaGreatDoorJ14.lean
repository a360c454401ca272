/- Joined texts: NewComponent, validateComponent: trees; twrp's ValidateBytes without a function of its own; validateComponent of an ip4, of an ip6; The bytes that a text is read as: the block that they lie in; NewComponent of an ip4, of an ip6; NetFromIP; FnNetFromIP. -/
import Derived.Test.YtdmnoagahjbjhaaGreatDoorJ7
import Derived.Test.YtdmnoagahjbjhaaGreatDoorChecked
import Derived.Test.YtdmnoagahjbjhaaGreatDoorJ2
import Derived.WalkKit
import Derived.Test.YtdmnoagahjbjhaaGreatDoorJ13
import Derived.Test.YtdmnoagahjbjhaaGreatDoorJ9
import Derived.Test.YtdmnoagahjbjhaaGreatDoorJ10
section
/- NewComponent, validateComponent: trees. -/
set_option linter.unusedVariables false
set_option linter.unusedSimpArgs false
set_option maxRecDepth 20000
namespace Go.Proofs.YtdmnoagahjbjhaaGreatDoor
open Go Go.Rx Go.RowKit
set_option maxRecDepth 100000 in
theorem t139b (s : ByteArray) (w : World) (bs : List Nat) : xFunc Tryz.prog hk139 3000 139 [.ptr 0 0] (SS.mk (vObjs6 s) [] true w bs) =
  (.split (decide ((1 : Int) > (↑s.size : Int)))
   (.leaf .ret [(.ifc 130 (.ptr 3 0))] (SS.mk [(.cells [(.str s false), (.ptr 1 0), (.int .i64 1 true)] 3 74 0 0), (.cells [(.str (ByteArray.mk #[105, 112, 54]) true), (.int .i64 41 true), (.slc 2 0 1 1 true true), (.int .i64 128 true), (.bool false true), (.ifc 150 (.agg [(.fn (.func 170) [] []), (.fn (.func 171) [] []), (.one .nilFunc rfl)]))] 6 71 0 0), (.cells [(.int .u8 41 true)] 1 5 0 0), (.cells [(.str (ByteArray.mk #[99, 111, 109, 112, 111, 110, 101, 110, 116, 32, 118, 97, 108, 117, 101, 83, 116, 97, 114, 116, 73, 100, 120, 32, 105, 115, 32, 103, 114, 101, 97, 116, 101, 114, 32, 116, 104, 97, 110, 32, 116, 104, 101, 32, 108, 101, 110, 103, 116, 104, 32, 111, 102, 32, 116, 104, 101, 32, 99, 111, 109, 112, 111, 110, 101, 110, 116, 39, 115, 32, 98, 121, 116, 101, 115]) true)] 1 132 0 0)] [] true w bs))
   (.split (decide ((↑s.size : Int) < (↑(1 : Nat) : Int)))
    (.leaf .ret [(.ifc 130 (.ptr 3 0))] (SS.mk [(.cells [(.str s false), (.ptr 1 0), (.int .i64 1 true)] 3 74 0 0), (.cells [(.str (ByteArray.mk #[105, 112, 54]) true), (.int .i64 41 true), (.slc 2 0 1 1 true true), (.int .i64 128 true), (.bool false true), (.ifc 150 (.agg [(.fn (.func 170) [] []), (.fn (.func 171) [] []), (.one .nilFunc rfl)]))] 6 71 0 0), (.cells [(.int .u8 41 true)] 1 5 0 0), (.cells [(.str (ByteArray.mk #[99, 111, 109, 112, 111, 110, 101, 110, 116, 32, 115, 105, 122, 101, 32, 109, 105, 115, 109, 97, 116, 99, 104, 58, 32, 33, 61]) true)] 1 132 0 0)] [] true w bs))
    (.need ((0 : Int) ≤ (↑(1 : Nat) : Int) ∧ (↑(1 : Nat) : Int) ≤ (↑s.size : Int))
    (.choose (.appendCap ((s.extract (0 : Nat) (1 : Nat)).size) 0 5) fun c0 =>
    (.need ((0 : Nat) = (0 : Nat) ∧ (1 : Nat) = (1 : Nat) ∧ (1 : Nat) = (1 : Nat))
    (.need ((0 : Nat) = (0 : Nat))
    (.need ((0 : Nat) + (s.extract (0 : Nat) (1 : Nat)).size ≤ (List.map (fun b => (↑b.toNat : Int)) (#[].extract (0 : Nat) (0 : Nat) ++ s.data.extract (0 : Nat) (1 : Nat) ++ #[].extract ((0 : Nat) + min (1 : Nat) (s.data.size - (0 : Nat))) (0 : Nat)).toList ++ List.replicate (c0 - (s.extract (0 : Nat) (1 : Nat)).size) (0 : Int)).length)
    (.split (!(bytesOf (List.take (s.extract (0 : Nat) (1 : Nat)).size (List.drop (0 : Nat) (List.map (fun b => (↑b.toNat : Int)) (#[].extract (0 : Nat) (0 : Nat) ++ s.data.extract (0 : Nat) (1 : Nat) ++ #[].extract ((0 : Nat) + min (1 : Nat) (s.data.size - (0 : Nat))) (0 : Nat)).toList ++ List.replicate (c0 - (s.extract (0 : Nat) (1 : Nat)).size) (0 : Int))))).toList == (bytesOf [(41 : Int)]).toList)
     (.leaf .ret [(.ifc 130 (.ptr 4 0))] (SS.mk [(.cells [(.str s false), (.ptr 1 0), (.int .i64 1 true)] 3 74 0 0), (.cells [(.str (ByteArray.mk #[105, 112, 54]) true), (.int .i64 41 true), (.slc 2 0 1 1 true true), (.int .i64 128 true), (.bool false true), (.ifc 150 (.agg [(.fn (.func 170) [] []), (.fn (.func 171) [] []), (.one .nilFunc rfl)]))] 6 71 0 0), (.cells [(.int .u8 41 true)] 1 5 0 0), (.ints .u8 (List.map (fun b => (↑b.toNat : Int)) (#[].extract (0 : Nat) (0 : Nat) ++ s.data.extract (0 : Nat) (1 : Nat) ++ #[].extract ((0 : Nat) + min (1 : Nat) (s.data.size - (0 : Nat))) (0 : Nat)).toList ++ List.replicate (c0 - (s.extract (0 : Nat) (1 : Nat)).size) (0 : Int)) 5 c0 (c0 + (1 : Nat))), (.cells [(.str (ByteArray.mk #[99, 111, 109, 112, 111, 110, 101, 110, 116, 39, 115, 32, 86, 67, 111, 100, 101, 32, 102, 105, 101, 108, 100, 32, 105, 115, 32, 105, 110, 118, 97, 108, 105, 100, 58, 32, 33, 61]) true)] 1 132 0 0)] [] true w bs))
     (.need ((0 : Int) ≤ (1 : Int) ∧ (1 : Int) ≤ (↑s.size : Int))
     (.split (IntKind.i64.wrap (Int.tdiv (128 : Int) (8 : Int)) != (↑(s.extract (1 : Nat) s.size).size : Int))
      (.leaf .ret [(.ifc 130 (.ptr 4 0))] (SS.mk [(.cells [(.str s false), (.ptr 1 0), (.int .i64 1 true)] 3 74 0 0), (.cells [(.str (ByteArray.mk #[105, 112, 54]) true), (.int .i64 41 true), (.slc 2 0 1 1 true true), (.int .i64 128 true), (.bool false true), (.ifc 150 (.agg [(.fn (.func 170) [] []), (.fn (.func 171) [] []), (.one .nilFunc rfl)]))] 6 71 0 0), (.cells [(.int .u8 41 true)] 1 5 0 0), (.ints .u8 (List.map (fun b => (↑b.toNat : Int)) (#[].extract (0 : Nat) (0 : Nat) ++ s.data.extract (0 : Nat) (1 : Nat) ++ #[].extract ((0 : Nat) + min (1 : Nat) (s.data.size - (0 : Nat))) (0 : Nat)).toList ++ List.replicate (c0 - (s.extract (0 : Nat) (1 : Nat)).size) (0 : Int)) 5 c0 (c0 + (1 : Nat))), (.cells [(.str (ByteArray.mk #[99, 111, 109, 112, 111, 110, 101, 110, 116, 32, 118, 97, 108, 117, 101, 32, 115, 105, 122, 101, 32, 109, 105, 115, 109, 97, 116, 99, 104, 58, 32, 33, 61]) true)] 1 132 0 0)] [] true w bs))
      (.split (IntKind.i64.wrap ((↑(1 : Nat) : Int) + IntKind.i64.wrap (Int.tdiv (128 : Int) (8 : Int))) != (↑s.size : Int))
       (.leaf .ret [(.ifc 130 (.ptr 4 0))] (SS.mk [(.cells [(.str s false), (.ptr 1 0), (.int .i64 1 true)] 3 74 0 0), (.cells [(.str (ByteArray.mk #[105, 112, 54]) true), (.int .i64 41 true), (.slc 2 0 1 1 true true), (.int .i64 128 true), (.bool false true), (.ifc 150 (.agg [(.fn (.func 170) [] []), (.fn (.func 171) [] []), (.one .nilFunc rfl)]))] 6 71 0 0), (.cells [(.int .u8 41 true)] 1 5 0 0), (.ints .u8 (List.map (fun b => (↑b.toNat : Int)) (#[].extract (0 : Nat) (0 : Nat) ++ s.data.extract (0 : Nat) (1 : Nat) ++ #[].extract ((0 : Nat) + min (1 : Nat) (s.data.size - (0 : Nat))) (0 : Nat)).toList ++ List.replicate (c0 - (s.extract (0 : Nat) (1 : Nat)).size) (0 : Int)) 5 c0 (c0 + (1 : Nat))), (.cells [(.str (ByteArray.mk #[99, 111, 109, 112, 111, 110, 101, 110, 116, 32, 115, 105, 122, 101, 32, 109, 105, 115, 109, 97, 116, 99, 104, 58, 32, 33, 61]) true)] 1 132 0 0)] [] true w bs))
       (.need ((0 : Int) ≤ (1 : Int) ∧ (1 : Int) ≤ (↑s.size : Int))
       (.choose (.appendCap ((s.extract (1 : Nat) s.size).size) 0 5) fun c1 =>
       (.need (Fn.func (170 : Nat) = Fn.func (170 : Nat))
       (.need (Fn.func (171 : Nat) = Fn.func (171 : Nat))
       (.need (Value.nilFunc = Value.nilFunc)
       (.need ((0 : Nat) = (0 : Nat))
       (.hc 171 [(.slc 4 0 ((s.extract (1 : Nat) s.size).size) c1 false false)] (SS.mk [(.cells [(.str s false), (.ptr 1 0), (.int .i64 1 true)] 3 74 0 0), (.cells [(.str (ByteArray.mk #[105, 112, 54]) true), (.int .i64 41 true), (.slc 2 0 1 1 true true), (.int .i64 128 true), (.bool false true), (.ifc 150 (.agg [(.fn (.func 170) [] []), (.fn (.func 171) [] []), (.one .nilFunc rfl)]))] 6 71 0 0), (.cells [(.int .u8 41 true)] 1 5 0 0), (.ints .u8 (List.map (fun b => (↑b.toNat : Int)) (#[].extract (0 : Nat) (0 : Nat) ++ s.data.extract (0 : Nat) (1 : Nat) ++ #[].extract ((0 : Nat) + min (1 : Nat) (s.data.size - (0 : Nat))) (0 : Nat)).toList ++ List.replicate (c0 - (s.extract (0 : Nat) (1 : Nat)).size) (0 : Int)) 5 c0 (c0 + (1 : Nat))), (.ints .u8 (List.map (fun b => (↑b.toNat : Int)) (#[].extract (0 : Nat) (0 : Nat) ++ s.data.extract (1 : Nat) ((1 : Nat) + (s.size - (1 : Nat))) ++ #[].extract ((0 : Nat) + min (s.size - (1 : Nat)) (s.data.size - (1 : Nat))) (0 : Nat)).toList ++ List.replicate (c1 - (s.extract (1 : Nat) s.size).size) (0 : Int)) 5 c1 (c1 + (1 : Nat))), (.cells [(.fn (.func 170) [] []), (.fn (.func 171) [] []), (.one .nilFunc rfl)] 3 150 0 0)] [] true w bs) (btsHook) fun x2 w2 b2 =>
       (.need ((0 : Int) ≤ (1 : Int) ∧ (1 : Int) ≤ (↑s.size : Int))
       (.choose (.appendCap ((s.extract (1 : Nat) s.size).size) 0 5) fun c3 =>
       (.need (Fn.func (170 : Nat) = Fn.func (170 : Nat))
       (.need (Fn.func (171 : Nat) = Fn.func (171 : Nat))
       (.need (Value.nilFunc = Value.nilFunc)
       (.need ((0 : Nat) = (0 : Nat))
       (.hc 399 [(.agg [(.fn (.func 170) [] []), (.fn (.func 171) [] []), (.one .nilFunc rfl)]), (.slc 6 0 ((s.extract (1 : Nat) s.size).size) c3 false false)] (SS.mk [(.cells [(.str s false), (.ptr 1 0), (.int .i64 1 true)] 3 74 0 0), (.cells [(.str (ByteArray.mk #[105, 112, 54]) true), (.int .i64 41 true), (.slc 2 0 1 1 true true), (.int .i64 128 true), (.bool false true), (.ifc 150 (.agg [(.fn (.func 170) [] []), (.fn (.func 171) [] []), (.one .nilFunc rfl)]))] 6 71 0 0), (.cells [(.int .u8 41 true)] 1 5 0 0), (.ints .u8 (List.map (fun b => (↑b.toNat : Int)) (#[].extract (0 : Nat) (0 : Nat) ++ s.data.extract (0 : Nat) (1 : Nat) ++ #[].extract ((0 : Nat) + min (1 : Nat) (s.data.size - (0 : Nat))) (0 : Nat)).toList ++ List.replicate (c0 - (s.extract (0 : Nat) (1 : Nat)).size) (0 : Int)) 5 c0 (c0 + (1 : Nat))), (.ints .u8 (List.map (fun b => (↑b.toNat : Int)) (#[].extract (0 : Nat) (0 : Nat) ++ s.data.extract (1 : Nat) ((1 : Nat) + (s.size - (1 : Nat))) ++ #[].extract ((0 : Nat) + min (s.size - (1 : Nat)) (s.data.size - (1 : Nat))) (0 : Nat)).toList ++ List.replicate (c1 - (s.extract (1 : Nat) s.size).size) (0 : Int)) 5 c1 (c1 + (1 : Nat))), (.cells [(.fn (.func 170) [] []), (.fn (.func 171) [] []), (.one .nilFunc rfl)] 3 150 0 0), (.ints .u8 (List.map (fun b => (↑b.toNat : Int)) (#[].extract (0 : Nat) (0 : Nat) ++ s.data.extract (1 : Nat) ((1 : Nat) + (s.size - (1 : Nat))) ++ #[].extract ((0 : Nat) + min (s.size - (1 : Nat)) (s.data.size - (1 : Nat))) (0 : Nat)).toList ++ List.replicate (c3 - (s.extract (1 : Nat) s.size).size) (0 : Int)) 5 c3 (c3 + (1 : Nat)))] [] true w2 b2) (nilHook) fun x4 w4 b4 =>
       (.leaf .ret [(.one .nilIface rfl)] (SS.mk [(.cells [(.str s false), (.ptr 1 0), (.int .i64 1 true)] 3 74 0 0), (.cells [(.str (ByteArray.mk #[105, 112, 54]) true), (.int .i64 41 true), (.slc 2 0 1 1 true true), (.int .i64 128 true), (.bool false true), (.ifc 150 (.agg [(.fn (.func 170) [] []), (.fn (.func 171) [] []), (.one .nilFunc rfl)]))] 6 71 0 0), (.cells [(.int .u8 41 true)] 1 5 0 0), (.ints .u8 (List.map (fun b => (↑b.toNat : Int)) (#[].extract (0 : Nat) (0 : Nat) ++ s.data.extract (0 : Nat) (1 : Nat) ++ #[].extract ((0 : Nat) + min (1 : Nat) (s.data.size - (0 : Nat))) (0 : Nat)).toList ++ List.replicate (c0 - (s.extract (0 : Nat) (1 : Nat)).size) (0 : Int)) 5 c0 (c0 + (1 : Nat))), (.ints .u8 (List.map (fun b => (↑b.toNat : Int)) (#[].extract (0 : Nat) (0 : Nat) ++ s.data.extract (1 : Nat) ((1 : Nat) + (s.size - (1 : Nat))) ++ #[].extract ((0 : Nat) + min (s.size - (1 : Nat)) (s.data.size - (1 : Nat))) (0 : Nat)).toList ++ List.replicate (c1 - (s.extract (1 : Nat) s.size).size) (0 : Int)) 5 c1 (c1 + (1 : Nat))), (.cells [(.fn (.func 170) [] []), (.fn (.func 171) [] []), (.one .nilFunc rfl)] 3 150 0 0), (.ints .u8 (List.map (fun b => (↑b.toNat : Int)) (#[].extract (0 : Nat) (0 : Nat) ++ s.data.extract (1 : Nat) ((1 : Nat) + (s.size - (1 : Nat))) ++ #[].extract ((0 : Nat) + min (s.size - (1 : Nat)) (s.data.size - (1 : Nat))) (0 : Nat)).toList ++ List.replicate (c3 - (s.extract (1 : Nat) s.size).size) (0 : Int)) 5 c3 (c3 + (1 : Nat)))] [] true w4 b4))))))))))))))))))))))))))) := by kernel_rfl
set_option maxRecDepth 100000 in
theorem t73b (s : ByteArray) (w : World) : xFunc Tryz.prog hk73 5000 73 [.str ⟨#[105, 112, 54]⟩ true, .str s false] (SS.mk [] [] true w []) =
  (.hc 170 [(.str s false)] (SS.mk [(.cells [(.str (ByteArray.mk #[105, 112, 54]) true), (.int .i64 41 true), (.slc 3 0 1 1 true true), (.int .i64 128 true), (.bool false true), (.ifc 150 (.agg [(.fn (.func 170) [] []), (.fn (.func 171) [] []), (.one .nilFunc rfl)]))] 6 71 0 0), (.cells [(.str (ByteArray.mk #[105, 112, 54]) true), (.int .i64 41 true), (.slc 3 0 1 1 true true), (.int .i64 128 true), (.bool false true), (.ifc 150 (.agg [(.fn (.func 170) [] []), (.fn (.func 171) [] []), (.one .nilFunc rfl)]))] 6 71 0 0), (.cells [(.str (ByteArray.mk #[105, 112, 54]) true), (.int .i64 41 true), (.slc 3 0 1 1 true true), (.int .i64 128 true), (.bool false true), (.ifc 150 (.agg [(.fn (.func 170) [] []), (.fn (.func 171) [] []), (.one .nilFunc rfl)]))] 6 71 0 0), (.cells [(.int .u8 41 true)] 1 5 0 0), (.cells [(.str (ByteArray.mk #[105, 112, 54]) true), (.int .i64 41 true), (.slc 3 0 1 1 true true), (.int .i64 128 true), (.bool false true), (.ifc 150 (.agg [(.fn (.func 170) [] []), (.fn (.func 171) [] []), (.one .nilFunc rfl)]))] 6 71 0 0), (.cells [(.fn (.func 170) [] []), (.fn (.func 171) [] []), (.one .nilFunc rfl)] 3 150 0 0)] [] true w []) (stb6Hook) fun x0 w0 b0 =>
  (.both
   (.hc 139 [(.ptr 13 0)] (SS.mk [(.cells [(.str (ByteArray.mk #[105, 112, 54]) true), (.int .i64 41 true), (.slc 3 0 1 1 true true), (.int .i64 128 true), (.bool false true), (.ifc 150 (.agg [(.fn (.func 170) [] []), (.fn (.func 171) [] []), (.one .nilFunc rfl)]))] 6 71 0 0), (.cells [(.str (ByteArray.mk #[105, 112, 54]) true), (.int .i64 41 true), (.slc 3 0 1 1 true true), (.int .i64 128 true), (.bool false true), (.ifc 150 (.agg [(.fn (.func 170) [] []), (.fn (.func 171) [] []), (.one .nilFunc rfl)]))] 6 71 0 0), (.cells [(.str (ByteArray.mk #[105, 112, 54]) true), (.int .i64 41 true), (.slc 3 0 1 1 true true), (.int .i64 128 true), (.bool false true), (.ifc 150 (.agg [(.fn (.func 170) [] []), (.fn (.func 171) [] []), (.one .nilFunc rfl)]))] 6 71 0 0), (.cells [(.int .u8 41 true)] 1 5 0 0), (.cells [(.str (ByteArray.mk #[105, 112, 54]) true), (.int .i64 41 true), (.slc 3 0 1 1 true true), (.int .i64 128 true), (.bool false true), (.ifc 150 (.agg [(.fn (.func 170) [] []), (.fn (.func 171) [] []), (.one .nilFunc rfl)]))] 6 71 0 0), (.cells [(.fn (.func 170) [] []), (.fn (.func 171) [] []), (.one .nilFunc rfl)] 3 150 0 0), (.cells (sixteen x0) 16 196 0 0), (.cells [(.str (ByteArray.mk #[105, 112, 54]) true), (.int .i64 41 true), (.slc 3 0 1 1 true true), (.int .i64 128 true), (.bool false true), (.ifc 150 (.agg [(.fn (.func 170) [] []), (.fn (.func 171) [] []), (.one .nilFunc rfl)]))] 6 71 0 0), (.cells [(.str (ByteArray.mk #[105, 112, 54]) true), (.int .i64 41 true), (.slc 10 0 1 1 true true), (.int .i64 128 true), (.bool false true), (.ifc 150 (.agg [(.fn (.func 170) [] []), (.fn (.func 171) [] []), (.one .nilFunc rfl)]))] 6 71 0 0), (.cells [(.str (ByteArray.mk #[105, 112, 54]) true), (.int .i64 41 true), (.slc 10 0 1 1 true true), (.int .i64 128 true), (.bool false true), (.ifc 150 (.agg [(.fn (.func 170) [] []), (.fn (.func 171) [] []), (.one .nilFunc rfl)]))] 6 71 0 0), (.cells [(.int .u8 41 true)] 1 5 0 0), (.cells [(.str (ByteArray.mk #[105, 112, 54]) true), (.int .i64 41 true), (.slc 10 0 1 1 true true), (.int .i64 128 true), (.bool false true), (.ifc 150 (.agg [(.fn (.func 170) [] []), (.fn (.func 171) [] []), (.one .nilFunc rfl)]))] 6 71 0 0), (.cells [(.int .u8 41 true), (.int .u8 (x0 (0 : Nat)) false), (.int .u8 (x0 (1 : Nat)) false), (.int .u8 (x0 (2 : Nat)) false), (.int .u8 (x0 (3 : Nat)) false), (.int .u8 (x0 (4 : Nat)) false), (.int .u8 (x0 (5 : Nat)) false), (.int .u8 (x0 (6 : Nat)) false), (.int .u8 (x0 (7 : Nat)) false), (.int .u8 (x0 (8 : Nat)) false), (.int .u8 (x0 (9 : Nat)) false), (.int .u8 (x0 (10 : Nat)) false), (.int .u8 (x0 (11 : Nat)) false), (.int .u8 (x0 (12 : Nat)) false), (.int .u8 (x0 (13 : Nat)) false), (.int .u8 (x0 (14 : Nat)) false), (.int .u8 (x0 (15 : Nat)) false)] 17 5 0 0), (.cells [(.str (bytesOf [IntKind.u8.wrap (IntKind.u64.wrap (41 : Int)), x0 (0 : Nat), x0 (1 : Nat), x0 (2 : Nat), x0 (3 : Nat), x0 (4 : Nat), x0 (5 : Nat), x0 (6 : Nat), x0 (7 : Nat), x0 (8 : Nat), x0 (9 : Nat), x0 (10 : Nat), x0 (11 : Nat), x0 (12 : Nat), x0 (13 : Nat), x0 (14 : Nat), x0 (15 : Nat)]) false), (.ptr 11 0), (.int .i64 1 true)] 3 74 0 0)] [] true w0 b0) (nilHook) fun x1 w1 b1 =>
   (.leaf .ret [(.tup [(.ptr 13 0), (.one .nilIface rfl)])] (SS.mk [(.cells [(.str (ByteArray.mk #[105, 112, 54]) true), (.int .i64 41 true), (.slc 3 0 1 1 true true), (.int .i64 128 true), (.bool false true), (.ifc 150 (.agg [(.fn (.func 170) [] []), (.fn (.func 171) [] []), (.one .nilFunc rfl)]))] 6 71 0 0), (.cells [(.str (ByteArray.mk #[105, 112, 54]) true), (.int .i64 41 true), (.slc 3 0 1 1 true true), (.int .i64 128 true), (.bool false true), (.ifc 150 (.agg [(.fn (.func 170) [] []), (.fn (.func 171) [] []), (.one .nilFunc rfl)]))] 6 71 0 0), (.cells [(.str (ByteArray.mk #[105, 112, 54]) true), (.int .i64 41 true), (.slc 3 0 1 1 true true), (.int .i64 128 true), (.bool false true), (.ifc 150 (.agg [(.fn (.func 170) [] []), (.fn (.func 171) [] []), (.one .nilFunc rfl)]))] 6 71 0 0), (.cells [(.int .u8 41 true)] 1 5 0 0), (.cells [(.str (ByteArray.mk #[105, 112, 54]) true), (.int .i64 41 true), (.slc 3 0 1 1 true true), (.int .i64 128 true), (.bool false true), (.ifc 150 (.agg [(.fn (.func 170) [] []), (.fn (.func 171) [] []), (.one .nilFunc rfl)]))] 6 71 0 0), (.cells [(.fn (.func 170) [] []), (.fn (.func 171) [] []), (.one .nilFunc rfl)] 3 150 0 0), (.cells (sixteen x0) 16 196 0 0), (.cells [(.str (ByteArray.mk #[105, 112, 54]) true), (.int .i64 41 true), (.slc 3 0 1 1 true true), (.int .i64 128 true), (.bool false true), (.ifc 150 (.agg [(.fn (.func 170) [] []), (.fn (.func 171) [] []), (.one .nilFunc rfl)]))] 6 71 0 0), (.cells [(.str (ByteArray.mk #[105, 112, 54]) true), (.int .i64 41 true), (.slc 10 0 1 1 true true), (.int .i64 128 true), (.bool false true), (.ifc 150 (.agg [(.fn (.func 170) [] []), (.fn (.func 171) [] []), (.one .nilFunc rfl)]))] 6 71 0 0), (.cells [(.str (ByteArray.mk #[105, 112, 54]) true), (.int .i64 41 true), (.slc 10 0 1 1 true true), (.int .i64 128 true), (.bool false true), (.ifc 150 (.agg [(.fn (.func 170) [] []), (.fn (.func 171) [] []), (.one .nilFunc rfl)]))] 6 71 0 0), (.cells [(.int .u8 41 true)] 1 5 0 0), (.cells [(.str (ByteArray.mk #[105, 112, 54]) true), (.int .i64 41 true), (.slc 10 0 1 1 true true), (.int .i64 128 true), (.bool false true), (.ifc 150 (.agg [(.fn (.func 170) [] []), (.fn (.func 171) [] []), (.one .nilFunc rfl)]))] 6 71 0 0), (.cells [(.int .u8 41 true), (.int .u8 (x0 (0 : Nat)) false), (.int .u8 (x0 (1 : Nat)) false), (.int .u8 (x0 (2 : Nat)) false), (.int .u8 (x0 (3 : Nat)) false), (.int .u8 (x0 (4 : Nat)) false), (.int .u8 (x0 (5 : Nat)) false), (.int .u8 (x0 (6 : Nat)) false), (.int .u8 (x0 (7 : Nat)) false), (.int .u8 (x0 (8 : Nat)) false), (.int .u8 (x0 (9 : Nat)) false), (.int .u8 (x0 (10 : Nat)) false), (.int .u8 (x0 (11 : Nat)) false), (.int .u8 (x0 (12 : Nat)) false), (.int .u8 (x0 (13 : Nat)) false), (.int .u8 (x0 (14 : Nat)) false), (.int .u8 (x0 (15 : Nat)) false)] 17 5 0 0), (.cells [(.str (bytesOf [IntKind.u8.wrap (IntKind.u64.wrap (41 : Int)), x0 (0 : Nat), x0 (1 : Nat), x0 (2 : Nat), x0 (3 : Nat), x0 (4 : Nat), x0 (5 : Nat), x0 (6 : Nat), x0 (7 : Nat), x0 (8 : Nat), x0 (9 : Nat), x0 (10 : Nat), x0 (11 : Nat), x0 (12 : Nat), x0 (13 : Nat), x0 (14 : Nat), x0 (15 : Nat)]) false), (.ptr 11 0), (.int .i64 1 true)] 3 74 0 0)] [] true w1 b1)))
   (.hc 139 [(.ptr 13 0)] (SS.mk [(.cells [(.str (ByteArray.mk #[105, 112, 54]) true), (.int .i64 41 true), (.slc 3 0 1 1 true true), (.int .i64 128 true), (.bool false true), (.ifc 150 (.agg [(.fn (.func 170) [] []), (.fn (.func 171) [] []), (.one .nilFunc rfl)]))] 6 71 0 0), (.cells [(.str (ByteArray.mk #[105, 112, 54]) true), (.int .i64 41 true), (.slc 3 0 1 1 true true), (.int .i64 128 true), (.bool false true), (.ifc 150 (.agg [(.fn (.func 170) [] []), (.fn (.func 171) [] []), (.one .nilFunc rfl)]))] 6 71 0 0), (.cells [(.str (ByteArray.mk #[105, 112, 54]) true), (.int .i64 41 true), (.slc 3 0 1 1 true true), (.int .i64 128 true), (.bool false true), (.ifc 150 (.agg [(.fn (.func 170) [] []), (.fn (.func 171) [] []), (.one .nilFunc rfl)]))] 6 71 0 0), (.cells [(.int .u8 41 true)] 1 5 0 0), (.cells [(.str (ByteArray.mk #[105, 112, 54]) true), (.int .i64 41 true), (.slc 3 0 1 1 true true), (.int .i64 128 true), (.bool false true), (.ifc 150 (.agg [(.fn (.func 170) [] []), (.fn (.func 171) [] []), (.one .nilFunc rfl)]))] 6 71 0 0), (.cells [(.fn (.func 170) [] []), (.fn (.func 171) [] []), (.one .nilFunc rfl)] 3 150 0 0), (.cells (sixteen x0) 16 196 0 0), (.cells [(.str (ByteArray.mk #[105, 112, 54]) true), (.int .i64 41 true), (.slc 3 0 1 1 true true), (.int .i64 128 true), (.bool false true), (.ifc 150 (.agg [(.fn (.func 170) [] []), (.fn (.func 171) [] []), (.one .nilFunc rfl)]))] 6 71 0 0), (.cells [(.str (ByteArray.mk #[105, 112, 54]) true), (.int .i64 41 true), (.slc 10 0 1 1 true true), (.int .i64 128 true), (.bool false true), (.ifc 150 (.agg [(.fn (.func 170) [] []), (.fn (.func 171) [] []), (.one .nilFunc rfl)]))] 6 71 0 0), (.cells [(.str (ByteArray.mk #[105, 112, 54]) true), (.int .i64 41 true), (.slc 10 0 1 1 true true), (.int .i64 128 true), (.bool false true), (.ifc 150 (.agg [(.fn (.func 170) [] []), (.fn (.func 171) [] []), (.one .nilFunc rfl)]))] 6 71 0 0), (.cells [(.int .u8 41 true)] 1 5 0 0), (.cells [(.str (ByteArray.mk #[105, 112, 54]) true), (.int .i64 41 true), (.slc 10 0 1 1 true true), (.int .i64 128 true), (.bool false true), (.ifc 150 (.agg [(.fn (.func 170) [] []), (.fn (.func 171) [] []), (.one .nilFunc rfl)]))] 6 71 0 0), (.cells [(.int .u8 41 true), (.int .u8 (x0 (0 : Nat)) false), (.int .u8 (x0 (1 : Nat)) false), (.int .u8 (x0 (2 : Nat)) false), (.int .u8 (x0 (3 : Nat)) false), (.int .u8 (x0 (4 : Nat)) false), (.int .u8 (x0 (5 : Nat)) false), (.int .u8 (x0 (6 : Nat)) false), (.int .u8 (x0 (7 : Nat)) false), (.int .u8 (x0 (8 : Nat)) false), (.int .u8 (x0 (9 : Nat)) false), (.int .u8 (x0 (10 : Nat)) false), (.int .u8 (x0 (11 : Nat)) false), (.int .u8 (x0 (12 : Nat)) false), (.int .u8 (x0 (13 : Nat)) false), (.int .u8 (x0 (14 : Nat)) false), (.int .u8 (x0 (15 : Nat)) false)] 17 5 0 0), (.cells [(.str (bytesOf [IntKind.u8.wrap (IntKind.u64.wrap (41 : Int)), x0 (0 : Nat), x0 (1 : Nat), x0 (2 : Nat), x0 (3 : Nat), x0 (4 : Nat), x0 (5 : Nat), x0 (6 : Nat), x0 (7 : Nat), x0 (8 : Nat), x0 (9 : Nat), x0 (10 : Nat), x0 (11 : Nat), x0 (12 : Nat), x0 (13 : Nat), x0 (14 : Nat), x0 (15 : Nat)]) false), (.ptr 11 0), (.int .i64 1 true)] 3 74 0 0)] [] true w0 b0) (nilHook) fun x1 w1 b1 =>
   (.leaf .ret [(.tup [(.ptr 13 0), (.one .nilIface rfl)])] (SS.mk [(.cells [(.str (ByteArray.mk #[105, 112, 54]) true), (.int .i64 41 true), (.slc 3 0 1 1 true true), (.int .i64 128 true), (.bool false true), (.ifc 150 (.agg [(.fn (.func 170) [] []), (.fn (.func 171) [] []), (.one .nilFunc rfl)]))] 6 71 0 0), (.cells [(.str (ByteArray.mk #[105, 112, 54]) true), (.int .i64 41 true), (.slc 3 0 1 1 true true), (.int .i64 128 true), (.bool false true), (.ifc 150 (.agg [(.fn (.func 170) [] []), (.fn (.func 171) [] []), (.one .nilFunc rfl)]))] 6 71 0 0), (.cells [(.str (ByteArray.mk #[105, 112, 54]) true), (.int .i64 41 true), (.slc 3 0 1 1 true true), (.int .i64 128 true), (.bool false true), (.ifc 150 (.agg [(.fn (.func 170) [] []), (.fn (.func 171) [] []), (.one .nilFunc rfl)]))] 6 71 0 0), (.cells [(.int .u8 41 true)] 1 5 0 0), (.cells [(.str (ByteArray.mk #[105, 112, 54]) true), (.int .i64 41 true), (.slc 3 0 1 1 true true), (.int .i64 128 true), (.bool false true), (.ifc 150 (.agg [(.fn (.func 170) [] []), (.fn (.func 171) [] []), (.one .nilFunc rfl)]))] 6 71 0 0), (.cells [(.fn (.func 170) [] []), (.fn (.func 171) [] []), (.one .nilFunc rfl)] 3 150 0 0), (.cells (sixteen x0) 16 196 0 0), (.cells [(.str (ByteArray.mk #[105, 112, 54]) true), (.int .i64 41 true), (.slc 3 0 1 1 true true), (.int .i64 128 true), (.bool false true), (.ifc 150 (.agg [(.fn (.func 170) [] []), (.fn (.func 171) [] []), (.one .nilFunc rfl)]))] 6 71 0 0), (.cells [(.str (ByteArray.mk #[105, 112, 54]) true), (.int .i64 41 true), (.slc 10 0 1 1 true true), (.int .i64 128 true), (.bool false true), (.ifc 150 (.agg [(.fn (.func 170) [] []), (.fn (.func 171) [] []), (.one .nilFunc rfl)]))] 6 71 0 0), (.cells [(.str (ByteArray.mk #[105, 112, 54]) true), (.int .i64 41 true), (.slc 10 0 1 1 true true), (.int .i64 128 true), (.bool false true), (.ifc 150 (.agg [(.fn (.func 170) [] []), (.fn (.func 171) [] []), (.one .nilFunc rfl)]))] 6 71 0 0), (.cells [(.int .u8 41 true)] 1 5 0 0), (.cells [(.str (ByteArray.mk #[105, 112, 54]) true), (.int .i64 41 true), (.slc 10 0 1 1 true true), (.int .i64 128 true), (.bool false true), (.ifc 150 (.agg [(.fn (.func 170) [] []), (.fn (.func 171) [] []), (.one .nilFunc rfl)]))] 6 71 0 0), (.cells [(.int .u8 41 true), (.int .u8 (x0 (0 : Nat)) false), (.int .u8 (x0 (1 : Nat)) false), (.int .u8 (x0 (2 : Nat)) false), (.int .u8 (x0 (3 : Nat)) false), (.int .u8 (x0 (4 : Nat)) false), (.int .u8 (x0 (5 : Nat)) false), (.int .u8 (x0 (6 : Nat)) false), (.int .u8 (x0 (7 : Nat)) false), (.int .u8 (x0 (8 : Nat)) false), (.int .u8 (x0 (9 : Nat)) false), (.int .u8 (x0 (10 : Nat)) false), (.int .u8 (x0 (11 : Nat)) false), (.int .u8 (x0 (12 : Nat)) false), (.int .u8 (x0 (13 : Nat)) false), (.int .u8 (x0 (14 : Nat)) false), (.int .u8 (x0 (15 : Nat)) false)] 17 5 0 0), (.cells [(.str (bytesOf [IntKind.u8.wrap (IntKind.u64.wrap (41 : Int)), x0 (0 : Nat), x0 (1 : Nat), x0 (2 : Nat), x0 (3 : Nat), x0 (4 : Nat), x0 (5 : Nat), x0 (6 : Nat), x0 (7 : Nat), x0 (8 : Nat), x0 (9 : Nat), x0 (10 : Nat), x0 (11 : Nat), x0 (12 : Nat), x0 (13 : Nat), x0 (14 : Nat), x0 (15 : Nat)]) false), (.ptr 11 0), (.int .i64 1 true)] 3 74 0 0)] [] true w1 b1))))) := by kernel_rfl

end Go.Proofs.YtdmnoagahjbjhaaGreatDoor
end

section
/- twrp's ValidateBytes without a function of its own. -/
set_option linter.unusedVariables false
set_option linter.unusedSimpArgs false
open Go Go.RowKit
namespace Go.Proofs.YtdmnoagahjbjhaaGreatDoor

set_option maxRecDepth 100000 in
theorem nilEq (w : World) : (binOp BinOp.eql 139 Value.nilFunc Value.nilFunc).run Tryz.prog w = .ok (.bool true) w := by
  rfl

set_option maxRecDepth 100000 in
theorem validate_c (f g : Fn) (v : Value) (w : World) : Calls Tryz.prog 399 #[.agg #[.func f #[] #[], .func g #[] #[], .nilFunc], v] w fun e w' => e = .returned .nilIface ∧ Below w.heap.size w w' := by
  have hal := Below.alloc (Below.refl w.heap.size w) (Nat.le_refl _) (Obj.cells #[Value.func f #[] #[], Value.func g #[] #[], Value.nilFunc] 150)
  go_enter Tryz.func399, Tryz.ntmps399
  go_wp2
  rw [nilEq]
  go_wp2
  simp [bodyPost, results, Tryz.results399, go_sem]
  exact hal

end Go.Proofs.YtdmnoagahjbjhaaGreatDoor
end

section
/- validateComponent of an ip4, of an ip6. -/
set_option linter.unusedVariables false
set_option linter.unusedSimpArgs false
set_option maxRecDepth 20000
namespace Go.Proofs.YtdmnoagahjbjhaaGreatDoor
open Go Go.Rx Go.RowKit

/-- All of a block's cells are known. -/
def full : SObj → Prop
  | .cells cs tot _ _ _ => cs.length = tot
  | .ints .. => True
  | .other _ => True
  | _ => False

theorem at_full {β : Nat → Nat} {o : SObj} (h : full o) {x y : Option Obj} (hx : o.At β x) (hy : o.At β y) : x = y := by
  cases o with
  | cells cs tot e lo hi =>
    obtain ⟨r1, h1, h2⟩ := hx
    obtain ⟨r2, h3, h4⟩ := hy
    have hl : cs.length = tot := h
    have e1 : r1 = [] := List.eq_nil_of_length_eq_zero (by omega)
    have e2 : r2 = [] := List.eq_nil_of_length_eq_zero (by omega)
    subst e1 e2
    rw [h1, h3]
  | ints k l e lo hi => exact Eq.trans hx (Eq.symm hy)
  | other ob => exact Eq.trans hx (Eq.symm hy)
  | unk => exact h.elim
  | vals l tot e lo hi => exact h.elim

theorem keepBelow {β : Nat → Nat} {objs : List SObj} {w w' : World} {m : Nat} (hk : Keep (blocks β m) w w') (ha : ObjsAt β objs w) (hb : ObjsAt β objs w') (hl : objs.length = m) (hf : ∀ o ∈ objs, full o) : Below w.heap.size w w' := by
  refine ⟨hk.os, hk.tape, hk.output, hk.size, fun b hlt => ?_⟩
  by_cases hm : b ∈ blocks β m
  · simp only [blocks, List.mem_map, List.mem_range] at hm
    obtain ⟨i, hi, rfl⟩ := hm
    have hi' : i < objs.length := by omega
    exact at_full (hf _ (List.getElem_mem hi')) (hb i _ (List.getElem?_eq_getElem hi')) (ha i _ (List.getElem?_eq_getElem hi'))
  · exact hk.block b hlt hm

theorem extL (L : List UInt8) (i j p q r : Nat) : List.map (fun b : UInt8 => (b.toNat : Int)) ((#[] : Array UInt8).extract p q ++ L.toArray.extract i j ++ (#[] : Array UInt8).extract r 0).toList = ((L.take j).drop i).map fun b => (b.toNat : Int) := by
  simp [List.drop_take]

theorem extS (L : List UInt8) (i j : Nat) : ((⟨L.toArray⟩ : ByteArray).extract i j).size = min j L.length - i := by
  simp [ByteArray.size_extract, ByteArray.size]
  omega

theorem sizeL (L : List UInt8) : (⟨L.toArray⟩ : ByteArray).size = L.length := by simp [ByteArray.size]

theorem ip4BtS_c (A : Option Addr) (n c : Nat) (p0 p1 p2 p3 : UInt8) (B : Nat) (w : World) (h : Bts w B A n [p0, p1, p2, p3]) (hc : n ≤ c) (hB : B ≤ w.heap.size) (ht : Tens w) : Calls Tryz.prog 164 #[.slice A n c] w (Ret (fun v _ => ∃ s, v = .tuple #[.string s, .nilIface]) w) := by
  have hn : n = 4 := h.1
  refine funF (hk := hk171) (n := 500) (args := [.xs A n c]) ⟨trivial, trivial⟩ ?_
  refine holds_eq (t164 A n c w) ?_
  refine call0 (R := fun (s : ByteArray) _ _ => True) (fun x => ⟨rfl, trivial⟩) (fun β wc hb => ?_) ?_
  · refine (ipText4_c A n c _ p0 p1 p2 p3 B wc (h.below (hb.mono hB) (Nat.le_refl _)) hc (Nat.le_trans hB hb.size) (ht.below hb ht.lt) (.inl ⟨hn, rfl⟩)).mono ?_
    rintro e w' ⟨v, rfl, rfl, hb'⟩
    exact ⟨_, rfl, hb', trivial⟩
  · rintro s wc w1 hwc _ hb
    exact retF (Fine.mk' (hwc.trans (hb.mono hwc.size)) (by simp)) fun β w' _ _ => ⟨s, rfl⟩

theorem ip6BtS_c (A : Option Addr) (n c : Nat) (l : List UInt8) (B : Nat) (w : World) (h : Bts w B A n l) (hl : l.length = 16) (hm : ¬ Mapped l) (hc : n ≤ c) (hB : B ≤ w.heap.size) : Calls Tryz.prog 171 #[.slice A n c] w (Ret (fun v _ => ∃ s, v = .tuple #[.string s, .nilIface]) w) := by
  have hn : n = 16 := by have := h.1; omega
  subst hn
  refine funF (hk := hk171) (n := 500) (args := [.xs A 16 c]) ⟨trivial, trivial⟩ ?_
  refine holds_eq (t171 A 16 c w) ?_
  refine call0 (R := fun (x : UV) _ _ => x.A.isNone = true) (fun x => ⟨rfl, trivial⟩) (fun β wc hb => ?_) ?_
  · refine (to4g_c A 16 c l B wc (h.below (hb.mono hB) (Nat.le_refl _)) hc (Nat.le_trans hB hb.size)).mono ?_
    rintro e w' ⟨v, rfl, hv, hb'⟩
    rcases hv with ⟨h1, _⟩ | ⟨_, h2, _⟩ | ⟨_, _, rfl⟩
    · omega
    · exact absurd h2 hm
    · exact ⟨⟨none, 0, 0⟩, rfl, hb', rfl⟩
  rintro x wc w0 hwc hx hb0
  have hw0 : Below w.heap.size w w0 := hwc.trans (hb0.mono hwc.size)
  refine splitT (fun hs => by rw [hx] at hs; cases hs) (fun _ => ?_)
  refine call0 (R := fun (s : ByteArray) _ _ => True) (fun x => ⟨rfl, trivial⟩) (fun β wc hb => ?_) ?_
  · have hw := hw0.trans (hb.mono hw0.size)
    refine (ipText6_c A c l B wc (h.below (hw.mono hB) (Nat.le_refl _)) hc (Nat.le_trans hB hw.size) hm).mono ?_
    rintro e w' ⟨v, rfl, ⟨f, t, _, rfl⟩, hb'⟩
    exact ⟨_, rfl, hb', trivial⟩
  · rintro s wc1 w1 hwc1 _ hb
    exact retF (Fine.mk' (hw0.trans ((hwc1.trans (hb.mono hwc1.size)).mono hw0.size)) (by simp)) fun β w' _ _ => ⟨s, rfl⟩

/-- Bytes of a text, in a new block. -/
theorem bts_text {w : World} {b B c n : Nat} {L : List UInt8} {fr : Nat × Nat} (h : w.heap[b]? = some (.cells ((L.map (fun x : UInt8 => (x.toNat : Int)) ++ List.replicate c (0 : Int)).map (Value.int .u8)).toArray 5 fr)) (hn : n = L.length) (hB : b < B) : Bts w B (some ⟨b, 0, none⟩) n L := by
  have hb := bts_of_ints (k := n) h (by
    intro v hv
    rcases List.mem_append.1 hv with h | h
    · obtain ⟨x, _, rfl⟩ := List.mem_map.1 h
      have := x.toNat_lt
      omega
    · have := List.eq_of_mem_replicate h
      omega) (by simp; omega) hB
  have e : (((L.map (fun x : UInt8 => (x.toNat : Int)) ++ List.replicate c (0 : Int)).take n).map fun v => UInt8.ofNat v.toNat) = L := by
    subst hn
    rw [List.take_append_of_le_length (by simp), List.take_of_length_le (by simp), List.map_map]
    refine (List.map_congr_left (g := id) fun x _ => ?_).trans (List.map_id L)
    simp
  rw [e] at hb
  exact hb

theorem vObjs4_ok (s : ByteArray) : (vObjs4 s).length = 3 ∧ (∀ o ∈ vObjs4 s, o.ok 3) ∧ ∀ o ∈ vObjs4 s, full o := by
  refine ⟨rfl, fun o ho => ?_, fun o ho => ?_⟩
  all_goals
    simp only [vObjs4, List.mem_cons, List.mem_nil_iff, or_false] at ho
    rcases ho with rfl | rfl | rfl <;> simp [SObj.ok, okL, SV.ok, full]

theorem val4_c {β : Nat → Nat} {w : World} (val : List UInt8) (hval : val.length = 4) (hat : ObjsAt β (vObjs4 ⟨(4 :: val).toArray⟩) w) (hlt : ∀ i, i < 3 → β i < w.heap.size) (hinj : ∀ i j, i < 3 → j < 3 → β i = β j → i = j) (ht : Tens w) :
    Calls Tryz.prog 139 #[.pointer (some ⟨β 0, 0, none⟩)] w fun e w' => e = .returned .nilIface ∧ Below w.heap.size w w' := by
  obtain ⟨o1, o2, o3⟩ := vObjs4_ok ⟨(4 :: val).toArray⟩
  have hst := St.head (P := Tryz.prog) (Q := retQ fun v w' => v = .nilIface ∧ Below w.heap.size w w') o1 hlt hinj hat o2
  have hsz : (⟨(4 :: val).toArray⟩ : ByteArray).size = 5 := by rw [sizeL, List.length_cons, hval]
  refine (funS (hk := hk139) (n := 3000) (args := [.ptr 0 0]) (Q := fun v w' => v = .nilIface ∧ Below w.heap.size w w') hst ⟨by simp [SV.ok, SS.n], trivial⟩ ?_).mono ?_
  rotate_left
  · rintro e w' ⟨v, rfl, rfl, h2⟩
    exact ⟨rfl, h2⟩
  refine holds_eq (t139a _ w (blocks β 3)) ?_
  simp only [extL, extS, hsz, List.length_cons, hval, List.take_succ_cons, List.take_zero, List.drop_zero, List.drop_succ_cons, List.map_cons, List.map_nil, List.take_of_length_le (Nat.le_of_eq hval)]
  have below : ∀ {Γ : Ctx} {β' : Nat → Nat} {s : SS} {w' : World}, Γ = { P := Tryz.prog, β0 := β, n0 := 3, Q := retQ fun v w' => v = .nilIface ∧ Below w.heap.size w w' } → St Γ β' s w' → s.objs.take 3 = vObjs4 ⟨(4 :: val).toArray⟩ → Keep (blocks β 3) w w' → Below w.heap.size w w' := by
    rintro Γ β' s w' rfl hs ho hk
    exact keepBelow hk hat (hs.objsAt ho o2) o1 o3
  refine splitD (fun h => by omega) (fun _ => splitD (fun h => by simp at h) (fun _ => ?_))
  refine needT (by simp) (chooseT ?_)
  rintro c0 ⟨_, hc0⟩
  refine needT (by simp) (needT (by trivial) (needT (by simp) (splitT (fun h => ?_) (fun _ => ?_))))
  · simp [bytesOf] at h
  refine needT (by simp) (splitT (fun h => ?_) (fun _ => splitT (fun h => ?_) (fun _ => ?_)))
  · exact absurd h (by decide)
  · exact absurd h (by decide)
  refine needT (by simp) (chooseT ?_)
  rintro c1 ⟨_, hc1⟩
  have hcut1 : 4 ≤ c1 := hc1 ▸ cut_append
  refine needT (by trivial) (needT (by trivial) (needT (by trivial) (needT (by trivial) ?_)))
  refine callK (w := w) (bs := blocks β 3) (R := fun (_ : ByteArray) _ _ => True) ⟨rfl, Keep.refl _ _, fun b hb => .inl hb⟩ (fun x => ⟨rfl, trivial, trivial, trivial⟩) (fun β' wc hs o hk => ?_) ?_
  · have hbw := below rfl hs rfl hk
    have h4 := hs.at_ 4 _ rfl
    have hb := bts_text (n := 4) h4 hval.symm (hs.lt 4 (by simp [SS.n]))
    obtain ⟨p0, p1, p2, p3, rfl⟩ : ∃ p0 p1 p2 p3, val = [p0, p1, p2, p3] := match val, hval with
      | [p0, p1, p2, p3], _ => ⟨p0, p1, p2, p3, rfl⟩
    refine (ip4BtS_c _ _ _ p0 p1 p2 p3 _ wc hb hcut1 (Nat.le_refl _) (ht.below hbw ht.lt)).mono ?_
    rintro e w' ⟨v, rfl, ⟨s, rfl⟩, hb'⟩
    exact ⟨s, rfl, hb', trivial⟩
  rintro x2 wc2 w2 b2 hk2 _ hb2 hkw2 hbs2
  refine needT (by simp) (chooseT ?_)
  rintro c3 ⟨_, hc3⟩
  refine needT (by trivial) (needT (by trivial) (needT (by trivial) (needT (by trivial) ?_)))
  refine callK (w := w) (bs := blocks β 3) (R := fun (_ : Unit) _ _ => True) ⟨rfl, hkw2, hbs2⟩ (fun x => ⟨rfl, trivial⟩) (fun β' wc hs o hk => ?_) ?_
  · refine (validate_c (.func 163) (.func 164) _ wc).mono ?_
    rintro e w' ⟨rfl, hb'⟩
    exact ⟨(), rfl, hb', trivial⟩
  rintro x4 wc4 w4 b4 hk4 _ hb4 hkw4 hbs4
  exact leafK (w := w) (bs := blocks β 3) ⟨rfl, hkw4, hbs4⟩ fun β' w' hs hk => ⟨_, rfl, rfl, below rfl hs rfl hk⟩

theorem vObjs6_ok (s : ByteArray) : (vObjs6 s).length = 3 ∧ (∀ o ∈ vObjs6 s, o.ok 3) ∧ ∀ o ∈ vObjs6 s, full o := by
  refine ⟨rfl, fun o ho => ?_, fun o ho => ?_⟩
  all_goals
    simp only [vObjs6, List.mem_cons, List.mem_nil_iff, or_false] at ho
    rcases ho with rfl | rfl | rfl <;> simp [SObj.ok, okL, SV.ok, full]

theorem val6_c {β : Nat → Nat} {w : World} (val : List UInt8) (hval : val.length = 16) (hat : ObjsAt β (vObjs6 ⟨(41 :: val).toArray⟩) w) (hlt : ∀ i, i < 3 → β i < w.heap.size) (hinj : ∀ i j, i < 3 → j < 3 → β i = β j → i = j) (hm : ¬ Mapped val) :
    Calls Tryz.prog 139 #[.pointer (some ⟨β 0, 0, none⟩)] w fun e w' => e = .returned .nilIface ∧ Below w.heap.size w w' := by
  obtain ⟨o1, o2, o3⟩ := vObjs6_ok ⟨(41 :: val).toArray⟩
  have hst := St.head (P := Tryz.prog) (Q := retQ fun v w' => v = .nilIface ∧ Below w.heap.size w w') o1 hlt hinj hat o2
  have hsz : (⟨(41 :: val).toArray⟩ : ByteArray).size = 17 := by rw [sizeL, List.length_cons, hval]
  refine (funS (hk := hk139) (n := 3000) (args := [.ptr 0 0]) (Q := fun v w' => v = .nilIface ∧ Below w.heap.size w w') hst ⟨by simp [SV.ok, SS.n], trivial⟩ ?_).mono ?_
  rotate_left
  · rintro e w' ⟨v, rfl, rfl, h2⟩
    exact ⟨rfl, h2⟩
  refine holds_eq (t139b _ w (blocks β 3)) ?_
  simp only [extL, extS, hsz, List.length_cons, hval, List.take_succ_cons, List.take_zero, List.drop_zero, List.drop_succ_cons, List.map_cons, List.map_nil, List.take_of_length_le (Nat.le_of_eq hval)]
  have below : ∀ {Γ : Ctx} {β' : Nat → Nat} {s : SS} {w' : World}, Γ = { P := Tryz.prog, β0 := β, n0 := 3, Q := retQ fun v w' => v = .nilIface ∧ Below w.heap.size w w' } → St Γ β' s w' → s.objs.take 3 = vObjs6 ⟨(41 :: val).toArray⟩ → Keep (blocks β 3) w w' → Below w.heap.size w w' := by
    rintro Γ β' s w' rfl hs ho hk
    exact keepBelow hk hat (hs.objsAt ho o2) o1 o3
  refine splitD (fun h => by omega) (fun _ => splitD (fun h => by simp at h) (fun _ => ?_))
  refine needT (by simp) (chooseT ?_)
  rintro c0 ⟨_, hc0⟩
  refine needT (by simp) (needT (by trivial) (needT (by simp) (splitT (fun h => ?_) (fun _ => ?_))))
  · simp [bytesOf] at h
  refine needT (by simp) (splitT (fun h => ?_) (fun _ => splitT (fun h => ?_) (fun _ => ?_)))
  · exact absurd h (by decide)
  · exact absurd h (by decide)
  refine needT (by simp) (chooseT ?_)
  rintro c1 ⟨_, hc1⟩
  have hcut1 : 16 ≤ c1 := hc1 ▸ cut_append
  refine needT (by trivial) (needT (by trivial) (needT (by trivial) (needT (by trivial) ?_)))
  refine callK (w := w) (bs := blocks β 3) (R := fun (_ : ByteArray) _ _ => True) ⟨rfl, Keep.refl _ _, fun b hb => .inl hb⟩ (fun x => ⟨rfl, trivial, trivial, trivial⟩) (fun β' wc hs o hk => ?_) ?_
  · have hbw := below rfl hs rfl hk
    have h4 := hs.at_ 4 _ rfl
    have hb := bts_text (n := 16) h4 hval.symm (hs.lt 4 (by simp [SS.n]))
    refine (ip6BtS_c _ _ _ val _ wc hb hval hm hcut1 (Nat.le_refl _)).mono ?_
    rintro e w' ⟨v, rfl, ⟨s, rfl⟩, hb'⟩
    exact ⟨s, rfl, hb', trivial⟩
  rintro x2 wc2 w2 b2 hk2 _ hb2 hkw2 hbs2
  refine needT (by simp) (chooseT ?_)
  rintro c3 ⟨_, hc3⟩
  refine needT (by trivial) (needT (by trivial) (needT (by trivial) (needT (by trivial) ?_)))
  refine callK (w := w) (bs := blocks β 3) (R := fun (_ : Unit) _ _ => True) ⟨rfl, hkw2, hbs2⟩ (fun x => ⟨rfl, trivial⟩) (fun β' wc hs o hk => ?_) ?_
  · refine (validate_c (.func 170) (.func 171) _ wc).mono ?_
    rintro e w' ⟨rfl, hb'⟩
    exact ⟨(), rfl, hb', trivial⟩
  rintro x4 wc4 w4 b4 hk4 _ hb4 hkw4 hbs4
  exact leafK (w := w) (bs := blocks β 3) ⟨rfl, hkw4, hbs4⟩ fun β' w' hs hk => ⟨_, rfl, rfl, below rfl hs rfl hk⟩

end Go.Proofs.YtdmnoagahjbjhaaGreatDoor
end

section
/- The bytes that a text is read as: the block that they lie in. -/
set_option linter.unusedVariables false
set_option linter.unusedSimpArgs false
set_option maxRecDepth 20000
namespace Go.Proofs.YtdmnoagahjbjhaaGreatDoor
open Go Go.Rx Go.RowKit

/-- Sixteen bytes fill a block. -/
def Blk (w : World) (k : Nat) (lb : List UInt8) : Prop := ∃ q : Nat → Int, (∀ j, j < 16 → q j = ((lb.getD j 0).toNat : Int)) ∧ w.heap[k]? = some (.cells (denL id (sixteen q)).toArray 196 (0, 0))

theorem blk_keep {w w' : World} {bs : List Nat} {k : Nat} {lb : List UInt8} (h : Blk w k lb) (hk : Keep bs w w') (hlt : k < w.heap.size) (hn : k ∉ bs) : Blk w' k lb := by
  obtain ⟨q, h1, h2⟩ := h
  exact ⟨q, h1, by rw [hk.block k hlt hn]; exact h2⟩

theorem blk_bts {w : World} {k B : Nat} {lb : List UInt8} (hlb : lb.length = 16) (h : Blk w k lb) (hB : k < B) : Bts w B (some ⟨k, 0, none⟩) 16 lb := by
  obtain ⟨q, hz, h1⟩ := h
  have hL : denL id (sixteen q) = (lb.map fun x => (x.toNat : Int)).map (Value.int .u8) := by
    have e : lb.map (fun x => (x.toNat : Int)) = [q 0, q 1, q 2, q 3, q 4, q 5, q 6, q 7, q 8, q 9, q 10, q 11, q 12, q 13, q 14, q 15] := by
      apply List.ext_getElem
      · simp [hlb]
      · intro i h1 h2
        have hi : i < 16 := by simpa [hlb] using h1
        have e1 : (lb.map fun x => (x.toNat : Int))[i] = q i := by
          rw [hz i hi]
          simp [List.getD, hlb, hi]
        rw [e1]
        clear e1 h1
        match i, hi, h2 with
        | 0, _, _ | 1, _, _ | 2, _, _ | 3, _, _ | 4, _, _ | 5, _, _ | 6, _, _ | 7, _, _ | 8, _, _ | 9, _, _ | 10, _, _ | 11, _, _ | 12, _, _ | 13, _, _ | 14, _, _ | 15, _, _ => rfl
        | n + 16, h, _ => exact absurd h (by omega)
    rw [e]
    rfl
  rw [hL] at h1
  have hb16 := bts_of_ints (k := 16) h1 (by
    intro v hv
    obtain ⟨x, _, rfl⟩ := List.mem_map.1 hv
    have := x.toNat_lt
    omega) (by simp [hlb]) hB
  have e2 : (((lb.map fun x => (x.toNat : Int)).take 16).map fun v => UInt8.ofNat v.toNat) = lb := by
    rw [List.take_of_length_le (by simp [hlb]), List.map_map]
    refine (List.map_congr_left (g := id) fun x _ => ?_).trans (List.map_id lb)
    simp
  rw [e2] at hb16
  exact hb16

theorem parseIP_o (T lb : List UInt8) (m : Nat) (hA : Asked T m (fun z => ∀ j, j < 16 → z.q j = ((lb.getD j 0).toNat : Int))) (w : World) :
    Calls Tryz.prog 210 #[.string ⟨T.toArray⟩] w (Ret (fun v w' => ∃ k, v = .slice (some ⟨k, 0, none⟩) 16 16 ∧ Blk w' k lb ∧ w.heap.size ≤ k ∧ k < w'.heap.size) w) := by
  refine funF (hk := hk210) (n := 500) (args := [.str ⟨T.toArray⟩ false]) ⟨trivial, trivial⟩ ?_
  refine holds_eq (t210 ⟨T.toArray⟩ w) ?_
  refine callF (R := fun (z : QV) _ _ => ∀ j, j < 16 → z.q j = ((lb.getD j 0).toNat : Int)) (Fine.start w _) (fun z => ⟨rfl, ⟨sixteen_ok _ _, trivial, trivial, trivial⟩⟩) (fun β wc hst o hb => ?_) ?_
  · refine (parseAddr_c T m _ hA wc).mono ?_
    rintro e w' ⟨v, rfl, ⟨z, hz, rfl⟩, hb'⟩
    exact ⟨z, rfl, hb', hz⟩
  · rintro z wc w1 b1 hwc hz hb1 hw1 hbs1
    refine retF (Fine.mk' hw1 hbs1) fun β w' hst hb => ?_
    obtain ⟨rest, h1, h2⟩ := hst.at_ 0 _ rfl
    have hr : rest = [] := List.eq_nil_of_length_eq_zero (by have h2' : 16 + rest.length = 16 := h2; omega)
    subst hr
    have hlt := hst.lt 0 (by simp [SS.n])
    have hfr := (Fine.mk' hw1 hbs1).new (hst.old rfl) 0 (by simp [SS.n])
    rw [List.append_nil] at h1
    exact ⟨β 0, rfl, ⟨z.q, hz, h1⟩, hfr, hlt⟩

/-- A text is read as a part of a new block. -/
def StO (w : World) (off n : Nat) (lb : List UInt8) (v : Value) (w' : World) : Prop := ∃ k, v = .tuple #[.slice (some ⟨k, off, none⟩) n n, .nilIface] ∧ Blk w' k lb ∧ w.heap.size ≤ k ∧ k < w'.heap.size

theorem ip4StB_o (a b c d : UInt8) (w : World) : Calls Tryz.prog 163 #[.string ⟨(text4 a b c d).toArray⟩] w (Ret (StO w 12 4 [0, 0, 0, 0, 0, 0, 0, 0, 0, 0, 255, 255, a, b, c, d]) w) := by
  refine funF (hk := hk163) (n := 500) (args := [.str ⟨(text4 a b c d).toArray⟩ false]) ⟨trivial, trivial⟩ ?_
  refine holds_eq (t163 ⟨(text4 a b c d).toArray⟩ w) ?_
  obtain ⟨m, hA⟩ := asked4 a b c d
  refine callN (R := fun (p : Addr) wc w' => ∃ k, p = ⟨k, 0, none⟩ ∧ Blk w' k [0, 0, 0, 0, 0, 0, 0, 0, 0, 0, 255, 255, a, b, c, d] ∧ wc.heap.size ≤ k ∧ k < w'.heap.size) (Fine.start w _) (fun x => ⟨rfl, trivial⟩) (fun β wc hst o hb => ?_) ?_
  · refine (parseIP_o _ _ m hA wc).mono ?_
    rintro e w' ⟨v, rfl, ⟨k, rfl, h1, h2, h3⟩, hb'⟩
    exact ⟨⟨k, 0, none⟩, rfl, hb', k, rfl, h1, h2, h3⟩
  rintro p wc w1 bs hb0 ⟨k, rfl, hblk, hfr, hlt⟩ hb1 hw1 hbs
  have hn : k ∉ bs := fun hm => by have := (hbs _ hm).2; omega
  refine callK (w := w1) (bs := bs) (R := fun (x : UV) _ _ => x = ⟨some (Addr.add ⟨k, 0, none⟩ 12), 4, 4⟩) ⟨rfl, Keep.refl _ _, fun b hb => .inl hb⟩ (fun x => ⟨rfl, trivial⟩) (fun β w2 hst o hk => ?_) ?_
  · have hbt := blk_bts rfl (blk_keep hblk hk hlt hn) (Nat.lt_of_lt_of_le hlt hk.size)
    refine (to4g_c (some ⟨k, 0, none⟩) 16 16 _ w2.heap.size w2 hbt (Nat.le_refl _) (Nat.le_refl _)).mono ?_
    rintro e w' ⟨v, rfl, hv, hb'⟩
    rcases hv with ⟨h, _⟩ | ⟨_, _, q, hq, rfl⟩ | ⟨_, h, _⟩
    · omega
    · cases hq
      exact ⟨⟨some (Addr.add ⟨k, 0, none⟩ 12), 4, 4⟩, rfl, hb', rfl⟩
    · exact absurd (show Mapped [0, 0, 0, 0, 0, 0, 0, 0, 0, 0, 255, 255, a, b, c, d] from rfl) (h rfl)
  rintro x w2 w3 bs3 hk12 rfl hb23 hk13 hbs3
  refine splitT (fun h => by simp at h) (fun _ => ?_)
  have hge : ∀ b ∈ bs3, w.heap.size ≤ b := fun b hb => by
    have := hw1.size
    rcases hbs3 b hb with h | h
    · exact (hbs b h).1
    · omega
  have hn3 : k ∉ bs3 := fun hm => by
    rcases hbs3 _ hm with h | h
    · exact hn h
    · omega
  have hw3 : Below w.heap.size w w3 := hk13.below hw1 (Nat.le_refl _) fun b hb => (hbs b hb).1
  refine leafK (w := w3) (bs := bs3) ⟨rfl, Keep.refl _ _, fun b hb => .inl hb⟩ fun β' w4 hst hk34 => ⟨_, rfl, ⟨k, rfl, ?_, ?_, ?_⟩, hk34.below hw3 (Nat.le_refl _) hge⟩
  · exact blk_keep (blk_keep hblk hk13 hlt hn) hk34 (Nat.lt_of_lt_of_le hlt hk13.size) hn3
  · have := hb0.size
    omega
  · exact Nat.lt_of_lt_of_le hlt (Nat.le_trans hk13.size hk34.size)

theorem ip6StB_o {l : List UInt8} (hl : l.length = 16) {f t : Nat} (hg : Good l f t) (w : World) : Calls Tryz.prog 170 #[.string ⟨(txt6 l f t).toArray⟩] w (Ret (StO w 0 16 l) w) := by
  refine funF (hk := hk163) (n := 500) (args := [.str ⟨(txt6 l f t).toArray⟩ false]) ⟨trivial, trivial⟩ ?_
  refine holds_eq (t170 ⟨(txt6 l f t).toArray⟩ w) ?_
  obtain ⟨m, hA⟩ := asked6 hg
  refine callN (R := fun (p : Addr) wc w' => ∃ k, p = ⟨k, 0, none⟩ ∧ Blk w' k l ∧ wc.heap.size ≤ k ∧ k < w'.heap.size) (Fine.start w _) (fun x => ⟨rfl, trivial⟩) (fun β wc hst o hb => ?_) ?_
  · refine (parseIP_o _ _ m hA wc).mono ?_
    rintro e w' ⟨v, rfl, ⟨k, rfl, h1, h2, h3⟩, hb'⟩
    exact ⟨⟨k, 0, none⟩, rfl, hb', k, rfl, h1, h2, h3⟩
  rintro p wc w1 bs hb0 ⟨k, rfl, hblk, hfr, hlt⟩ hb1 hw1 hbs
  have hn : k ∉ bs := fun hm => by have := (hbs _ hm).2; omega
  refine callK (w := w1) (bs := bs) (R := fun (x : UV) _ _ => x = ⟨some ⟨k, 0, none⟩, 16, 16⟩) ⟨rfl, Keep.refl _ _, fun b hb => .inl hb⟩ (fun x => ⟨rfl, trivial⟩) (fun β w2 hst o hk => ?_) ?_
  · refine (to16_c (some ⟨k, 0, none⟩) 16 16 w2 (by omega)).mono ?_
    rintro e w' ⟨v, rfl, hv, hb'⟩
    rcases hv with ⟨_, rfl⟩ | ⟨h, _⟩
    · exact ⟨⟨some ⟨k, 0, none⟩, 16, 16⟩, rfl, hb', rfl⟩
    · exact absurd rfl h
  rintro x w2 w3 bs3 hk12 rfl hb23 hk13 hbs3
  refine splitT (fun h => by simp at h) (fun _ => ?_)
  have hge : ∀ b ∈ bs3, w.heap.size ≤ b := fun b hb => by
    have := hw1.size
    rcases hbs3 b hb with h | h
    · exact (hbs b h).1
    · omega
  have hn3 : k ∉ bs3 := fun hm => by
    rcases hbs3 _ hm with h | h
    · exact hn h
    · omega
  have hw3 : Below w.heap.size w w3 := hk13.below hw1 (Nat.le_refl _) fun b hb => (hbs b hb).1
  refine leafK (w := w3) (bs := bs3) ⟨rfl, Keep.refl _ _, fun b hb => .inl hb⟩ fun β' w4 hst hk34 => ⟨_, rfl, ⟨k, rfl, ?_, ?_, ?_⟩, hk34.below hw3 (Nat.le_refl _) hge⟩
  · exact blk_keep (blk_keep hblk hk13 hlt hn) hk34 (Nat.lt_of_lt_of_le hlt hk13.size) hn3
  · have := hb0.size
    omega
  · exact Nat.lt_of_lt_of_le hlt (Nat.le_trans hk13.size hk34.size)

end Go.Proofs.YtdmnoagahjbjhaaGreatDoor
end

section
/- NewComponent of an ip4, of an ip6; NetFromIP; FnNetFromIP. -/
set_option linter.unusedVariables false
set_option linter.unusedSimpArgs false
set_option maxRecDepth 20000
namespace Go.Proofs.YtdmnoagahjbjhaaGreatDoor
open Go Go.Rx Go.RowKit

theorem sixteenL {l : List UInt8} (hl : l.length = 16) {q : Nat → Int} (hz : ∀ j, j < 16 → q j = ((l.getD j 0).toNat : Int)) : [q 0, q 1, q 2, q 3, q 4, q 5, q 6, q 7, q 8, q 9, q 10, q 11, q 12, q 13, q 14, q 15] = l.map fun x => (x.toNat : Int) := by
  symm
  apply List.ext_getElem
  · simp [hl]
  · intro i h1 h2
    have hi : i < 16 := by simpa [hl] using h1
    have e1 : (l.map fun x => (x.toNat : Int))[i] = q i := by
      rw [hz i hi]
      simp [List.getD, hl, hi]
    rw [e1]
    clear e1 h1
    match i, hi, h2 with
    | 0, _, _ | 1, _, _ | 2, _, _ | 3, _, _ | 4, _, _ | 5, _, _ | 6, _, _ | 7, _, _ | 8, _, _ | 9, _, _ | 10, _, _ | 11, _, _ | 12, _, _ | 13, _, _ | 14, _, _ | 15, _, _ => rfl
    | n + 16, h, _ => exact absurd h (by omega)

theorem bytesOf_nats (l : List UInt8) : bytesOf (l.map fun x => (x.toNat : Int)) = ⟨l.toArray⟩ := by
  rw [← bytesOf_vals l, List.map_map]
  rfl

theorem newComp4_c (a b c d : UInt8) (w : World) (ht : Tens w) : Calls Tryz.prog 73 #[.string ⟨#[105, 112, 52]⟩, .string ⟨(text4 a b c d).toArray⟩] w (NcQ 4 [a, b, c, d] w) := by
  have main : Calls Tryz.prog 73 #[.string ⟨#[105, 112, 52]⟩, .string ⟨(text4 a b c d).toArray⟩] w (Ret (fun v w' => ∃ (x : NC) (k : Nat), v = .tuple #[.pointer (some ⟨k, 0, none⟩), .nilIface] ∧ w.heap.size ≤ k ∧ k < w'.heap.size ∧
      w'.heap[k]? = some (.cells #[.string x.s, .pointer (some x.p), .int .i64 (x.i : Int)] 74 (0, 0)) ∧ NcR 4 [a, b, c, d] x k w w') w) := by
    refine funF (hk := hk73) (n := 5000) (args := [.str ⟨#[105, 112, 52]⟩ true, .str ⟨(text4 a b c d).toArray⟩ false]) ⟨trivial, trivial, trivial⟩ ?_
    refine holds_eq (t73a _ w) ?_
    refine callNewB (w := w) (o := fun q => .cells (sixteen q) 16 196 0 0) (r := fun _ => .tup [.slc 6 12 4 4 true true, .one .nilIface rfl]) (R := fun q _ _ _ => ∀ j, j < 16 → q j = ((([0, 0, 0, 0, 0, 0, 0, 0, 0, 0, 255, 255, a, b, c, d] : List UInt8).getD j 0).toNat : Int)) (Fine.start w _) rfl (fun q => ⟨sixteen_ok _ q, ⟨by simp [SV.ok, SS.n], trivial, trivial⟩⟩) (fun β w0 hst hb => ?_) ?_
    · refine (ip4StB_o a b c d w0).mono ?_
      rintro e w' ⟨v, rfl, ⟨k, rfl, ⟨q, hq, hblk⟩, h1, h2⟩, hb'⟩
      exact ⟨q, k, rfl, hb', h1, h2, ⟨[], hblk, rfl⟩, hq⟩
    rintro q k w0 w1 bs hq hk1 hk2 hw0 hb1 hw1 hbs
    have e12 : q 12 = (a.toNat : Int) := hq 12 (by omega)
    have e13 : q 13 = (b.toNat : Int) := hq 13 (by omega)
    have e14 : q 14 = (c.toNat : Int) := hq 14 (by omega)
    have e15 : q 15 = (d.toNat : Int) := hq 15 (by omega)
    have hs : bytesOf [IntKind.u8.wrap (IntKind.u64.wrap (4 : Int)), q 12, q 13, q 14, q 15] = ⟨(4 :: [a, b, c, d]).toArray⟩ := by
      rw [e12, e13, e14, e15]
      exact bytesOf_nats [4, a, b, c, d]
    simp only [hs]
    have hfin : Fine w (SS.mk [] [] true w1 bs) := Fine.mk' hw1 fun b hb => (hbs b hb).1
    refine bothT ?_ ?_
    all_goals
      refine callN (w := w) (R := fun (_ : Unit) _ _ => True) (Fine.mk' hw1 fun b hb => (hbs b hb).1) (fun x => ⟨rfl, trivial⟩) (fun β w2 hst ho hb => ?_) ?_
      · refine (val4_c (β := fun i => β ([13, 11, 10].getD i 0)) (w := w2) [a, b, c, d] rfl ?_ ?_ ?_ (ht.below hb ht.lt)).mono ?_
        · intro i o hi
          match i, hi with
          | 0, hi => simp only [List.getElem?_cons_zero, Option.some.injEq] at hi; subst hi; exact hst.at_ 13 _ rfl
          | 1, hi => simp only [List.getElem?_cons_succ, List.getElem?_cons_zero, Option.some.injEq] at hi; subst hi; exact hst.at_ 11 _ rfl
          | 2, hi => simp only [List.getElem?_cons_succ, List.getElem?_cons_zero, Option.some.injEq] at hi; subst hi; exact hst.at_ 10 _ rfl
          | i + 3, hi => simp at hi
        · intro i hi
          match i, hi with
          | 0, _ => exact hst.lt 13 (by simp [SS.n])
          | 1, _ => exact hst.lt 11 (by simp [SS.n])
          | 2, _ => exact hst.lt 10 (by simp [SS.n])
          | i + 3, hi => exact absurd hi (by omega)
        · intro i j hi hj he
          have h3 : ∀ i, i < 3 → i = 0 ∨ i = 1 ∨ i = 2 := by omega
          have n13 : 13 < (14 : Nat) := by omega
          have i1 : β 13 ≠ β 11 := fun h => by have := hst.inj 13 11 (by simp [SS.n]) (by simp [SS.n]) h; omega
          have i2 : β 13 ≠ β 10 := fun h => by have := hst.inj 13 10 (by simp [SS.n]) (by simp [SS.n]) h; omega
          have i3 : β 11 ≠ β 10 := fun h => by have := hst.inj 11 10 (by simp [SS.n]) (by simp [SS.n]) h; omega
          rcases h3 i hi with rfl | rfl | rfl <;> rcases h3 j hj with rfl | rfl | rfl
          · rfl
          · exact absurd he i1
          · exact absurd he i2
          · exact absurd he.symm i1
          · rfl
          · exact absurd he i3
          · exact absurd he.symm i2
          · exact absurd he.symm i3
          · rfl
        · rintro e w' ⟨rfl, hb'⟩
          exact ⟨(), rfl, hb', trivial⟩
      · rintro _ w2 w3 bs3 hw2 _ hb23 hw3 hbs3
        have hf3 : ∀ b ∈ bs3, w.heap.size ≤ b := fun b hb => (hbs3 b hb).1
        refine retF (Fine.mk' hw3 hf3) fun β w4 hst hb4 => ?_
        have hf := (Fine.mk' hw3 hf3).new (hst.old rfl)
        obtain ⟨r13, c13, l13⟩ := hst.at_ 13 _ rfl
        have hr : r13 = [] := List.eq_nil_of_length_eq_zero (by have l' : 3 + r13.length = 3 := l13; omega)
        subst hr
        obtain ⟨r11, c11, _⟩ := hst.at_ 11 _ rfl
        exact ⟨⟨⟨(4 :: [a, b, c, d]).toArray⟩, ⟨β 11, 0, none⟩, 1⟩, β 13, rfl, hf 13 (by simp [SS.n]), hst.lt 13 (by simp [SS.n]), c13, [4], rfl, rfl, by decide,
          ⟨hst.lt 11 (by simp [SS.n]), ⟨⟨#[105, 112, 52]⟩, some ⟨β 10, 0, none⟩, 1, 1, 32, false, ⟨.iface 150 (.agg #[.func (.func 163) #[] #[], .func (.func 164) #[] #[], .nilFunc]), rfl⟩⟩, fun i v hi => cellsIn c11 i v hi⟩,
          hf 11 (by simp [SS.n]), fun he => by have := hst.inj 11 13 (by simp [SS.n]) (by simp [SS.n]) he; omega⟩
  refine main.mono ?_
  rintro e w' ⟨v, rfl, ⟨x, k, rfl, h1, h2, h3, h4⟩, hb⟩
  exact ⟨x, k, rfl, hb, h1, h2, h3, h4⟩

theorem newComp6_c (l : List UInt8) (f t : Nat) (w : World) (hl : l.length = 16) (hg : Good l f t) (hm : ¬ Mapped l) : Calls Tryz.prog 73 #[.string ⟨#[105, 112, 54]⟩, .string ⟨(txt6 l f t).toArray⟩] w (NcQ 41 l w) := by
  have main : Calls Tryz.prog 73 #[.string ⟨#[105, 112, 54]⟩, .string ⟨(txt6 l f t).toArray⟩] w (Ret (fun v w' => ∃ (x : NC) (k : Nat), v = .tuple #[.pointer (some ⟨k, 0, none⟩), .nilIface] ∧ w.heap.size ≤ k ∧ k < w'.heap.size ∧
      w'.heap[k]? = some (.cells #[.string x.s, .pointer (some x.p), .int .i64 (x.i : Int)] 74 (0, 0)) ∧ NcR 41 l x k w w') w) := by
    refine funF (hk := hk73) (n := 5000) (args := [.str ⟨#[105, 112, 54]⟩ true, .str ⟨(txt6 l f t).toArray⟩ false]) ⟨trivial, trivial, trivial⟩ ?_
    refine holds_eq (t73b _ w) ?_
    refine callNewB (w := w) (o := fun q => .cells (sixteen q) 16 196 0 0) (r := fun _ => .tup [.slc 6 0 16 16 true true, .one .nilIface rfl]) (R := fun q _ _ _ => ∀ j, j < 16 → q j = ((l.getD j 0).toNat : Int)) (Fine.start w _) rfl (fun q => ⟨sixteen_ok _ q, ⟨by simp [SV.ok, SS.n], trivial, trivial⟩⟩) (fun β w0 hst hb => ?_) ?_
    · refine (ip6StB_o hl hg w0).mono ?_
      rintro e w' ⟨v, rfl, ⟨k, rfl, ⟨q, hq, hblk⟩, h1, h2⟩, hb'⟩
      exact ⟨q, k, rfl, hb', h1, h2, ⟨[], hblk, rfl⟩, hq⟩
    rintro q k w0 w1 bs hq hk1 hk2 hw0 hb1 hw1 hbs
    have hs : bytesOf [IntKind.u8.wrap (IntKind.u64.wrap (41 : Int)), q 0, q 1, q 2, q 3, q 4, q 5, q 6, q 7, q 8, q 9, q 10, q 11, q 12, q 13, q 14, q 15] = ⟨(41 :: l).toArray⟩ := by
      rw [sixteenL hl hq]
      exact bytesOf_nats (41 :: l)
    simp only [hs]
    have hfin : Fine w (SS.mk [] [] true w1 bs) := Fine.mk' hw1 fun b hb => (hbs b hb).1
    refine bothT ?_ ?_
    all_goals
      refine callN (w := w) (R := fun (_ : Unit) _ _ => True) (Fine.mk' hw1 fun b hb => (hbs b hb).1) (fun x => ⟨rfl, trivial⟩) (fun β w2 hst ho hb => ?_) ?_
      · refine (val6_c (β := fun i => β ([13, 11, 10].getD i 0)) (w := w2) l hl ?_ ?_ ?_ hm).mono ?_
        · intro i o hi
          match i, hi with
          | 0, hi => simp only [List.getElem?_cons_zero, Option.some.injEq] at hi; subst hi; exact hst.at_ 13 _ rfl
          | 1, hi => simp only [List.getElem?_cons_succ, List.getElem?_cons_zero, Option.some.injEq] at hi; subst hi; exact hst.at_ 11 _ rfl
          | 2, hi => simp only [List.getElem?_cons_succ, List.getElem?_cons_zero, Option.some.injEq] at hi; subst hi; exact hst.at_ 10 _ rfl
          | i + 3, hi => simp at hi
        · intro i hi
          match i, hi with
          | 0, _ => exact hst.lt 13 (by simp [SS.n])
          | 1, _ => exact hst.lt 11 (by simp [SS.n])
          | 2, _ => exact hst.lt 10 (by simp [SS.n])
          | i + 3, hi => exact absurd hi (by omega)
        · intro i j hi hj he
          have h3 : ∀ i, i < 3 → i = 0 ∨ i = 1 ∨ i = 2 := by omega
          have n13 : 13 < (14 : Nat) := by omega
          have i1 : β 13 ≠ β 11 := fun h => by have := hst.inj 13 11 (by simp [SS.n]) (by simp [SS.n]) h; omega
          have i2 : β 13 ≠ β 10 := fun h => by have := hst.inj 13 10 (by simp [SS.n]) (by simp [SS.n]) h; omega
          have i3 : β 11 ≠ β 10 := fun h => by have := hst.inj 11 10 (by simp [SS.n]) (by simp [SS.n]) h; omega
          rcases h3 i hi with rfl | rfl | rfl <;> rcases h3 j hj with rfl | rfl | rfl
          · rfl
          · exact absurd he i1
          · exact absurd he i2
          · exact absurd he.symm i1
          · rfl
          · exact absurd he i3
          · exact absurd he.symm i2
          · exact absurd he.symm i3
          · rfl
        · rintro e w' ⟨rfl, hb'⟩
          exact ⟨(), rfl, hb', trivial⟩
      · rintro _ w2 w3 bs3 hw2 _ hb23 hw3 hbs3
        have hf3 : ∀ b ∈ bs3, w.heap.size ≤ b := fun b hb => (hbs3 b hb).1
        refine retF (Fine.mk' hw3 hf3) fun β w4 hst hb4 => ?_
        have hf := (Fine.mk' hw3 hf3).new (hst.old rfl)
        obtain ⟨r13, c13, l13⟩ := hst.at_ 13 _ rfl
        have hr : r13 = [] := List.eq_nil_of_length_eq_zero (by have l' : 3 + r13.length = 3 := l13; omega)
        subst hr
        obtain ⟨r11, c11, _⟩ := hst.at_ 11 _ rfl
        exact ⟨⟨⟨(41 :: l).toArray⟩, ⟨β 11, 0, none⟩, 1⟩, β 13, rfl, hf 13 (by simp [SS.n]), hst.lt 13 (by simp [SS.n]), c13, [41], rfl, rfl, by decide,
          ⟨hst.lt 11 (by simp [SS.n]), ⟨⟨#[105, 112, 54]⟩, some ⟨β 10, 0, none⟩, 1, 1, 128, false, ⟨.iface 150 (.agg #[.func (.func 170) #[] #[], .func (.func 171) #[] #[], .nilFunc]), rfl⟩⟩, fun i v hi => cellsIn c11 i v hi⟩,
          hf 11 (by simp [SS.n]), fun he => by have := hst.inj 11 13 (by simp [SS.n]) (by simp [SS.n]) he; omega⟩
  refine main.mono ?_
  rintro e w' ⟨v, rfl, ⟨x, k, rfl, h1, h2, h3, h4⟩, hb⟩
  exact ⟨x, k, rfl, hb, h1, h2, h3, h4⟩

theorem netFromIP_c (A : Option Addr) (n c : Nat) (l : List UInt8) (w : World) (h : Bts w w.heap.size A n l) (hn : n ≤ reachBytes) (hc : n ≤ c) (ht : Tens w) (he : ∃ a, ErrAt w a) : Calls Tryz.prog 13 #[.slice A n c] w (Ret (FromQ l) w) :=
  netFromIP_of A n c l w h hn hc ht he (fun a b c d wc ht => newComp4_c a b c d wc ht) (fun l f t wc hl hg hm => newComp6_c l f t wc hl hg hm)

theorem fnNetFromIP_c (A : Option Addr) (n c : Nat) (l : List UInt8) (w : World) (h : Bts w w.heap.size A n l) (hn : n ≤ reachBytes) (hc : n ≤ c) (ht : Tens w) (he : ∃ a, ErrAt w a) : Calls Tryz.prog 4 #[.slice A n c] w (Ret (BoolQ fun b => b = true) w) :=
  fnNetFromIP_of A n c l w h hn hc fun wc hb => netFromIP_c A n c l wc (h.below hb hb.size) hn hc (ht.below hb ht.lt) (by
    obtain ⟨a, he⟩ := he
    exact ⟨a, by unfold ErrAt at he ⊢; rw [hb.block 1 (Array.getElem?_eq_some_iff.1 he).1]; exact he⟩)

end Go.Proofs.YtdmnoagahjbjhaaGreatDoor
end

