/- Simple components: MaProtocol, MaSimple, MaAddress, maSimple answer; what is simple has a code of the table. -/
import Derived.Test.YtdmnoagahjbjhaaGreatDoorM2
set_option linter.unusedVariables false
set_option maxRecDepth 20000
namespace Go.Proofs.YtdmnoagahjbjhaaGreatDoor
open Go Go.Rx Go.RowKit

/-- What MaProtocol hands back. -/
structure PX where
  name : ByteArray
  cd : Int
  size : Int
  path : Bool
  ok : Bool
def protoHook : Hook := { X := PX, out := fun _ s x => (.tup [.agg [.str x.name false, .int .i64 x.cd false, .int .i64 x.size false, .bool x.path false, .one (.slice none 0 0) rfl], .bool x.ok false], s.objs) }
def hk16 : Hooks := { calls := fun f => if f = 28 then some protoHook else if f = 29 ∨ f = 30 then some boolHook else none, loops := fun f k => none }
set_option maxRecDepth 100000 in
theorem t28 (code : Int) (w : World) : xFunc Tryz.prog noHk 1000 28 [.int .i64 code false] (SS.at w) =
  (.split (code == (4 : Int))
   (.leaf .ret [(.tup [(.agg [(.str (ByteArray.mk #[105, 112, 52]) true), (.int .i64 code false), (.int .i64 32 true), (.bool (code == (400 : Int)) false), (.one (.slice none 0 0) rfl)]), (.bool true true)])] (SS.mk [(.cells [(.str (ByteArray.mk #[105, 112, 52]) true), (.int .i64 code false), (.int .i64 32 true), (.bool (code == (400 : Int)) false), (.one (.slice none 0 0) rfl)] 5 57 0 0)] [] true w []))
   (.split (code == (6 : Int))
    (.leaf .ret [(.tup [(.agg [(.str (ByteArray.mk #[116, 99, 112]) true), (.int .i64 code false), (.int .i64 16 true), (.bool (code == (400 : Int)) false), (.one (.slice none 0 0) rfl)]), (.bool true true)])] (SS.mk [(.cells [(.str (ByteArray.mk #[116, 99, 112]) true), (.int .i64 code false), (.int .i64 16 true), (.bool (code == (400 : Int)) false), (.one (.slice none 0 0) rfl)] 5 57 0 0)] [] true w []))
    (.split (code == (33 : Int))
     (.leaf .ret [(.tup [(.agg [(.str (ByteArray.mk #[100, 99, 99, 112]) true), (.int .i64 code false), (.int .i64 16 true), (.bool (code == (400 : Int)) false), (.one (.slice none 0 0) rfl)]), (.bool true true)])] (SS.mk [(.cells [(.str (ByteArray.mk #[100, 99, 99, 112]) true), (.int .i64 code false), (.int .i64 16 true), (.bool (code == (400 : Int)) false), (.one (.slice none 0 0) rfl)] 5 57 0 0)] [] true w []))
     (.split (code == (41 : Int))
      (.leaf .ret [(.tup [(.agg [(.str (ByteArray.mk #[105, 112, 54]) true), (.int .i64 code false), (.int .i64 128 true), (.bool (code == (400 : Int)) false), (.one (.slice none 0 0) rfl)]), (.bool true true)])] (SS.mk [(.cells [(.str (ByteArray.mk #[105, 112, 54]) true), (.int .i64 code false), (.int .i64 128 true), (.bool (code == (400 : Int)) false), (.one (.slice none 0 0) rfl)] 5 57 0 0)] [] true w []))
      (.split (code == (42 : Int))
       (.leaf .ret [(.tup [(.agg [(.str (ByteArray.mk #[105, 112, 54, 122, 111, 110, 101]) true), (.int .i64 code false), (.int .i64 (-1) true), (.bool (code == (400 : Int)) false), (.one (.slice none 0 0) rfl)]), (.bool true true)])] (SS.mk [(.cells [(.str (ByteArray.mk #[105, 112, 54, 122, 111, 110, 101]) true), (.int .i64 code false), (.int .i64 (-1) true), (.bool (code == (400 : Int)) false), (.one (.slice none 0 0) rfl)] 5 57 0 0)] [] true w []))
       (.split (code == (43 : Int))
        (.leaf .ret [(.tup [(.agg [(.str (ByteArray.mk #[105, 112, 99, 105, 100, 114]) true), (.int .i64 code false), (.int .i64 8 true), (.bool (code == (400 : Int)) false), (.one (.slice none 0 0) rfl)]), (.bool true true)])] (SS.mk [(.cells [(.str (ByteArray.mk #[105, 112, 99, 105, 100, 114]) true), (.int .i64 code false), (.int .i64 8 true), (.bool (code == (400 : Int)) false), (.one (.slice none 0 0) rfl)] 5 57 0 0)] [] true w []))
        (.split (code == (53 : Int))
         (.leaf .ret [(.tup [(.agg [(.str (ByteArray.mk #[100, 110, 115]) true), (.int .i64 code false), (.int .i64 (-1) true), (.bool (code == (400 : Int)) false), (.one (.slice none 0 0) rfl)]), (.bool true true)])] (SS.mk [(.cells [(.str (ByteArray.mk #[100, 110, 115]) true), (.int .i64 code false), (.int .i64 (-1) true), (.bool (code == (400 : Int)) false), (.one (.slice none 0 0) rfl)] 5 57 0 0)] [] true w []))
         (.split (code == (54 : Int))
          (.leaf .ret [(.tup [(.agg [(.str (ByteArray.mk #[100, 110, 115, 52]) true), (.int .i64 code false), (.int .i64 (-1) true), (.bool (code == (400 : Int)) false), (.one (.slice none 0 0) rfl)]), (.bool true true)])] (SS.mk [(.cells [(.str (ByteArray.mk #[100, 110, 115, 52]) true), (.int .i64 code false), (.int .i64 (-1) true), (.bool (code == (400 : Int)) false), (.one (.slice none 0 0) rfl)] 5 57 0 0)] [] true w []))
          (.split (code == (55 : Int))
           (.leaf .ret [(.tup [(.agg [(.str (ByteArray.mk #[100, 110, 115, 54]) true), (.int .i64 code false), (.int .i64 (-1) true), (.bool (code == (400 : Int)) false), (.one (.slice none 0 0) rfl)]), (.bool true true)])] (SS.mk [(.cells [(.str (ByteArray.mk #[100, 110, 115, 54]) true), (.int .i64 code false), (.int .i64 (-1) true), (.bool (code == (400 : Int)) false), (.one (.slice none 0 0) rfl)] 5 57 0 0)] [] true w []))
           (.split (code == (56 : Int))
            (.leaf .ret [(.tup [(.agg [(.str (ByteArray.mk #[100, 110, 115, 97, 100, 100, 114]) true), (.int .i64 code false), (.int .i64 (-1) true), (.bool (code == (400 : Int)) false), (.one (.slice none 0 0) rfl)]), (.bool true true)])] (SS.mk [(.cells [(.str (ByteArray.mk #[100, 110, 115, 97, 100, 100, 114]) true), (.int .i64 code false), (.int .i64 (-1) true), (.bool (code == (400 : Int)) false), (.one (.slice none 0 0) rfl)] 5 57 0 0)] [] true w []))
            (.split (code == (132 : Int))
             (.leaf .ret [(.tup [(.agg [(.str (ByteArray.mk #[115, 99, 116, 112]) true), (.int .i64 code false), (.int .i64 16 true), (.bool (code == (400 : Int)) false), (.one (.slice none 0 0) rfl)]), (.bool true true)])] (SS.mk [(.cells [(.str (ByteArray.mk #[115, 99, 116, 112]) true), (.int .i64 code false), (.int .i64 16 true), (.bool (code == (400 : Int)) false), (.one (.slice none 0 0) rfl)] 5 57 0 0)] [] true w []))
             (.split (code == (273 : Int))
              (.leaf .ret [(.tup [(.agg [(.str (ByteArray.mk #[117, 100, 112]) true), (.int .i64 code false), (.int .i64 16 true), (.bool (code == (400 : Int)) false), (.one (.slice none 0 0) rfl)]), (.bool true true)])] (SS.mk [(.cells [(.str (ByteArray.mk #[117, 100, 112]) true), (.int .i64 code false), (.int .i64 16 true), (.bool (code == (400 : Int)) false), (.one (.slice none 0 0) rfl)] 5 57 0 0)] [] true w []))
              (.split (code == (276 : Int))
               (.leaf .ret [(.tup [(.agg [(.str (ByteArray.mk #[112, 50, 112, 45, 119, 101, 98, 114, 116, 99, 45, 100, 105, 114, 101, 99, 116]) true), (.int .i64 code false), (.int .i64 0 true), (.bool (code == (400 : Int)) false), (.one (.slice none 0 0) rfl)]), (.bool true true)])] (SS.mk [(.cells [(.str (ByteArray.mk #[112, 50, 112, 45, 119, 101, 98, 114, 116, 99, 45, 100, 105, 114, 101, 99, 116]) true), (.int .i64 code false), (.int .i64 0 true), (.bool (code == (400 : Int)) false), (.one (.slice none 0 0) rfl)] 5 57 0 0)] [] true w []))
               (.split (code == (280 : Int))
                (.leaf .ret [(.tup [(.agg [(.str (ByteArray.mk #[119, 101, 98, 114, 116, 99, 45, 100, 105, 114, 101, 99, 116]) true), (.int .i64 code false), (.int .i64 0 true), (.bool (code == (400 : Int)) false), (.one (.slice none 0 0) rfl)]), (.bool true true)])] (SS.mk [(.cells [(.str (ByteArray.mk #[119, 101, 98, 114, 116, 99, 45, 100, 105, 114, 101, 99, 116]) true), (.int .i64 code false), (.int .i64 0 true), (.bool (code == (400 : Int)) false), (.one (.slice none 0 0) rfl)] 5 57 0 0)] [] true w []))
                (.split (code == (281 : Int))
                 (.leaf .ret [(.tup [(.agg [(.str (ByteArray.mk #[119, 101, 98, 114, 116, 99]) true), (.int .i64 code false), (.int .i64 0 true), (.bool (code == (400 : Int)) false), (.one (.slice none 0 0) rfl)]), (.bool true true)])] (SS.mk [(.cells [(.str (ByteArray.mk #[119, 101, 98, 114, 116, 99]) true), (.int .i64 code false), (.int .i64 0 true), (.bool (code == (400 : Int)) false), (.one (.slice none 0 0) rfl)] 5 57 0 0)] [] true w []))
                 (.split (code == (290 : Int))
                  (.leaf .ret [(.tup [(.agg [(.str (ByteArray.mk #[112, 50, 112, 45, 99, 105, 114, 99, 117, 105, 116]) true), (.int .i64 code false), (.int .i64 0 true), (.bool (code == (400 : Int)) false), (.one (.slice none 0 0) rfl)]), (.bool true true)])] (SS.mk [(.cells [(.str (ByteArray.mk #[112, 50, 112, 45, 99, 105, 114, 99, 117, 105, 116]) true), (.int .i64 code false), (.int .i64 0 true), (.bool (code == (400 : Int)) false), (.one (.slice none 0 0) rfl)] 5 57 0 0)] [] true w []))
                  (.split (code == (301 : Int))
                   (.leaf .ret [(.tup [(.agg [(.str (ByteArray.mk #[117, 100, 116]) true), (.int .i64 code false), (.int .i64 0 true), (.bool (code == (400 : Int)) false), (.one (.slice none 0 0) rfl)]), (.bool true true)])] (SS.mk [(.cells [(.str (ByteArray.mk #[117, 100, 116]) true), (.int .i64 code false), (.int .i64 0 true), (.bool (code == (400 : Int)) false), (.one (.slice none 0 0) rfl)] 5 57 0 0)] [] true w []))
                   (.split (code == (302 : Int))
                    (.leaf .ret [(.tup [(.agg [(.str (ByteArray.mk #[117, 116, 112]) true), (.int .i64 code false), (.int .i64 0 true), (.bool (code == (400 : Int)) false), (.one (.slice none 0 0) rfl)]), (.bool true true)])] (SS.mk [(.cells [(.str (ByteArray.mk #[117, 116, 112]) true), (.int .i64 code false), (.int .i64 0 true), (.bool (code == (400 : Int)) false), (.one (.slice none 0 0) rfl)] 5 57 0 0)] [] true w []))
                    (.split (code == (400 : Int))
                     (.leaf .ret [(.tup [(.agg [(.str (ByteArray.mk #[117, 110, 105, 120]) true), (.int .i64 code false), (.int .i64 (-1) true), (.bool (code == (400 : Int)) false), (.one (.slice none 0 0) rfl)]), (.bool true true)])] (SS.mk [(.cells [(.str (ByteArray.mk #[117, 110, 105, 120]) true), (.int .i64 code false), (.int .i64 (-1) true), (.bool (code == (400 : Int)) false), (.one (.slice none 0 0) rfl)] 5 57 0 0)] [] true w []))
                     (.split (code == (421 : Int))
                      (.leaf .ret [(.tup [(.agg [(.str (ByteArray.mk #[112, 50, 112]) true), (.int .i64 code false), (.int .i64 (-1) true), (.bool (code == (400 : Int)) false), (.one (.slice none 0 0) rfl)]), (.bool true true)])] (SS.mk [(.cells [(.str (ByteArray.mk #[112, 50, 112]) true), (.int .i64 code false), (.int .i64 (-1) true), (.bool (code == (400 : Int)) false), (.one (.slice none 0 0) rfl)] 5 57 0 0)] [] true w []))
                      (.split (code == (443 : Int))
                       (.leaf .ret [(.tup [(.agg [(.str (ByteArray.mk #[104, 116, 116, 112, 115]) true), (.int .i64 code false), (.int .i64 0 true), (.bool (code == (400 : Int)) false), (.one (.slice none 0 0) rfl)]), (.bool true true)])] (SS.mk [(.cells [(.str (ByteArray.mk #[104, 116, 116, 112, 115]) true), (.int .i64 code false), (.int .i64 0 true), (.bool (code == (400 : Int)) false), (.one (.slice none 0 0) rfl)] 5 57 0 0)] [] true w []))
                       (.split (code == (444 : Int))
                        (.leaf .ret [(.tup [(.agg [(.str (ByteArray.mk #[111, 110, 105, 111, 110]) true), (.int .i64 code false), (.int .i64 96 true), (.bool (code == (400 : Int)) false), (.one (.slice none 0 0) rfl)]), (.bool true true)])] (SS.mk [(.cells [(.str (ByteArray.mk #[111, 110, 105, 111, 110]) true), (.int .i64 code false), (.int .i64 96 true), (.bool (code == (400 : Int)) false), (.one (.slice none 0 0) rfl)] 5 57 0 0)] [] true w []))
                        (.split (code == (445 : Int))
                         (.leaf .ret [(.tup [(.agg [(.str (ByteArray.mk #[111, 110, 105, 111, 110, 51]) true), (.int .i64 code false), (.int .i64 296 true), (.bool (code == (400 : Int)) false), (.one (.slice none 0 0) rfl)]), (.bool true true)])] (SS.mk [(.cells [(.str (ByteArray.mk #[111, 110, 105, 111, 110, 51]) true), (.int .i64 code false), (.int .i64 296 true), (.bool (code == (400 : Int)) false), (.one (.slice none 0 0) rfl)] 5 57 0 0)] [] true w []))
                         (.split (code == (446 : Int))
                          (.leaf .ret [(.tup [(.agg [(.str (ByteArray.mk #[103, 97, 114, 108, 105, 99, 54, 52]) true), (.int .i64 code false), (.int .i64 (-1) true), (.bool (code == (400 : Int)) false), (.one (.slice none 0 0) rfl)]), (.bool true true)])] (SS.mk [(.cells [(.str (ByteArray.mk #[103, 97, 114, 108, 105, 99, 54, 52]) true), (.int .i64 code false), (.int .i64 (-1) true), (.bool (code == (400 : Int)) false), (.one (.slice none 0 0) rfl)] 5 57 0 0)] [] true w []))
                          (.split (code == (447 : Int))
                           (.leaf .ret [(.tup [(.agg [(.str (ByteArray.mk #[103, 97, 114, 108, 105, 99, 51, 50]) true), (.int .i64 code false), (.int .i64 (-1) true), (.bool (code == (400 : Int)) false), (.one (.slice none 0 0) rfl)]), (.bool true true)])] (SS.mk [(.cells [(.str (ByteArray.mk #[103, 97, 114, 108, 105, 99, 51, 50]) true), (.int .i64 code false), (.int .i64 (-1) true), (.bool (code == (400 : Int)) false), (.one (.slice none 0 0) rfl)] 5 57 0 0)] [] true w []))
                           (.split (code == (448 : Int))
                            (.leaf .ret [(.tup [(.agg [(.str (ByteArray.mk #[116, 108, 115]) true), (.int .i64 code false), (.int .i64 0 true), (.bool (code == (400 : Int)) false), (.one (.slice none 0 0) rfl)]), (.bool true true)])] (SS.mk [(.cells [(.str (ByteArray.mk #[116, 108, 115]) true), (.int .i64 code false), (.int .i64 0 true), (.bool (code == (400 : Int)) false), (.one (.slice none 0 0) rfl)] 5 57 0 0)] [] true w []))
                            (.split (code == (449 : Int))
                             (.leaf .ret [(.tup [(.agg [(.str (ByteArray.mk #[115, 110, 105]) true), (.int .i64 code false), (.int .i64 (-1) true), (.bool (code == (400 : Int)) false), (.one (.slice none 0 0) rfl)]), (.bool true true)])] (SS.mk [(.cells [(.str (ByteArray.mk #[115, 110, 105]) true), (.int .i64 code false), (.int .i64 (-1) true), (.bool (code == (400 : Int)) false), (.one (.slice none 0 0) rfl)] 5 57 0 0)] [] true w []))
                             (.split (code == (454 : Int))
                              (.leaf .ret [(.tup [(.agg [(.str (ByteArray.mk #[110, 111, 105, 115, 101]) true), (.int .i64 code false), (.int .i64 0 true), (.bool (code == (400 : Int)) false), (.one (.slice none 0 0) rfl)]), (.bool true true)])] (SS.mk [(.cells [(.str (ByteArray.mk #[110, 111, 105, 115, 101]) true), (.int .i64 code false), (.int .i64 0 true), (.bool (code == (400 : Int)) false), (.one (.slice none 0 0) rfl)] 5 57 0 0)] [] true w []))
                              (.split (code == (460 : Int))
                               (.leaf .ret [(.tup [(.agg [(.str (ByteArray.mk #[113, 117, 105, 99]) true), (.int .i64 code false), (.int .i64 0 true), (.bool (code == (400 : Int)) false), (.one (.slice none 0 0) rfl)]), (.bool true true)])] (SS.mk [(.cells [(.str (ByteArray.mk #[113, 117, 105, 99]) true), (.int .i64 code false), (.int .i64 0 true), (.bool (code == (400 : Int)) false), (.one (.slice none 0 0) rfl)] 5 57 0 0)] [] true w []))
                               (.split (code == (461 : Int))
                                (.leaf .ret [(.tup [(.agg [(.str (ByteArray.mk #[113, 117, 105, 99, 45, 118, 49]) true), (.int .i64 code false), (.int .i64 0 true), (.bool (code == (400 : Int)) false), (.one (.slice none 0 0) rfl)]), (.bool true true)])] (SS.mk [(.cells [(.str (ByteArray.mk #[113, 117, 105, 99, 45, 118, 49]) true), (.int .i64 code false), (.int .i64 0 true), (.bool (code == (400 : Int)) false), (.one (.slice none 0 0) rfl)] 5 57 0 0)] [] true w []))
                                (.split (code == (465 : Int))
                                 (.leaf .ret [(.tup [(.agg [(.str (ByteArray.mk #[119, 101, 98, 116, 114, 97, 110, 115, 112, 111, 114, 116]) true), (.int .i64 code false), (.int .i64 0 true), (.bool (code == (400 : Int)) false), (.one (.slice none 0 0) rfl)]), (.bool true true)])] (SS.mk [(.cells [(.str (ByteArray.mk #[119, 101, 98, 116, 114, 97, 110, 115, 112, 111, 114, 116]) true), (.int .i64 code false), (.int .i64 0 true), (.bool (code == (400 : Int)) false), (.one (.slice none 0 0) rfl)] 5 57 0 0)] [] true w []))
                                 (.split (code == (466 : Int))
                                  (.leaf .ret [(.tup [(.agg [(.str (ByteArray.mk #[99, 101, 114, 116, 104, 97, 115, 104]) true), (.int .i64 code false), (.int .i64 (-1) true), (.bool (code == (400 : Int)) false), (.one (.slice none 0 0) rfl)]), (.bool true true)])] (SS.mk [(.cells [(.str (ByteArray.mk #[99, 101, 114, 116, 104, 97, 115, 104]) true), (.int .i64 code false), (.int .i64 (-1) true), (.bool (code == (400 : Int)) false), (.one (.slice none 0 0) rfl)] 5 57 0 0)] [] true w []))
                                  (.split (code == (477 : Int))
                                   (.leaf .ret [(.tup [(.agg [(.str (ByteArray.mk #[119, 115]) true), (.int .i64 code false), (.int .i64 0 true), (.bool (code == (400 : Int)) false), (.one (.slice none 0 0) rfl)]), (.bool true true)])] (SS.mk [(.cells [(.str (ByteArray.mk #[119, 115]) true), (.int .i64 code false), (.int .i64 0 true), (.bool (code == (400 : Int)) false), (.one (.slice none 0 0) rfl)] 5 57 0 0)] [] true w []))
                                   (.split (code == (478 : Int))
                                    (.leaf .ret [(.tup [(.agg [(.str (ByteArray.mk #[119, 115, 115]) true), (.int .i64 code false), (.int .i64 0 true), (.bool (code == (400 : Int)) false), (.one (.slice none 0 0) rfl)]), (.bool true true)])] (SS.mk [(.cells [(.str (ByteArray.mk #[119, 115, 115]) true), (.int .i64 code false), (.int .i64 0 true), (.bool (code == (400 : Int)) false), (.one (.slice none 0 0) rfl)] 5 57 0 0)] [] true w []))
                                    (.split (code == (480 : Int))
                                     (.leaf .ret [(.tup [(.agg [(.str (ByteArray.mk #[104, 116, 116, 112]) true), (.int .i64 code false), (.int .i64 0 true), (.bool (code == (400 : Int)) false), (.one (.slice none 0 0) rfl)]), (.bool true true)])] (SS.mk [(.cells [(.str (ByteArray.mk #[104, 116, 116, 112]) true), (.int .i64 code false), (.int .i64 0 true), (.bool (code == (400 : Int)) false), (.one (.slice none 0 0) rfl)] 5 57 0 0)] [] true w []))
                                     (.split (code == (481 : Int))
                                      (.leaf .ret [(.tup [(.agg [(.str (ByteArray.mk #[104, 116, 116, 112, 45, 112, 97, 116, 104]) true), (.int .i64 code false), (.int .i64 (-1) true), (.bool (code == (400 : Int)) false), (.one (.slice none 0 0) rfl)]), (.bool true true)])] (SS.mk [(.cells [(.str (ByteArray.mk #[104, 116, 116, 112, 45, 112, 97, 116, 104]) true), (.int .i64 code false), (.int .i64 (-1) true), (.bool (code == (400 : Int)) false), (.one (.slice none 0 0) rfl)] 5 57 0 0)] [] true w []))
                                      (.split (code == (777 : Int))
                                       (.leaf .ret [(.tup [(.agg [(.str (ByteArray.mk #[109, 101, 109, 111, 114, 121]) true), (.int .i64 code false), (.int .i64 64 true), (.bool (code == (400 : Int)) false), (.one (.slice none 0 0) rfl)]), (.bool true true)])] (SS.mk [(.cells [(.str (ByteArray.mk #[109, 101, 109, 111, 114, 121]) true), (.int .i64 code false), (.int .i64 64 true), (.bool (code == (400 : Int)) false), (.one (.slice none 0 0) rfl)] 5 57 0 0)] [] true w []))
                                       (.split (code == (7367777 : Int))
                                        (.leaf .ret [(.tup [(.agg [(.str (ByteArray.mk #[112, 108, 97, 105, 110, 116, 101, 120, 116, 118, 50]) true), (.int .i64 code false), (.int .i64 0 true), (.bool (code == (400 : Int)) false), (.one (.slice none 0 0) rfl)]), (.bool true true)])] (SS.mk [(.cells [(.str (ByteArray.mk #[112, 108, 97, 105, 110, 116, 101, 120, 116, 118, 50]) true), (.int .i64 code false), (.int .i64 0 true), (.bool (code == (400 : Int)) false), (.one (.slice none 0 0) rfl)] 5 57 0 0)] [] true w []))
                                        (.leaf .ret [(.tup [(.agg [(.str (ByteArray.mk #[]) true), (.int .i64 0 true), (.int .i64 0 true), (.bool false true), (.one (.slice none 0 0) rfl)]), (.bool false true)])] (SS.mk [(.cells [(.str (ByteArray.mk #[]) true), (.int .i64 0 true), (.int .i64 0 true), (.bool false true), (.one (.slice none 0 0) rfl)] 5 57 0 0)] [] true w [])))))))))))))))))))))))))))))))))))))))) := by kernel_rfl
set_option maxRecDepth 100000 in
theorem t16 (code : Int) (A : Option Addr) (n c : Nat) (w : World) : xFunc Tryz.prog hk16 1000 16 [.agg [.int .i64 code false, .xs A n c]] (SS.at w) =
  (.call 28 [(.int .i64 code false)] (SS.mk [(.cells [(.int .i64 code false), (.xs A n c)] 2 35 0 0)] [] true w []) (Hook.X (protoHook)) (Hook.out (protoHook) [(.int .i64 code false)] (SS.mk [(.cells [(.int .i64 code false), (.xs A n c)] 2 35 0 0)] [] true w [])) fun x0 w0 b0 =>
  (.split (!x0.ok)
   (.leaf .ret [(.bool false true)] (SS.mk [(.cells [(.int .i64 code false), (.xs A n c)] 2 35 0 0), (.cells [(.str x0.name false), (.int .i64 x0.cd false), (.int .i64 x0.size false), (.bool x0.path false), (.one (.slice none 0 0) rfl)] 5 57 0 0)] [] true w0 b0))
   (.split (decide (x0.size ≥ (0 : Int)))
    (.split ((↑n : Int) == IntKind.i64.wrap (x0.size.tdiv (8 : Int)))
     (.split (code != (444 : Int))
      (.leaf .ret [(.bool (code != (445 : Int)) false)] (SS.mk [(.cells [(.int .i64 code false), (.xs A n c)] 2 35 0 0), (.cells [(.str x0.name false), (.int .i64 x0.cd false), (.int .i64 x0.size false), (.bool x0.path false), (.one (.slice none 0 0) rfl)] 5 57 0 0)] [] true w0 b0))
      (.leaf .ret [(.bool false true)] (SS.mk [(.cells [(.int .i64 code false), (.xs A n c)] 2 35 0 0), (.cells [(.str x0.name false), (.int .i64 x0.cd false), (.int .i64 x0.size false), (.bool x0.path false), (.one (.slice none 0 0) rfl)] 5 57 0 0)] [] true w0 b0)))
     (.leaf .ret [(.bool false true)] (SS.mk [(.cells [(.int .i64 code false), (.xs A n c)] 2 35 0 0), (.cells [(.str x0.name false), (.int .i64 x0.cd false), (.int .i64 x0.size false), (.bool x0.path false), (.one (.slice none 0 0) rfl)] 5 57 0 0)] [] true w0 b0)))
    (.split (code == (400 : Int))
     (.need (canBytes w0 b0 A n)
     (.call 29 [(.str (bytesAt w0 A n) false)] (SS.mk [(.cells [(.int .i64 code false), (.xs A n c)] 2 35 0 0), (.cells [(.str x0.name false), (.int .i64 x0.cd false), (.int .i64 x0.size false), (.bool x0.path false), (.one (.slice none 0 0) rfl)] 5 57 0 0)] [] true w0 b0) (Hook.X (boolHook)) (Hook.out (boolHook) [(.str (bytesAt w0 A n) false)] (SS.mk [(.cells [(.int .i64 code false), (.xs A n c)] 2 35 0 0), (.cells [(.str x0.name false), (.int .i64 x0.cd false), (.int .i64 x0.size false), (.bool x0.path false), (.one (.slice none 0 0) rfl)] 5 57 0 0)] [] true w0 b0)) fun x1 w1 b1 =>
     (.leaf .ret [(.bool x1 false)] (SS.mk [(.cells [(.int .i64 code false), (.xs A n c)] 2 35 0 0), (.cells [(.str x0.name false), (.int .i64 x0.cd false), (.int .i64 x0.size false), (.bool x0.path false), (.one (.slice none 0 0) rfl)] 5 57 0 0)] [] true w1 b1))))
     (.split (code == (42 : Int))
      (.need (canBytes w0 b0 A n)
      (.call 30 [(.str (bytesAt w0 A n) false)] (SS.mk [(.cells [(.int .i64 code false), (.xs A n c)] 2 35 0 0), (.cells [(.str x0.name false), (.int .i64 x0.cd false), (.int .i64 x0.size false), (.bool x0.path false), (.one (.slice none 0 0) rfl)] 5 57 0 0)] [] true w0 b0) (Hook.X (boolHook)) (Hook.out (boolHook) [(.str (bytesAt w0 A n) false)] (SS.mk [(.cells [(.int .i64 code false), (.xs A n c)] 2 35 0 0), (.cells [(.str x0.name false), (.int .i64 x0.cd false), (.int .i64 x0.size false), (.bool x0.path false), (.one (.slice none 0 0) rfl)] 5 57 0 0)] [] true w0 b0)) fun x1 w1 b1 =>
      (.leaf .ret [(.bool x1 false)] (SS.mk [(.cells [(.int .i64 code false), (.xs A n c)] 2 35 0 0), (.cells [(.str x0.name false), (.int .i64 x0.cd false), (.int .i64 x0.size false), (.bool x0.path false), (.one (.slice none 0 0) rfl)] 5 57 0 0)] [] true w1 b1))))
      (.split (decide (code ≥ (53 : Int)))
       (.split (decide (code ≤ (56 : Int)))
        (.need (canBytes w0 b0 A n)
        (.call 30 [(.str (bytesAt w0 A n) false)] (SS.mk [(.cells [(.int .i64 code false), (.xs A n c)] 2 35 0 0), (.cells [(.str x0.name false), (.int .i64 x0.cd false), (.int .i64 x0.size false), (.bool x0.path false), (.one (.slice none 0 0) rfl)] 5 57 0 0)] [] true w0 b0) (Hook.X (boolHook)) (Hook.out (boolHook) [(.str (bytesAt w0 A n) false)] (SS.mk [(.cells [(.int .i64 code false), (.xs A n c)] 2 35 0 0), (.cells [(.str x0.name false), (.int .i64 x0.cd false), (.int .i64 x0.size false), (.bool x0.path false), (.one (.slice none 0 0) rfl)] 5 57 0 0)] [] true w0 b0)) fun x1 w1 b1 =>
        (.leaf .ret [(.bool x1 false)] (SS.mk [(.cells [(.int .i64 code false), (.xs A n c)] 2 35 0 0), (.cells [(.str x0.name false), (.int .i64 x0.cd false), (.int .i64 x0.size false), (.bool x0.path false), (.one (.slice none 0 0) rfl)] 5 57 0 0)] [] true w1 b1))))
        (.split (code == (449 : Int))
         (.need (canBytes w0 b0 A n)
         (.call 30 [(.str (bytesAt w0 A n) false)] (SS.mk [(.cells [(.int .i64 code false), (.xs A n c)] 2 35 0 0), (.cells [(.str x0.name false), (.int .i64 x0.cd false), (.int .i64 x0.size false), (.bool x0.path false), (.one (.slice none 0 0) rfl)] 5 57 0 0)] [] true w0 b0) (Hook.X (boolHook)) (Hook.out (boolHook) [(.str (bytesAt w0 A n) false)] (SS.mk [(.cells [(.int .i64 code false), (.xs A n c)] 2 35 0 0), (.cells [(.str x0.name false), (.int .i64 x0.cd false), (.int .i64 x0.size false), (.bool x0.path false), (.one (.slice none 0 0) rfl)] 5 57 0 0)] [] true w0 b0)) fun x1 w1 b1 =>
         (.leaf .ret [(.bool x1 false)] (SS.mk [(.cells [(.int .i64 code false), (.xs A n c)] 2 35 0 0), (.cells [(.str x0.name false), (.int .i64 x0.cd false), (.int .i64 x0.size false), (.bool x0.path false), (.one (.slice none 0 0) rfl)] 5 57 0 0)] [] true w1 b1))))
         (.leaf .ret [(.bool false true)] (SS.mk [(.cells [(.int .i64 code false), (.xs A n c)] 2 35 0 0), (.cells [(.str x0.name false), (.int .i64 x0.cd false), (.int .i64 x0.size false), (.bool x0.path false), (.one (.slice none 0 0) rfl)] 5 57 0 0)] [] true w0 b0))))
       (.split (code == (449 : Int))
        (.need (canBytes w0 b0 A n)
        (.call 30 [(.str (bytesAt w0 A n) false)] (SS.mk [(.cells [(.int .i64 code false), (.xs A n c)] 2 35 0 0), (.cells [(.str x0.name false), (.int .i64 x0.cd false), (.int .i64 x0.size false), (.bool x0.path false), (.one (.slice none 0 0) rfl)] 5 57 0 0)] [] true w0 b0) (Hook.X (boolHook)) (Hook.out (boolHook) [(.str (bytesAt w0 A n) false)] (SS.mk [(.cells [(.int .i64 code false), (.xs A n c)] 2 35 0 0), (.cells [(.str x0.name false), (.int .i64 x0.cd false), (.int .i64 x0.size false), (.bool x0.path false), (.one (.slice none 0 0) rfl)] 5 57 0 0)] [] true w0 b0)) fun x1 w1 b1 =>
        (.leaf .ret [(.bool x1 false)] (SS.mk [(.cells [(.int .i64 code false), (.xs A n c)] 2 35 0 0), (.cells [(.str x0.name false), (.int .i64 x0.cd false), (.int .i64 x0.size false), (.bool x0.path false), (.one (.slice none 0 0) rfl)] 5 57 0 0)] [] true w1 b1))))
        (.leaf .ret [(.bool false true)] (SS.mk [(.cells [(.int .i64 code false), (.xs A n c)] 2 35 0 0), (.cells [(.str x0.name false), (.int .i64 x0.cd false), (.int .i64 x0.size false), (.bool x0.path false), (.one (.slice none 0 0) rfl)] 5 57 0 0)] [] true w0 b0))))))))) := by kernel_rfl
def L29 : SE → List Nat
  | .normal => [0]
  | .ret => [2]
  | _ => []
def L29i (s : ByteArray) : SE → List Nat
  | .normal => [0, 3]
  | .ret => []
  | _ => [0, 3]
def lh29 : LoopHook := mkHook 32 Bool .ret [2] (fun b => [.bool b false]) Unit (.exit 0) [] (fun _ => [])
def lh29i (s : ByteArray) : LoopHook := mkHook 32 Nat (.exit 2) [0, 3] (fun n => [.str s false, .int .i64 n false]) Unit .ret [] (fun _ => [])
def hk29 : Hooks := { calls := fun f => none, loops := fun f k => if k = 2 then some lh29 else none }
def hk29i (s : ByteArray) : Hooks := { calls := fun f => if f = 30 then some boolHook else none, loops := fun f k => some (lh29i s) }
set_option maxRecDepth 100000 in
theorem t29 (s : ByteArray) (w : World) : xFunc Tryz.prog hk29 1000 29 [.str s false] (SS.at w) =
  (.loop 29 (loopOf Tryz.prog 29 2) ([(.str s false), (.tup []), (.bool false true)] ++ List.replicate 29 undefS) (SS.mk [] [] true w []) (LoopHook.X (lh29)) (LoopHook.out (lh29) ([(.str s false), (.tup []), (.bool false true)] ++ List.replicate 29 undefS) (SS.mk [] [] true w [])) (fun x0 w0 b0 =>
   (.leaf .ret [(.bool x0.fst false)] (SS.mk [] [] true w0 b0)))
  (LoopHook.Y (lh29)) (LoopHook.out' (lh29) ([(.str s false), (.tup []), (.bool false true)] ++ List.replicate 29 undefS) (SS.mk [] [] true w [])) (fun x0 w0 b0 =>
   (.leaf .ret [(.bool false true)] (SS.mk [] [] true w0 b0)))) := by kernel_rfl
set_option maxRecDepth 100000 in
theorem r29 (s : ByteArray) (w : World) (g : Nat → Value) : xCode Tryz.prog (hk29i s) 1000 29 (loopOf Tryz.prog 29 2) (mkFrame ((L29 .normal).zip [.str s false]) g 32 0) (fun e a s => .leaf e (sel L29 e a) s) (SS.at w) =
  (.split (decide ((↑s.size : Int) > (0 : Int)))
   (.need ((0 : Int) ≤ (0 : Int) ∧ (0 : Int) < (↑s.size : Int))
   (.split ((↑(s.data.toList.getD (0 : Nat) (0 : UInt8)).toNat : Int) != (47 : Int))
    (.leaf .ret [(.bool false true)] (SS.mk [] [] true w []))
    (.loop 29 (loopOf Tryz.prog 29 6) [(.str s false), (.raw (g (1 : Nat))), (.raw (g (2 : Nat))), (.int .i64 1 true), (.str s false), (.int .i64 ((↑s.size : Int)) false), (.bool true true), (.str s false), (.int .u8 ((↑(s.data.toList.getD (0 : Nat) (0 : UInt8)).toNat : Int)) false), (.bool false true), (.raw (g (10 : Nat))), (.raw (g (11 : Nat))), (.raw (g (12 : Nat))), (.raw (g (13 : Nat))), (.raw (g (14 : Nat))), (.raw (g (15 : Nat))), (.raw (g (16 : Nat))), (.raw (g (17 : Nat))), (.raw (g (18 : Nat))), (.raw (g (19 : Nat))), (.raw (g (20 : Nat))), (.raw (g (21 : Nat))), (.raw (g (22 : Nat))), (.raw (g (23 : Nat))), (.raw (g (24 : Nat))), (.raw (g (25 : Nat))), (.raw (g (26 : Nat))), (.raw (g (27 : Nat))), (.raw (g (28 : Nat))), (.raw (g (29 : Nat))), (.raw (g (30 : Nat))), (.raw (g (31 : Nat)))] (SS.mk [] [] true w []) (LoopHook.X (lh29i s)) (LoopHook.out (lh29i s) [(.str s false), (.raw (g (1 : Nat))), (.raw (g (2 : Nat))), (.int .i64 1 true), (.str s false), (.int .i64 ((↑s.size : Int)) false), (.bool true true), (.str s false), (.int .u8 ((↑(s.data.toList.getD (0 : Nat) (0 : UInt8)).toNat : Int)) false), (.bool false true), (.raw (g (10 : Nat))), (.raw (g (11 : Nat))), (.raw (g (12 : Nat))), (.raw (g (13 : Nat))), (.raw (g (14 : Nat))), (.raw (g (15 : Nat))), (.raw (g (16 : Nat))), (.raw (g (17 : Nat))), (.raw (g (18 : Nat))), (.raw (g (19 : Nat))), (.raw (g (20 : Nat))), (.raw (g (21 : Nat))), (.raw (g (22 : Nat))), (.raw (g (23 : Nat))), (.raw (g (24 : Nat))), (.raw (g (25 : Nat))), (.raw (g (26 : Nat))), (.raw (g (27 : Nat))), (.raw (g (28 : Nat))), (.raw (g (29 : Nat))), (.raw (g (30 : Nat))), (.raw (g (31 : Nat)))] (SS.mk [] [] true w [])) (fun x0 w0 b0 =>
     (.need ((0 : Int) ≤ (↑x0.fst : Int) ∧ (↑x0.fst : Int) ≤ (↑s.size : Int))
     (.need ((0 : Int) ≤ (1 : Int) ∧ (1 : Int) ≤ (↑(↑x0.fst : Int).toNat : Int))
     (.call 30 [(.str (s.extract (1 : Nat) (↑x0.fst : Int).toNat) false)] (SS.mk [] [] true w0 b0) (Hook.X (boolHook)) (Hook.out (boolHook) [(.str (s.extract (1 : Nat) (↑x0.fst : Int).toNat) false)] (SS.mk [] [] true w0 b0)) fun x1 w1 b1 =>
     (.split (!x1)
      (.leaf .ret [(.bool false true)] (SS.mk [] [] true w1 b1))
      (.need ((0 : Int) ≤ (↑x0.fst : Int) ∧ (↑x0.fst : Int) ≤ (↑s.size : Int))
      (.split ((s.extract (↑x0.fst : Int).toNat s.size).toList == (ByteArray.mk #[]).toList)
       (.leaf .ret [(.bool true true)] (SS.mk [] [] true w1 b1))
       (.leaf .normal [(.str (s.extract (↑x0.fst : Int).toNat s.size) false)] (SS.mk [] [] true w1 b1)))))))))
    (LoopHook.Y (lh29i s)) (LoopHook.out' (lh29i s) [(.str s false), (.raw (g (1 : Nat))), (.raw (g (2 : Nat))), (.int .i64 1 true), (.str s false), (.int .i64 ((↑s.size : Int)) false), (.bool true true), (.str s false), (.int .u8 ((↑(s.data.toList.getD (0 : Nat) (0 : UInt8)).toNat : Int)) false), (.bool false true), (.raw (g (10 : Nat))), (.raw (g (11 : Nat))), (.raw (g (12 : Nat))), (.raw (g (13 : Nat))), (.raw (g (14 : Nat))), (.raw (g (15 : Nat))), (.raw (g (16 : Nat))), (.raw (g (17 : Nat))), (.raw (g (18 : Nat))), (.raw (g (19 : Nat))), (.raw (g (20 : Nat))), (.raw (g (21 : Nat))), (.raw (g (22 : Nat))), (.raw (g (23 : Nat))), (.raw (g (24 : Nat))), (.raw (g (25 : Nat))), (.raw (g (26 : Nat))), (.raw (g (27 : Nat))), (.raw (g (28 : Nat))), (.raw (g (29 : Nat))), (.raw (g (30 : Nat))), (.raw (g (31 : Nat)))] (SS.mk [] [] true w [])) (fun x0 w0 b0 =>
     (.leaf .ret [(.raw (x0.snd (2 : Nat)))] (SS.mk [] [] true w0 b0))))))
   (.leaf (.exit 0) [] (SS.mk [] [] true w []))) := by kernel_rfl

set_option maxRecDepth 100000 in
theorem r29i (s : ByteArray) (n : Nat) (w : World) (g : Nat → Value) : xCode Tryz.prog noHk 1000 29 (loopOf Tryz.prog 29 6) (mkFrame ((L29i s .normal).zip [.str s false, .int .i64 n false]) g 32 0) (fun e a t => .leaf e (sel (L29i s) e a) t) (SS.at w) =
  (.split (decide ((↑n : Int) < (↑s.size : Int)))
   (.need ((0 : Int) ≤ (↑n : Int) ∧ (↑n : Int) < (↑s.size : Int))
   (.split ((↑(s.data.toList.getD (↑n : Int).toNat (0 : UInt8)).toNat : Int) != (47 : Int))
    (.leaf .normal [(.str s false), (.int .i64 (IntKind.i64.wrap ((↑n : Int) + (1 : Int))) false)] (SS.mk [] [] true w []))
    (.leaf (.exit 2) [(.str s false), (.int .i64 ((↑n : Int)) false)] (SS.mk [] [] true w []))))
   (.leaf (.exit 2) [(.str s false), (.int .i64 ((↑n : Int)) false)] (SS.mk [] [] true w []))) := by kernel_rfl


/-- The codes of the table. -/
def table : List Int := [4, 6, 33, 41, 42, 43, 53, 54, 55, 56, 132, 273, 276, 280, 281, 290, 301, 302, 400, 421, 443, 444, 445, 446, 447, 448, 449, 454, 460, 461, 465, 466, 477, 478, 480, 481, 777, 7367777]

def ProtoQ (code : Int) (v : Value) (_ : World) : Prop :=
  ∃ x : PX, v = .tuple #[.agg #[.string x.name, .int .i64 x.cd, .int .i64 x.size, .bool x.path, .slice none 0 0], .bool x.ok] ∧ (x.ok = true → code ∈ table)

theorem maProtocol_c (code : Int) (w : World) : Calls Tryz.prog 28 #[.int .i64 code] w (Ret (ProtoQ code) w) := by
  refine funF (hk := noHk) (n := 1000) (args := [.int .i64 code false]) ⟨trivial, trivial⟩ ?_
  rw [t28]
  have leaf : ∀ (b : Bool) (nm : ByteArray) (cd sz : Int) (l1 l2 l3 l4 l5 : Bool) (pth : Bool) (objs : List SObj), (b = true → code ∈ table) →
      (T.leaf .ret [(.tup [(.agg [(.str nm l1), (.int .i64 cd l2), (.int .i64 sz l3), (.bool pth l4), (.one (.slice none 0 0) rfl)]), (.bool b l5)])] (SS.mk objs [] true w [])).holds (ctx Tryz.prog (retQ fun v w' => ProtoQ code v w' ∧ Below w.heap.size w w')) :=
    fun b nm cd sz _ _ _ _ _ pth objs h => retF (Fine.start _ _) fun β w' _ _ => ⟨⟨nm, cd, sz, pth, b⟩, rfl, h⟩
  repeat' (refine splitT (fun _ => ?_) (fun _ => ?_))
  all_goals first
    | exact leaf false _ _ _ _ _ _ _ _ _ _ (fun h => Bool.noConfusion h)
    | (refine leaf true _ _ _ _ _ _ _ _ _ _ (fun _ => ?_); rename_i hc _; rw [eq_of_beq hc]; decide)

theorem protoCall {Q : SE → List Value → World → Prop} {s : SS} {w : World} {code : Int} {a0 : List SV} {s0 : SS} {k : PX → World → List Nat → T} (hf : Fine w s) (hs0 : s0.objs = s.objs)
    (hk : ∀ x w' bs, Below w.heap.size w w' → (∀ b ∈ bs, w.heap.size ≤ b) → (x.ok = true → code ∈ table) → (k x w' bs).holds (ctx Tryz.prog Q)) :
    (T.call 28 [.int .i64 code false] s (Hook.X protoHook) (Hook.out protoHook a0 s0) k).holds (ctx Tryz.prog Q) := by
  refine callF (Γ := ctx Tryz.prog Q) (R := fun x _ _ => x.ok = true → code ∈ table) hf (fun x => ⟨hs0, ⟨trivial, trivial, trivial, trivial, trivial, trivial⟩, trivial, trivial⟩) (fun β w0 hst ho hb => ?_) (fun x w0 w' bs _ hr _ hb hbs => hk x w' bs hb hbs hr)
  refine (maProtocol_c code w0).mono ?_
  rintro e w' ⟨v, rfl, ⟨x, rfl, hx⟩, hb'⟩
  exact ⟨x, rfl, hb', hx⟩

/-! ### A path -/

theorem maPath_c (s : ByteArray) (w : World) (hs : (s.size : Int) < 2 ^ 62) : Calls Tryz.prog 29 #[.string s] w (Ret SomeBool w) := by
  refine funF (hk := hk29) (n := 1000) (args := [.str s false]) ⟨trivial, trivial⟩ ?_
  rw [t29]
  refine loopG (Fine.start _ _) L29 (α := ByteArray) (fun s => [.str s false]) (fun s => s.size) (fun _ u _ => u.size ≤ s.size)
    (fun _ e lv _ => (e = .ret ∧ ∃ b, lv = [.bool b]) ∨ (e = .exit 0 ∧ lv = [])) (fun u => hk29i u) 1000 (by simp) (by simp [L29]) (by simp [L29]) (fun _ => ⟨trivial, trivial⟩) rfl rfl rfl
    (by simp) (by simp) (fun _ => ⟨trivial, trivial⟩) (fun _ => trivial) ?_ ?_ ?_
  · intro w0 u w1 g hbw0 hu hb0 hbw
    refine holds_eq (r29 u w1 g) ?_
    refine splitT (fun hpos => ?_) (fun _ => exitF (Fine.nil hb0) (by simp) fun β w' _ _ => .inr ⟨rfl, rfl⟩)
    have hpos' : 0 < u.size := by simpa using hpos
    have hu' : (u.size : Int) < 2 ^ 62 := by omega
    refine needT (by omega) ?_
    refine splitT (fun _ => exitF (Fine.nil hb0) (by simp) fun β w' _ _ => .inl ⟨rfl, _, rfl⟩) (fun _ => ?_)
    refine loopG (w := w0) (Fine.nil hb0) (L29i u) (α := Nat) (fun n => [.str u false, .int .i64 n false]) (fun n => u.size - n) (fun _ n _ => 1 ≤ n ∧ n ≤ u.size)
      (fun _ e lv _ => e = .exit 2 ∧ ∃ n : Nat, 1 ≤ n ∧ n ≤ u.size ∧ lv = [.string u, .int .i64 n]) (fun _ => noHk) 1000 (by simp) (by simp [L29i]) (by simp [L29i]) (fun _ => ⟨trivial, trivial, trivial⟩) rfl rfl rfl
      (by simp) (by simp) (fun _ => ⟨trivial, trivial, trivial⟩) (fun _ => trivial) ?_ ?_ ?_
    · rintro w2 n w3 g2 _ ⟨hn1, hn2⟩ hb3 _
      refine holds_eq (r29i u n w3 g2) ?_
      refine splitT (fun hlt => ?_) (fun _ => exitF (Fine.nil hb3) (by simp) fun β w' _ _ => ⟨rfl, n, hn1, hn2, rfl⟩)
      have hlt' : n < u.size := by simpa using hlt
      refine needT (by omega) ?_
      refine splitT (fun _ => nextF (Fine.nil hb3) fun β w' _ _ => ⟨n + 1, by omega, ?_, by omega, by omega⟩) (fun _ => exitF (Fine.nil hb3) (by simp) fun β w' _ _ => ⟨rfl, n, hn1, hn2, rfl⟩)
      rw [next_i hlt' (by omega)]
      rfl
    · intro β w2 hst hb
      exact ⟨1, rfl, Nat.le_refl _, hpos'⟩
    · rintro β w2 hst hb e lv w3 ⟨rfl, n, hn1, hn2, rfl⟩ hb23 hb03
      refine .inl ⟨n, rfl, rfl, fun g2 bs hbs => ?_⟩
      refine needT (by omega) (needT (by omega) ?_)
      have hf3 : Fine w0 (SS.mk [] [] true w3 bs) := Fine.mk' hb03 hbs
      refine boolCall hf3 rfl (fun β w4 _ _ _ => maPlain_c _ _ (by rw [ByteArray.size_extract]; omega)) (fun b w4 bs4 hb4 hbs4 => ?_)
      have hf4 : Fine w0 (SS.mk [] [] true w4 bs4) := Fine.mk' hb4 hbs4
      refine splitT (fun _ => exitF hf4 (by simp) fun β w' _ _ => .inl ⟨rfl, _, rfl⟩) (fun _ => needT (by omega) ?_)
      refine splitT (fun _ => exitF hf4 (by simp) fun β w' _ _ => .inl ⟨rfl, _, rfl⟩) (fun _ => nextF hf4 fun β w' _ _ => ⟨_, ?_, rfl, ?_⟩)
      · rw [ByteArray.size_extract]
        show min u.size u.size - n < u.size
        omega
      · rw [ByteArray.size_extract]
        show min u.size u.size - n ≤ s.size
        omega
  · intro β w0 hst hb
    exact ⟨s, rfl, Nat.le_refl _⟩
  · rintro β w0 hst hb e lv w' (⟨rfl, b, rfl⟩ | ⟨rfl, rfl⟩) hb0 hb1
    · exact .inl ⟨b, rfl, rfl, fun g bs hbs => retF (Fine.mk' hb1 hbs) fun β w' _ _ => ⟨_, rfl⟩⟩
    · exact .inr ⟨(), rfl, rfl, fun g bs hbs => retF (Fine.mk' hb1 hbs) fun β w' _ _ => ⟨_, rfl⟩⟩

end Go.Proofs.YtdmnoagahjbjhaaGreatDoor
