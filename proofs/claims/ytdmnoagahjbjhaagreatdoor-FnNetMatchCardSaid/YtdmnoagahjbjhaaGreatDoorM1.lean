/- A plain name: MaPlain answers. -/
import Derived.Test.YtdmnoagahjbjhaaGreatDoorM0
import Derived.Test.YtdmnoagahjbjhaaGreatDoorProg
import Derived.KernelRfl
set_option linter.unusedVariables false
set_option maxRecDepth 20000
namespace Go.Proofs.YtdmnoagahjbjhaaGreatDoor
open Go Go.Rx Go.RowKit

def noHk : Hooks := { calls := fun _ => none, loops := fun _ _ => none }
def L30 : SE → List Nat
  | .normal => [0, 3]
  | .ret => [2]
  | _ => [0]
def lh30 (s : ByteArray) : LoopHook := mkHook 56 Unit .ret [2] (fun _ => [.bool false true]) Unit (.exit 0) [0] (fun _ => [.str s false])
def hk30 (s : ByteArray) : Hooks := { calls := fun _ => none, loops := fun f k => if f = 30 ∧ k = 3 then some (lh30 s) else none }
set_option maxRecDepth 100000 in
theorem t30 (s : ByteArray) (w : World) : xFunc Tryz.prog (hk30 s) 1000 30 [.str s false] (SS.at w) =
  (.loop 30 (loopOf Tryz.prog 30 3) ([(.str s false), (.tup []), (.bool false true), (.int .i64 0 true)] ++ List.replicate 52 undefS) (SS.mk [] [] true w []) (LoopHook.X (lh30 s)) (LoopHook.out (lh30 s) ([(.str s false), (.tup []), (.bool false true), (.int .i64 0 true)] ++ List.replicate 52 undefS) (SS.mk [] [] true w [])) (fun x0 w0 b0 =>
   (.leaf .ret [(.bool false true)] (SS.mk [] [] true w0 b0)))
  (LoopHook.Y (lh30 s)) (LoopHook.out' (lh30 s) ([(.str s false), (.tup []), (.bool false true), (.int .i64 0 true)] ++ List.replicate 52 undefS) (SS.mk [] [] true w [])) (fun x0 w0 b0 =>
   (.split (decide ((↑s.size : Int) ≥ (1 : Int)))
    (.leaf .ret [(.bool (decide ((↑s.size : Int) ≤ (60 : Int))) false)] (SS.mk [] [] true w0 b0))
    (.leaf .ret [(.bool false true)] (SS.mk [] [] true w0 b0))))) := by kernel_rfl
set_option maxRecDepth 100000 in
theorem t30r (s : ByteArray) (w : World) (i : Nat) (g : Nat → Value) : xCode Tryz.prog noHk 1000 30 (loopOf Tryz.prog 30 3) (mkFrame ((L30 .normal).zip [.str s false, .int .i64 i false]) g 56 0) (fun e a s => .leaf e (sel L30 e a) s) (SS.at w) =
  (.split (decide ((↑i : Int) < (↑s.size : Int)))
   (.need ((0 : Int) ≤ (↑i : Int) ∧ (↑i : Int) < (↑s.size : Int))
   (.split (decide ((↑(s.data.toList.getD (↑i : Int).toNat (0 : UInt8)).toNat : Int) < (97 : Int)))
    (.split (decide ((↑(s.data.toList.getD (↑i : Int).toNat (0 : UInt8)).toNat : Int) < (65 : Int)))
     (.split (decide ((↑(s.data.toList.getD (↑i : Int).toNat (0 : UInt8)).toNat : Int) < (48 : Int)))
      (.split ((↑(s.data.toList.getD (↑i : Int).toNat (0 : UInt8)).toNat : Int) != (46 : Int))
       (.split ((↑(s.data.toList.getD (↑i : Int).toNat (0 : UInt8)).toNat : Int) != (45 : Int))
        (.split ((↑(s.data.toList.getD (↑i : Int).toNat (0 : UInt8)).toNat : Int) != (95 : Int))
         (.leaf .ret [(.bool false true)] (SS.mk [] [] true w []))
         (.leaf .normal [(.str s false), (.int .i64 (IntKind.i64.wrap ((↑i : Int) + (1 : Int))) false)] (SS.mk [] [] true w [])))
        (.leaf .normal [(.str s false), (.int .i64 (IntKind.i64.wrap ((↑i : Int) + (1 : Int))) false)] (SS.mk [] [] true w [])))
       (.leaf .normal [(.str s false), (.int .i64 (IntKind.i64.wrap ((↑i : Int) + (1 : Int))) false)] (SS.mk [] [] true w [])))
      (.split (decide ((↑(s.data.toList.getD (↑i : Int).toNat (0 : UInt8)).toNat : Int) > (57 : Int)))
       (.split ((↑(s.data.toList.getD (↑i : Int).toNat (0 : UInt8)).toNat : Int) != (46 : Int))
        (.split ((↑(s.data.toList.getD (↑i : Int).toNat (0 : UInt8)).toNat : Int) != (45 : Int))
         (.split ((↑(s.data.toList.getD (↑i : Int).toNat (0 : UInt8)).toNat : Int) != (95 : Int))
          (.leaf .ret [(.bool false true)] (SS.mk [] [] true w []))
          (.leaf .normal [(.str s false), (.int .i64 (IntKind.i64.wrap ((↑i : Int) + (1 : Int))) false)] (SS.mk [] [] true w [])))
         (.leaf .normal [(.str s false), (.int .i64 (IntKind.i64.wrap ((↑i : Int) + (1 : Int))) false)] (SS.mk [] [] true w [])))
        (.leaf .normal [(.str s false), (.int .i64 (IntKind.i64.wrap ((↑i : Int) + (1 : Int))) false)] (SS.mk [] [] true w [])))
       (.leaf .normal [(.str s false), (.int .i64 (IntKind.i64.wrap ((↑i : Int) + (1 : Int))) false)] (SS.mk [] [] true w []))))
     (.split (decide ((↑(s.data.toList.getD (↑i : Int).toNat (0 : UInt8)).toNat : Int) > (90 : Int)))
      (.split (decide ((↑(s.data.toList.getD (↑i : Int).toNat (0 : UInt8)).toNat : Int) < (48 : Int)))
       (.split ((↑(s.data.toList.getD (↑i : Int).toNat (0 : UInt8)).toNat : Int) != (46 : Int))
        (.split ((↑(s.data.toList.getD (↑i : Int).toNat (0 : UInt8)).toNat : Int) != (45 : Int))
         (.split ((↑(s.data.toList.getD (↑i : Int).toNat (0 : UInt8)).toNat : Int) != (95 : Int))
          (.leaf .ret [(.bool false true)] (SS.mk [] [] true w []))
          (.leaf .normal [(.str s false), (.int .i64 (IntKind.i64.wrap ((↑i : Int) + (1 : Int))) false)] (SS.mk [] [] true w [])))
         (.leaf .normal [(.str s false), (.int .i64 (IntKind.i64.wrap ((↑i : Int) + (1 : Int))) false)] (SS.mk [] [] true w [])))
        (.leaf .normal [(.str s false), (.int .i64 (IntKind.i64.wrap ((↑i : Int) + (1 : Int))) false)] (SS.mk [] [] true w [])))
       (.split (decide ((↑(s.data.toList.getD (↑i : Int).toNat (0 : UInt8)).toNat : Int) > (57 : Int)))
        (.split ((↑(s.data.toList.getD (↑i : Int).toNat (0 : UInt8)).toNat : Int) != (46 : Int))
         (.split ((↑(s.data.toList.getD (↑i : Int).toNat (0 : UInt8)).toNat : Int) != (45 : Int))
          (.split ((↑(s.data.toList.getD (↑i : Int).toNat (0 : UInt8)).toNat : Int) != (95 : Int))
           (.leaf .ret [(.bool false true)] (SS.mk [] [] true w []))
           (.leaf .normal [(.str s false), (.int .i64 (IntKind.i64.wrap ((↑i : Int) + (1 : Int))) false)] (SS.mk [] [] true w [])))
          (.leaf .normal [(.str s false), (.int .i64 (IntKind.i64.wrap ((↑i : Int) + (1 : Int))) false)] (SS.mk [] [] true w [])))
         (.leaf .normal [(.str s false), (.int .i64 (IntKind.i64.wrap ((↑i : Int) + (1 : Int))) false)] (SS.mk [] [] true w [])))
        (.leaf .normal [(.str s false), (.int .i64 (IntKind.i64.wrap ((↑i : Int) + (1 : Int))) false)] (SS.mk [] [] true w []))))
      (.leaf .normal [(.str s false), (.int .i64 (IntKind.i64.wrap ((↑i : Int) + (1 : Int))) false)] (SS.mk [] [] true w []))))
    (.split (decide ((↑(s.data.toList.getD (↑i : Int).toNat (0 : UInt8)).toNat : Int) > (122 : Int)))
     (.split (decide ((↑(s.data.toList.getD (↑i : Int).toNat (0 : UInt8)).toNat : Int) < (65 : Int)))
      (.split (decide ((↑(s.data.toList.getD (↑i : Int).toNat (0 : UInt8)).toNat : Int) < (48 : Int)))
       (.split ((↑(s.data.toList.getD (↑i : Int).toNat (0 : UInt8)).toNat : Int) != (46 : Int))
        (.split ((↑(s.data.toList.getD (↑i : Int).toNat (0 : UInt8)).toNat : Int) != (45 : Int))
         (.split ((↑(s.data.toList.getD (↑i : Int).toNat (0 : UInt8)).toNat : Int) != (95 : Int))
          (.leaf .ret [(.bool false true)] (SS.mk [] [] true w []))
          (.leaf .normal [(.str s false), (.int .i64 (IntKind.i64.wrap ((↑i : Int) + (1 : Int))) false)] (SS.mk [] [] true w [])))
         (.leaf .normal [(.str s false), (.int .i64 (IntKind.i64.wrap ((↑i : Int) + (1 : Int))) false)] (SS.mk [] [] true w [])))
        (.leaf .normal [(.str s false), (.int .i64 (IntKind.i64.wrap ((↑i : Int) + (1 : Int))) false)] (SS.mk [] [] true w [])))
       (.split (decide ((↑(s.data.toList.getD (↑i : Int).toNat (0 : UInt8)).toNat : Int) > (57 : Int)))
        (.split ((↑(s.data.toList.getD (↑i : Int).toNat (0 : UInt8)).toNat : Int) != (46 : Int))
         (.split ((↑(s.data.toList.getD (↑i : Int).toNat (0 : UInt8)).toNat : Int) != (45 : Int))
          (.split ((↑(s.data.toList.getD (↑i : Int).toNat (0 : UInt8)).toNat : Int) != (95 : Int))
           (.leaf .ret [(.bool false true)] (SS.mk [] [] true w []))
           (.leaf .normal [(.str s false), (.int .i64 (IntKind.i64.wrap ((↑i : Int) + (1 : Int))) false)] (SS.mk [] [] true w [])))
          (.leaf .normal [(.str s false), (.int .i64 (IntKind.i64.wrap ((↑i : Int) + (1 : Int))) false)] (SS.mk [] [] true w [])))
         (.leaf .normal [(.str s false), (.int .i64 (IntKind.i64.wrap ((↑i : Int) + (1 : Int))) false)] (SS.mk [] [] true w [])))
        (.leaf .normal [(.str s false), (.int .i64 (IntKind.i64.wrap ((↑i : Int) + (1 : Int))) false)] (SS.mk [] [] true w []))))
      (.split (decide ((↑(s.data.toList.getD (↑i : Int).toNat (0 : UInt8)).toNat : Int) > (90 : Int)))
       (.split (decide ((↑(s.data.toList.getD (↑i : Int).toNat (0 : UInt8)).toNat : Int) < (48 : Int)))
        (.split ((↑(s.data.toList.getD (↑i : Int).toNat (0 : UInt8)).toNat : Int) != (46 : Int))
         (.split ((↑(s.data.toList.getD (↑i : Int).toNat (0 : UInt8)).toNat : Int) != (45 : Int))
          (.split ((↑(s.data.toList.getD (↑i : Int).toNat (0 : UInt8)).toNat : Int) != (95 : Int))
           (.leaf .ret [(.bool false true)] (SS.mk [] [] true w []))
           (.leaf .normal [(.str s false), (.int .i64 (IntKind.i64.wrap ((↑i : Int) + (1 : Int))) false)] (SS.mk [] [] true w [])))
          (.leaf .normal [(.str s false), (.int .i64 (IntKind.i64.wrap ((↑i : Int) + (1 : Int))) false)] (SS.mk [] [] true w [])))
         (.leaf .normal [(.str s false), (.int .i64 (IntKind.i64.wrap ((↑i : Int) + (1 : Int))) false)] (SS.mk [] [] true w [])))
        (.split (decide ((↑(s.data.toList.getD (↑i : Int).toNat (0 : UInt8)).toNat : Int) > (57 : Int)))
         (.split ((↑(s.data.toList.getD (↑i : Int).toNat (0 : UInt8)).toNat : Int) != (46 : Int))
          (.split ((↑(s.data.toList.getD (↑i : Int).toNat (0 : UInt8)).toNat : Int) != (45 : Int))
           (.split ((↑(s.data.toList.getD (↑i : Int).toNat (0 : UInt8)).toNat : Int) != (95 : Int))
            (.leaf .ret [(.bool false true)] (SS.mk [] [] true w []))
            (.leaf .normal [(.str s false), (.int .i64 (IntKind.i64.wrap ((↑i : Int) + (1 : Int))) false)] (SS.mk [] [] true w [])))
           (.leaf .normal [(.str s false), (.int .i64 (IntKind.i64.wrap ((↑i : Int) + (1 : Int))) false)] (SS.mk [] [] true w [])))
          (.leaf .normal [(.str s false), (.int .i64 (IntKind.i64.wrap ((↑i : Int) + (1 : Int))) false)] (SS.mk [] [] true w [])))
         (.leaf .normal [(.str s false), (.int .i64 (IntKind.i64.wrap ((↑i : Int) + (1 : Int))) false)] (SS.mk [] [] true w []))))
       (.leaf .normal [(.str s false), (.int .i64 (IntKind.i64.wrap ((↑i : Int) + (1 : Int))) false)] (SS.mk [] [] true w []))))
     (.leaf .normal [(.str s false), (.int .i64 (IntKind.i64.wrap ((↑i : Int) + (1 : Int))) false)] (SS.mk [] [] true w [])))))
   (.leaf (.exit 0) [(.str s false)] (SS.mk [] [] true w []))) := by kernel_rfl



theorem maPlain_c (s : ByteArray) (w : World) (hs : (s.size : Int) < 2 ^ 63) : Calls Tryz.prog 30 #[.string s] w (Ret SomeBool w) := by
  refine funF (hk := hk30 s) (n := 1000) (args := [.str s false]) ⟨trivial, trivial⟩ ?_
  rw [t30]
  refine loopG (Fine.start _ _) L30 (α := Nat) (fun i => [.str s false, .int .i64 i false]) (fun i => s.size - i) (fun _ i _ => i ≤ s.size)
    (fun _ e lv _ => (e = .ret ∧ lv = [.bool false]) ∨ (e = .exit 0 ∧ lv = [.string s])) (fun _ => noHk) 1000 (by simp) (by simp [L30]) (by simp [L30]) (fun _ => ⟨trivial, trivial, trivial⟩) rfl rfl rfl
    (by simp) (by simp) (fun _ => ⟨trivial, trivial⟩) (fun _ => ⟨trivial, trivial⟩) ?_ ?_ ?_
  · intro w0 i w1 g _ hi hb0 _
    refine holds_eq (t30r s w1 i g) ?_
    refine splitT (fun hlt => ?_) (fun hge => exitF (Fine.nil hb0) (by simp) fun β w' _ _ => .inr ⟨rfl, rfl⟩)
    have hlt' : i < s.size := by simpa using hlt
    refine needT (by omega) ?_
    have hnext : ∀ (β : Nat → Nat), ∃ y, s.size - y < s.size - i ∧ denL β [(.str s false), (.int .i64 (IntKind.i64.wrap ((i : Int) + 1)) false)] = denL id [.str s false, .int .i64 (y : Nat) false] ∧ y ≤ s.size := by
      intro β
      refine ⟨i + 1, by omega, ?_, by omega⟩
      rw [next_i hlt' hs]
      rfl
    repeat' (refine splitT (fun _ => ?_) (fun _ => ?_))
    all_goals first
      | exact nextF (Fine.nil hb0) fun β w' _ _ => hnext β
      | exact exitF (Fine.nil hb0) (by simp) fun β w' _ _ => .inl ⟨rfl, rfl⟩
  · intro β w0 hst hb
    exact ⟨0, rfl, Nat.zero_le _⟩
  · rintro β w0 hst hb e lv w' (⟨rfl, rfl⟩ | ⟨rfl, rfl⟩) hb0 hb1
    · exact .inl ⟨(), rfl, rfl, fun g bs hbs => retF (Fine.mk' hb1 hbs) fun β w' _ _ => ⟨_, rfl⟩⟩
    · refine .inr ⟨(), rfl, rfl, fun g bs hbs => ?_⟩
      refine splitT (fun _ => ?_) (fun _ => ?_)
      all_goals exact retF (Fine.mk' hb1 hbs) fun β w' _ _ => ⟨_, rfl⟩

end Go.Proofs.YtdmnoagahjbjhaaGreatDoor
