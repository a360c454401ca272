/- NetIn, of the same four bytes. -/
import Derived.Test.YtdmnoagahjbjhaaGreatDoorM16
set_option linter.unusedVariables false
set_option linter.unusedSimpArgs false
set_option maxRecDepth 20000
namespace Go.Proofs.YtdmnoagahjbjhaaGreatDoor
open Go Go.Rx Go.RowKit
def L20 : SE → List Nat
  | .normal => [0, 1, 2, 7]
  | .ret => [6]
  | _ => []
def lh20 : LoopHook := mkHook 44 Unit (.exit 0) [] (fun _ => []) Unit .ret [6] (fun _ => [.bool false true])
def hk20 : Hooks := { calls := fun _ => none, loops := fun _ _ => some lh20 }
set_option maxRecDepth 100000 in
theorem t20 (A : Option Addr) (c : Nat) (A' : Option Addr) (c' : Nat) (w : World) : xFunc Tryz.prog hk20 1000 20 [.xs A 4 c, .int .i64 32 true, .xs A' 4 c'] (SS.mk [] [] true w []) =
  (.loop 20 (loopOf Tryz.prog 20 3) ([(.xs A 4 c), (.int .i64 32 true), (.xs A' 4 c'), (.tup []), (.tup []), (.tup []), (.bool false true), (.int .i64 0 true)] ++ List.replicate 36 undefS) (SS.mk [] [] true w []) (LoopHook.X (lh20)) (LoopHook.out (lh20) ([(.xs A 4 c), (.int .i64 32 true), (.xs A' 4 c'), (.tup []), (.tup []), (.tup []), (.bool false true), (.int .i64 0 true)] ++ List.replicate 36 undefS) (SS.mk [] [] true w [])) (fun x0 w0 b0 =>
   (.leaf .ret [(.bool true true)] (SS.mk [] [] true w0 b0)))
  (LoopHook.Y (lh20)) (LoopHook.out' (lh20) ([(.xs A 4 c), (.int .i64 32 true), (.xs A' 4 c'), (.tup []), (.tup []), (.tup []), (.bool false true), (.int .i64 0 true)] ++ List.replicate 36 undefS) (SS.mk [] [] true w [])) (fun x0 w0 b0 =>
   (.leaf .ret [(.bool false true)] (SS.mk [] [] true w0 b0)))) := by kernel_rfl
set_option maxRecDepth 100000 in
theorem r20 (A : Option Addr) (c : Nat) (A' : Option Addr) (c' i : Nat) (w : World) (g : Nat → Value) : xCode Tryz.prog noHk 1000 20 (loopOf Tryz.prog 20 3) (mkFrame ((L20 .normal).zip [.xs A 4 c, .int .i64 32 true, .xs A' 4 c', .int .i64 i false]) g 44 0) (fun e a s => .leaf e (sel L20 e a) s) (SS.mk [] [] true w []) =
  (.split (decide ((↑i : Int) < (32 : Int)))
   (.split (decide (IntKind.i64.wrap ((↑i : Int).tdiv (8 : Int)) < (↑(4 : Nat) : Int)))
    (.need ((0 : Int) ≤ IntKind.i64.wrap ((↑i : Int).tdiv (8 : Int)) ∧ IntKind.i64.wrap ((↑i : Int).tdiv (8 : Int)) < (↑(4 : Nat) : Int))
    (.need (A'.isSome = true)
    (.need (canRead w [] ((A'.getD default).add ((IntKind.i64.wrap ((↑i : Int).tdiv (8 : Int))).toNat * (1 : Nat))) [SV.int IntKind.u8 (intAt w (((A'.getD default).add ((IntKind.i64.wrap ((↑i : Int).tdiv (8 : Int))).toNat * (1 : Nat))).add (0 : Nat))) false])
    (.split (decide (IntKind.i64.wrap ((↑i : Int).tdiv (8 : Int)) ≥ (↑(4 : Nat) : Int)))
     (.leaf .ret [(.bool false true)] (SS.mk [] [] true w []))
     (.need ((0 : Int) ≤ IntKind.i64.wrap ((↑i : Int).tdiv (8 : Int)) ∧ IntKind.i64.wrap ((↑i : Int).tdiv (8 : Int)) < (↑(4 : Nat) : Int))
     (.need (A.isSome = true)
     (.need (canRead w [] ((A.getD default).add ((IntKind.i64.wrap ((↑i : Int).tdiv (8 : Int))).toNat * (1 : Nat))) [SV.int IntKind.u8 (intAt w (((A.getD default).add ((IntKind.i64.wrap ((↑i : Int).tdiv (8 : Int))).toNat * (1 : Nat))).add (0 : Nat))) false])
     (.need ((0 : Int) ≤ IntKind.i64.wrap ((7 : Int) - (↑i : Int).tmod (8 : Int)))
     (.split (IntKind.u8.wrap (↑(BitVec.ofInt (8 : Nat) ((IntKind.u8.wrap (↑(BitVec.ofInt (8 : Nat) (intAt w (((A.getD default).add ((IntKind.i64.wrap ((↑i : Int).tdiv (8 : Int))).toNat * (1 : Nat))).add (0 : Nat))) ^^^ BitVec.ofInt (8 : Nat) (intAt w (((A'.getD default).add ((IntKind.i64.wrap ((↑i : Int).tdiv (8 : Int))).toNat * (1 : Nat))).add (0 : Nat)))).toNat : Int)).fdiv ((2 : Int) ^ min (IntKind.i64.wrap ((7 : Int) - (↑i : Int).tmod (8 : Int))).toNat (8 : Nat))) &&& BitVec.ofInt (8 : Nat) (1 : Int)).toNat : Int) == (1 : Int))
      (.leaf .ret [(.bool false true)] (SS.mk [] [] true w []))
      (.leaf .normal [(.xs A 4 c), (.int .i64 32 true), (.xs A' 4 c'), (.int .i64 (IntKind.i64.wrap ((↑i : Int) + (1 : Int))) false)] (SS.mk [] [] true w [])))))))))))
    (.split (decide (IntKind.i64.wrap ((↑i : Int).tdiv (8 : Int)) ≥ (↑(4 : Nat) : Int)))
     (.leaf .ret [(.bool false true)] (SS.mk [] [] true w []))
     (.need ((0 : Int) ≤ IntKind.i64.wrap ((↑i : Int).tdiv (8 : Int)) ∧ IntKind.i64.wrap ((↑i : Int).tdiv (8 : Int)) < (↑(4 : Nat) : Int))
     (.need (A.isSome = true)
     (.need (canRead w [] ((A.getD default).add ((IntKind.i64.wrap ((↑i : Int).tdiv (8 : Int))).toNat * (1 : Nat))) [SV.int IntKind.u8 (intAt w (((A.getD default).add ((IntKind.i64.wrap ((↑i : Int).tdiv (8 : Int))).toNat * (1 : Nat))).add (0 : Nat))) false])
     (.need ((0 : Int) ≤ IntKind.i64.wrap ((7 : Int) - (↑i : Int).tmod (8 : Int)))
     (.split (IntKind.u8.wrap (↑(BitVec.ofInt (8 : Nat) ((IntKind.u8.wrap (↑(BitVec.ofInt (8 : Nat) (intAt w (((A.getD default).add ((IntKind.i64.wrap ((↑i : Int).tdiv (8 : Int))).toNat * (1 : Nat))).add (0 : Nat))) ^^^ BitVec.ofInt (8 : Nat) (0 : Int)).toNat : Int)).fdiv ((2 : Int) ^ min (IntKind.i64.wrap ((7 : Int) - (↑i : Int).tmod (8 : Int))).toNat (8 : Nat))) &&& BitVec.ofInt (8 : Nat) (1 : Int)).toNat : Int) == (1 : Int))
      (.leaf .ret [(.bool false true)] (SS.mk [] [] true w []))
      (.leaf .normal [(.xs A 4 c), (.int .i64 32 true), (.xs A' 4 c'), (.int .i64 (IntKind.i64.wrap ((↑i : Int) + (1 : Int))) false)] (SS.mk [] [] true w [])))))))))
   (.leaf (.exit 0) [] (SS.mk [] [] true w []))) := by kernel_rfl


theorem netIn_c (A : Option Addr) (c : Nat) (A' : Option Addr) (c' : Nat) (l : List UInt8) (B : Nat) (w : World) (h : Bts w B A 4 l) (h' : Bts w B A' 4 l) (hB : B ≤ w.heap.size) :
    Calls Tryz.prog 20 #[.slice A 4 c, .int .i64 32, .slice A' 4 c'] w (Ret (BoolQ fun b => b = true) w) := by
  refine funF (hk := hk20) (n := 1000) (args := [.xs A 4 c, .int .i64 32 true, .xs A' 4 c']) ⟨trivial, trivial, trivial, trivial⟩ ?_
  refine holds_eq (t20 A c A' c' w) ?_
  refine loopG (Fine.start _ _) L20 (α := Nat) (fun i => [.xs A 4 c, .int .i64 32 true, .xs A' 4 c', .int .i64 i false]) (fun i => 32 - i) (fun _ i _ => i ≤ 32)
    (fun w0 e lv w' => e = .exit 0 ∧ lv = []) (fun _ => noHk) 1000 (by simp) (by simp [L20]) (by simp [L20]) (fun _ => ⟨trivial, trivial, trivial, trivial, trivial⟩) rfl rfl rfl
    (by simp) (by simp) (fun _ => trivial) (fun _ => ⟨trivial, trivial⟩) ?_ ?_ ?_
  · rintro w0 i w1 g hbw0 hi hb0 hbw
    refine holds_eq (r20 A c A' c' i w1 g) (splitD (fun hlt => ?_) (fun hge => exitF (Fine.nil hb0) (by simp) fun β w' _ _ => ⟨rfl, rfl⟩))
    have hlt' : i < 32 := by omega
    have hB1 : B ≤ w1.heap.size := Nat.le_trans hB hbw.size
    have e8 : IntKind.i64.wrap ((i : Int).tdiv 8) = ((i / 8 : Nat) : Int) := by
      have : ((i : Int).tdiv 8) = ((i / 8 : Nat) : Int) := rfl
      rw [this, wrapi (by omega) (by omega)]
    have e7 : IntKind.i64.wrap (7 - (i : Int).tmod 8) = ((7 - i % 8 : Nat) : Int) := by
      have : ((i : Int).tmod 8) = ((i % 8 : Nat) : Int) := rfl
      rw [this, wrapi (by omega) (by omega)]
      omega
    obtain ⟨ad, x, rfl, had, hx, hR⟩ := (h.below (hbw.mono hB) (Nat.le_refl _)).get (i := i / 8) (by omega)
    obtain ⟨ad', x', rfl, had', hx', hR'⟩ := (h'.below (hbw.mono hB) (Nat.le_refl _)).get (i := i / 8) (by omega)
    rw [hx] at hx'
    cases hx'
    rw [e8, e7]
    have f1 : intAt w1 ((((some ad).getD default).add (((i / 8 : Nat) : Int).toNat * 1)).add 0) = (x.toNat : Int) := by
      have : w1.cell? ((((some ad).getD default).add (((i / 8 : Nat) : Int).toNat * 1)).add 0) = some (.int .u8 (x.toNat : Int)) := hR
      simp only [intAt, this]
    have f2 : intAt w1 ((((some ad').getD default).add (((i / 8 : Nat) : Int).toNat * 1)).add 0) = (x.toNat : Int) := by
      have : w1.cell? ((((some ad').getD default).add (((i / 8 : Nat) : Int).toNat * 1)).add 0) = some (.int .u8 (x.toNat : Int)) := hR'
      simp only [intAt, this]
    rw [f1, f2]
    have g1 : canRead w1 [] (ad.add (i / 8 * 1)) [SV.int .u8 (x.toNat : Int) false] := canRead1 (by rw [add_block]; omega) (by simp) hR
    have g2 : canRead w1 [] (ad'.add (i / 8 * 1)) [SV.int .u8 (x.toNat : Int) false] := canRead1 (by rw [add_block]; omega) (by simp) hR'
    refine splitD (fun _ => ?_) (fun hno => absurd (by omega) hno)
    refine needT (by omega) (needT rfl (needT g2 (splitD (fun hno => absurd hno (by omega)) (fun _ => needT (by omega) (needT rfl (needT g1 (needT (by omega) (splitT (fun hne => ?_) (fun _ => nextF (Fine.nil hb0) fun β w' _ _ => ⟨i + 1, by omega, ?_, by omega⟩))))))))) 
    · rw [BitVec.xor_self] at hne
      exfalso
      have z : IntKind.u8.wrap (((0#8).toNat : Nat) : Int) = 0 := by decide
      rw [z, Int.zero_fdiv] at hne
      revert hne
      decide
    · rw [next_i hlt' (by omega)]; rfl
  · intro β w0 hst hb
    exact ⟨0, rfl, Nat.zero_le _⟩
  · rintro β w0 hst hb e lv w' ⟨rfl, rfl⟩ hb0 hb1
    exact .inl ⟨(), rfl, rfl, fun g bs hbs => retF (Fine.mk' hb1 hbs) fun β w' _ _ => ⟨_, rfl, rfl⟩⟩

end Go.Proofs.YtdmnoagahjbjhaaGreatDoor
