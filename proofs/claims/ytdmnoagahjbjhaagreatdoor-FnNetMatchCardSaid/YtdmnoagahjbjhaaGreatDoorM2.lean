/- Sizes: zzFits7, zzFits6, zzFits12 answer. -/
import Derived.Test.YtdmnoagahjbjhaaGreatDoorM1
set_option linter.unusedVariables false
set_option maxRecDepth 20000
namespace Go.Proofs.YtdmnoagahjbjhaaGreatDoor
open Go Go.Rx Go.RowKit

def Lr : SE → List Nat
  | .normal => [8, 9, 10]
  | .ret => [2]
  | _ => []
def lhr : LoopHook := mkHook 18 Unit .ret [2] (fun _ => [.bool false true]) Unit (.exit 0) [] (fun _ => [])
def hk5 : Hooks := { calls := fun _ => none, loops := fun f k => if (f = 5 ∨ f = 6) ∧ k = 5 then some lhr else none }
def hk6 : Hooks := { calls := fun f => if f = 5 then some boolHook else none, loops := fun f k => none }
set_option maxRecDepth 100000 in
theorem t5 (A : Option Addr) (n c : Nat) (w : World) : xFunc Tryz.prog hk5 1000 5 [.xs A n c] (SS.at w) =
  (.split (decide ((↑n : Int) > (2147483647 : Int)))
   (.leaf .ret [(.bool false true)] (SS.mk [] [] true w []))
   (.loop 5 (loopOf Tryz.prog 5 5) ([(.xs A n c), (.tup []), (.bool false true), (.tup []), (.tup []), (.xs A n c), (.int .i64 ((↑n : Int)) false), (.bool false true), (.xs A n c), (.int .i64 ((↑n : Int)) false), (.int .i64 0 true)] ++ List.replicate 7 undefS) (SS.mk [] [] true w []) (LoopHook.X (lhr)) (LoopHook.out (lhr) ([(.xs A n c), (.tup []), (.bool false true), (.tup []), (.tup []), (.xs A n c), (.int .i64 ((↑n : Int)) false), (.bool false true), (.xs A n c), (.int .i64 ((↑n : Int)) false), (.int .i64 0 true)] ++ List.replicate 7 undefS) (SS.mk [] [] true w [])) (fun x0 w0 b0 =>
    (.leaf .ret [(.bool false true)] (SS.mk [] [] true w0 b0)))
   (LoopHook.Y (lhr)) (LoopHook.out' (lhr) ([(.xs A n c), (.tup []), (.bool false true), (.tup []), (.tup []), (.xs A n c), (.int .i64 ((↑n : Int)) false), (.bool false true), (.xs A n c), (.int .i64 ((↑n : Int)) false), (.int .i64 0 true)] ++ List.replicate 7 undefS) (SS.mk [] [] true w [])) (fun x0 w0 b0 =>
    (.leaf .ret [(.bool true true)] (SS.mk [] [] true w0 b0))))) := by kernel_rfl
set_option maxRecDepth 100000 in
theorem r5 (A : Option Addr) (n c i : Nat) (w : World) (g : Nat → Value) : xCode Tryz.prog noHk 1000 5 (loopOf Tryz.prog 5 5) (mkFrame ((Lr .normal).zip [.xs A n c, .int .i64 n false, .int .i64 i false]) g 18 0) (fun e a s => .leaf e (sel Lr e a) s) (SS.at w) =
  (.split (decide ((↑i : Int) < (↑n : Int)))
   (.need ((0 : Int) ≤ (↑i : Int) ∧ (↑i : Int) < (↑n : Int))
   (.need (A.isSome = true)
   (.need (canRead w [] ((A.getD default).add ((↑i : Int).toNat * (2 : Nat))) [SV.int IntKind.i64 (intAt w (((A.getD default).add ((↑i : Int).toNat * (2 : Nat))).add (0 : Nat))) false, SV.xs (slA w (((A.getD default).add ((↑i : Int).toNat * (2 : Nat))).add (1 : Nat))) (slN w (((A.getD default).add ((↑i : Int).toNat * (2 : Nat))).add (1 : Nat))) (slC w (((A.getD default).add ((↑i : Int).toNat * (2 : Nat))).add (1 : Nat)))])
   (.split (decide ((↑(slN w (((A.getD default).add ((↑i : Int).toNat * (2 : Nat))).add (1 : Nat))) : Int) > (2147483647 : Int)))
    (.leaf .ret [(.bool false true)] (SS.mk [(.cells [(.int .i64 (intAt w (((A.getD default).add ((↑i : Int).toNat * (2 : Nat))).add (0 : Nat))) false), (.xs (slA w (((A.getD default).add ((↑i : Int).toNat * (2 : Nat))).add (1 : Nat))) (slN w (((A.getD default).add ((↑i : Int).toNat * (2 : Nat))).add (1 : Nat))) (slC w (((A.getD default).add ((↑i : Int).toNat * (2 : Nat))).add (1 : Nat))))] 2 35 0 0), (.cells [(.int .i64 (intAt w (((A.getD default).add ((↑i : Int).toNat * (2 : Nat))).add (0 : Nat))) false), (.xs (slA w (((A.getD default).add ((↑i : Int).toNat * (2 : Nat))).add (1 : Nat))) (slN w (((A.getD default).add ((↑i : Int).toNat * (2 : Nat))).add (1 : Nat))) (slC w (((A.getD default).add ((↑i : Int).toNat * (2 : Nat))).add (1 : Nat))))] 2 35 0 0)] [] true w []))
    (.leaf .normal [(.xs A n c), (.int .i64 ((↑n : Int)) false), (.int .i64 (IntKind.i64.wrap ((↑i : Int) + (1 : Int))) false)] (SS.mk [(.cells [(.int .i64 (intAt w (((A.getD default).add ((↑i : Int).toNat * (2 : Nat))).add (0 : Nat))) false), (.xs (slA w (((A.getD default).add ((↑i : Int).toNat * (2 : Nat))).add (1 : Nat))) (slN w (((A.getD default).add ((↑i : Int).toNat * (2 : Nat))).add (1 : Nat))) (slC w (((A.getD default).add ((↑i : Int).toNat * (2 : Nat))).add (1 : Nat))))] 2 35 0 0), (.cells [(.int .i64 (intAt w (((A.getD default).add ((↑i : Int).toNat * (2 : Nat))).add (0 : Nat))) false), (.xs (slA w (((A.getD default).add ((↑i : Int).toNat * (2 : Nat))).add (1 : Nat))) (slN w (((A.getD default).add ((↑i : Int).toNat * (2 : Nat))).add (1 : Nat))) (slC w (((A.getD default).add ((↑i : Int).toNat * (2 : Nat))).add (1 : Nat))))] 2 35 0 0)] [] true w []))))))
   (.leaf (.exit 0) [] (SS.mk [] [] true w []))) := by kernel_rfl
set_option maxRecDepth 100000 in
theorem t6 (A : Option Addr) (n c : Nat) (w : World) : xFunc Tryz.prog hk5 1000 6 [.xs A n c] (SS.at w) =
  (.split (decide ((↑n : Int) > (2147483647 : Int)))
   (.leaf .ret [(.bool false true)] (SS.mk [] [] true w []))
   (.loop 6 (loopOf Tryz.prog 6 5) ([(.xs A n c), (.tup []), (.bool false true), (.tup []), (.tup []), (.xs A n c), (.int .i64 ((↑n : Int)) false), (.bool false true), (.xs A n c), (.int .i64 ((↑n : Int)) false), (.int .i64 0 true)] ++ List.replicate 7 undefS) (SS.mk [] [] true w []) (LoopHook.X (lhr)) (LoopHook.out (lhr) ([(.xs A n c), (.tup []), (.bool false true), (.tup []), (.tup []), (.xs A n c), (.int .i64 ((↑n : Int)) false), (.bool false true), (.xs A n c), (.int .i64 ((↑n : Int)) false), (.int .i64 0 true)] ++ List.replicate 7 undefS) (SS.mk [] [] true w [])) (fun x0 w0 b0 =>
    (.leaf .ret [(.bool false true)] (SS.mk [] [] true w0 b0)))
   (LoopHook.Y (lhr)) (LoopHook.out' (lhr) ([(.xs A n c), (.tup []), (.bool false true), (.tup []), (.tup []), (.xs A n c), (.int .i64 ((↑n : Int)) false), (.bool false true), (.xs A n c), (.int .i64 ((↑n : Int)) false), (.int .i64 0 true)] ++ List.replicate 7 undefS) (SS.mk [] [] true w [])) (fun x0 w0 b0 =>
    (.leaf .ret [(.bool true true)] (SS.mk [] [] true w0 b0))))) := by kernel_rfl
set_option maxRecDepth 100000 in
theorem r6 (A : Option Addr) (n c i : Nat) (w : World) (g : Nat → Value) : xCode Tryz.prog hk6 1000 6 (loopOf Tryz.prog 6 5) (mkFrame ((Lr .normal).zip [.xs A n c, .int .i64 n false, .int .i64 i false]) g 18 0) (fun e a s => .leaf e (sel Lr e a) s) (SS.at w) =
  (.split (decide ((↑i : Int) < (↑n : Int)))
   (.need ((0 : Int) ≤ (↑i : Int) ∧ (↑i : Int) < (↑n : Int))
   (.need (A.isSome = true)
   (.need (canRead w [] ((A.getD default).add ((↑i : Int).toNat * (1 : Nat))) [SV.xs (slA w (((A.getD default).add ((↑i : Int).toNat * (1 : Nat))).add (0 : Nat))) (slN w (((A.getD default).add ((↑i : Int).toNat * (1 : Nat))).add (0 : Nat))) (slC w (((A.getD default).add ((↑i : Int).toNat * (1 : Nat))).add (0 : Nat)))])
   (.call 5 [(.xs (slA w (((A.getD default).add ((↑i : Int).toNat * (1 : Nat))).add (0 : Nat))) (slN w (((A.getD default).add ((↑i : Int).toNat * (1 : Nat))).add (0 : Nat))) (slC w (((A.getD default).add ((↑i : Int).toNat * (1 : Nat))).add (0 : Nat))))] (SS.mk [] [] true w []) (Hook.X (boolHook)) (Hook.out (boolHook) [(.xs (slA w (((A.getD default).add ((↑i : Int).toNat * (1 : Nat))).add (0 : Nat))) (slN w (((A.getD default).add ((↑i : Int).toNat * (1 : Nat))).add (0 : Nat))) (slC w (((A.getD default).add ((↑i : Int).toNat * (1 : Nat))).add (0 : Nat))))] (SS.mk [] [] true w [])) fun x0 w0 b0 =>
   (.split (!x0)
    (.leaf .ret [(.bool false true)] (SS.mk [] [] true w0 b0))
    (.leaf .normal [(.xs A n c), (.int .i64 ((↑n : Int)) false), (.int .i64 (IntKind.i64.wrap ((↑i : Int) + (1 : Int))) false)] (SS.mk [] [] true w0 b0)))))))
   (.leaf (.exit 0) [] (SS.mk [] [] true w []))) := by kernel_rfl


theorem zzFits6_c (A : Option Addr) (n c : Nat) (l : List Comp) (B : Nat) (w : World) (h : CompsAt w B A n l) (hB : B ≤ w.heap.size) (hn : (n : Int) < 2 ^ 63) : Calls Tryz.prog 5 #[.slice A n c] w (Ret SomeBool w) := by
  refine funF (hk := hk5) (n := 1000) (args := [.xs A n c]) ⟨trivial, trivial⟩ ?_
  rw [t5]
  refine splitT (fun _ => retF (Fine.start _ _) fun β w' _ _ => ⟨_, rfl⟩) (fun _ => ?_)
  refine loopG (Fine.start _ _) Lr (α := Nat) (fun i => [.xs A n c, .int .i64 n false, .int .i64 i false]) (fun i => n - i) (fun _ i _ => i ≤ n)
    (fun _ e lv _ => (e = .ret ∧ lv = [.bool false]) ∨ (e = .exit 0 ∧ lv = [])) (fun _ => noHk) 1000 (by simp) (by simp [Lr]) (by simp [Lr]) (fun _ => ⟨trivial, trivial, trivial, trivial⟩) rfl rfl rfl
    (by simp) (by simp) (fun _ => ⟨trivial, trivial⟩) (fun _ => trivial) ?_ ?_ ?_
  · intro w0 i w1 g _ hi hb0 hbw
    refine holds_eq (r5 A n c i w1 g) ?_
    refine splitT (fun hlt => ?_) (fun hge => exitF (Fine.nil hb0) (by simp) fun β w' _ _ => .inr ⟨rfl, rfl⟩)
    have hlt' : i < n := by simpa using hlt
    obtain ⟨ad, x, rfl, had, hx, hR⟩ := (h.below (hbw.mono hB) (Nat.le_refl _)).get hlt'
    refine needT (by omega) (needT rfl (needT (hR.canRead (Nat.le_trans hB hbw.size) (by simp)) ?_))
    refine splitT (fun _ => exitF (Fine.nil hb0) (by simp) fun β w' _ _ => .inl ⟨rfl, rfl⟩) (fun _ => nextF (Fine.nil hb0) fun β w' _ _ => ⟨i + 1, by omega, ?_, by omega⟩)
    rw [next_i hlt' hn]
    rfl
  · intro β w0 hst hb
    exact ⟨0, rfl, Nat.zero_le _⟩
  · rintro β w0 hst hb e lv w' (⟨rfl, rfl⟩ | ⟨rfl, rfl⟩) hb0 hb1
    · exact .inl ⟨(), rfl, rfl, fun g bs hbs => retF (Fine.mk' hb1 hbs) fun β w' _ _ => ⟨_, rfl⟩⟩
    · exact .inr ⟨(), rfl, rfl, fun g bs hbs => retF (Fine.mk' hb1 hbs) fun β w' _ _ => ⟨_, rfl⟩⟩

/-- A hooked call of which only a bool comes back. -/
theorem boolCall {Q : SE → List Value → World → Prop} {s : SS} {w : World} {f : FuncId} {args : List SV} {a0 : List SV} {s0 : SS} {k : Bool → World → List Nat → T} (hf : Fine w s) (hs0 : s0.objs = s.objs)
    (hc : ∀ β w0, Below w.heap.size w w0 → St (ctx Tryz.prog Q) β s w0 → Old β s w0 → Calls Tryz.prog f (denL β args).toArray w0 (Ret SomeBool w0))
    (hk : ∀ b w' bs, Below w.heap.size w w' → (∀ b ∈ bs, w.heap.size ≤ b) → (k b w' bs).holds (ctx Tryz.prog Q)) :
    (T.call f args s (Hook.X boolHook) (Hook.out boolHook a0 s0) k).holds (ctx Tryz.prog Q) := by
  refine callF (Γ := ctx Tryz.prog Q) (R := fun _ _ _ => True) hf (fun x => ⟨hs0, trivial⟩) (fun β w0 hst ho hb => ?_) (fun x w0 w' bs _ _ _ hb hbs => hk x w' bs hb hbs)
  refine (hc β w0 hb hst ho).mono ?_
  rintro e w' ⟨v, rfl, ⟨b, rfl⟩, hb'⟩
  exact ⟨b, rfl, hb', trivial⟩

theorem zzFits12_c (A : Option Addr) (n c : Nat) (l : List (List Comp)) (B : Nat) (w : World) (h : ListsAt w B A n l) (hB : B ≤ w.heap.size) (hn : (n : Int) < 2 ^ 63) : Calls Tryz.prog 6 #[.slice A n c] w (Ret SomeBool w) := by
  refine funF (hk := hk5) (n := 1000) (args := [.xs A n c]) ⟨trivial, trivial⟩ ?_
  rw [t6]
  refine splitT (fun _ => retF (Fine.start _ _) fun β w' _ _ => ⟨_, rfl⟩) (fun _ => ?_)
  refine loopG (Fine.start _ _) Lr (α := Nat) (fun i => [.xs A n c, .int .i64 n false, .int .i64 i false]) (fun i => n - i) (fun _ i _ => i ≤ n)
    (fun _ e lv _ => (e = .ret ∧ lv = [.bool false]) ∨ (e = .exit 0 ∧ lv = [])) (fun _ => hk6) 1000 (by simp) (by simp [Lr]) (by simp [Lr]) (fun _ => ⟨trivial, trivial, trivial, trivial⟩) rfl rfl rfl
    (by simp) (by simp) (fun _ => ⟨trivial, trivial⟩) (fun _ => trivial) ?_ ?_ ?_
  · intro w0 i w1 g _ hi hb0 hbw
    refine holds_eq (r6 A n c i w1 g) ?_
    refine splitT (fun hlt => ?_) (fun hge => exitF (Fine.nil hb0) (by simp) fun β w' _ _ => .inr ⟨rfl, rfl⟩)
    have hlt' : i < n := by simpa using hlt
    obtain ⟨ad, x, rfl, had, hx, hR⟩ := (h.below (hbw.mono hB) (Nat.le_refl _)).get hlt'
    refine needT (by omega) (needT rfl (needT (hR.canRead (Nat.le_trans hB hbw.size) (by simp)) ?_))
    obtain ⟨h1, h2⟩ := hR.facts
    have hB1 : B ≤ w1.heap.size := Nat.le_trans hB hbw.size
    refine boolCall (Fine.at w1) rfl (fun β w2 hb2 _ _ => zzFits6_c _ _ _ _ B w2 (h1.below (hb2.mono hB1) (Nat.le_refl _)) (Nat.le_trans hB1 hb2.size) (Int.lt_of_lt_of_le h2 (by decide))) (fun b w2 bs hb2 hbs => ?_)
    have hf : Fine w0 (SS.mk [] [] true w2 bs) := Fine.mk' (hb0.trans (hb2.mono hb0.size)) (fun b hb => Nat.le_trans hb0.size (hbs b hb))
    refine splitT (fun _ => exitF hf (by simp) fun β w' _ _ => .inl ⟨rfl, rfl⟩) (fun _ => nextF hf fun β w' _ _ => ⟨i + 1, by omega, ?_, by omega⟩)
    rw [next_i hlt' hn]
    rfl
  · intro β w0 hst hb
    exact ⟨0, rfl, Nat.zero_le _⟩
  · rintro β w0 hst hb e lv w' (⟨rfl, rfl⟩ | ⟨rfl, rfl⟩) hb0 hb1
    · exact .inl ⟨(), rfl, rfl, fun g bs hbs => retF (Fine.mk' hb1 hbs) fun β w' _ _ => ⟨_, rfl⟩⟩
    · exact .inr ⟨(), rfl, rfl, fun g bs hbs => retF (Fine.mk' hb1 hbs) fun β w' _ _ => ⟨_, rfl⟩⟩

end Go.Proofs.YtdmnoagahjbjhaaGreatDoor
