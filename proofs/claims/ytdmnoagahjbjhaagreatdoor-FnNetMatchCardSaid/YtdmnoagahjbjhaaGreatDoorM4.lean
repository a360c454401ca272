/- Simple components, simple addresses: MaSimple, MaAddress, maSimple answer; what is simple has codes of the table. -/
import Derived.Test.YtdmnoagahjbjhaaGreatDoorM3
set_option linter.unusedVariables false
set_option maxRecDepth 20000
namespace Go.Proofs.YtdmnoagahjbjhaaGreatDoor
open Go Go.Rx Go.RowKit

def L7 : SE → List Nat
  | .normal => [0, 5, 6, 7]
  | .ret => [2]
  | _ => [0]
def lh7 (A : Option Addr) (n c : Nat) : LoopHook := mkHook 36 Unit .ret [2] (fun _ => [.bool false true]) Unit (.exit 0) [0] (fun _ => [.xs A n c])
def hk7 (A : Option Addr) (n c : Nat) : Hooks := { calls := fun f => none, loops := fun f k => some (lh7 A n c) }
def hk7r : Hooks := { calls := fun f => if f = 16 then some boolHook else none, loops := fun f k => none }
set_option maxRecDepth 100000 in
theorem t7 (A : Option Addr) (n c : Nat) (w : World) : xFunc Tryz.prog (hk7 A n c) 1000 7 [.xs A n c] (SS.at w) =
  (.loop 7 (loopOf Tryz.prog 7 3) ([(.xs A n c), (.tup []), (.bool false true), (.tup []), (.tup []), (.xs A n c), (.int .i64 ((↑n : Int)) false), (.int .i64 0 true)] ++ List.replicate 28 undefS) (SS.mk [] [] true w []) (LoopHook.X (lh7 A n c)) (LoopHook.out (lh7 A n c) ([(.xs A n c), (.tup []), (.bool false true), (.tup []), (.tup []), (.xs A n c), (.int .i64 ((↑n : Int)) false), (.int .i64 0 true)] ++ List.replicate 28 undefS) (SS.mk [] [] true w [])) (fun x0 w0 b0 =>
   (.leaf .ret [(.bool false true)] (SS.mk [] [] true w0 b0)))
  (LoopHook.Y (lh7 A n c)) (LoopHook.out' (lh7 A n c) ([(.xs A n c), (.tup []), (.bool false true), (.tup []), (.tup []), (.xs A n c), (.int .i64 ((↑n : Int)) false), (.int .i64 0 true)] ++ List.replicate 28 undefS) (SS.mk [] [] true w [])) (fun x0 w0 b0 =>
   (.split (decide ((↑n : Int) ≥ (1 : Int)))
    (.leaf .ret [(.bool (decide ((↑n : Int) ≤ (12 : Int))) false)] (SS.mk [] [] true w0 b0))
    (.leaf .ret [(.bool false true)] (SS.mk [] [] true w0 b0))))) := by kernel_rfl
set_option maxRecDepth 100000 in
theorem r7 (A : Option Addr) (n c i : Nat) (w : World) (g : Nat → Value) : xCode Tryz.prog hk7r 1000 7 (loopOf Tryz.prog 7 3) (mkFrame ((L7 .normal).zip [.xs A n c, .xs A n c, .int .i64 n false, .int .i64 i false]) g 36 0) (fun e a s => .leaf e (sel L7 e a) s) (SS.at w) =
  (.split (decide ((↑i : Int) < (↑n : Int)))
   (.need ((0 : Int) ≤ (↑i : Int) ∧ (↑i : Int) < (↑n : Int))
   (.need (A.isSome = true)
   (.need (canRead w [] ((A.getD default).add ((↑i : Int).toNat * (2 : Nat))) [SV.int IntKind.i64 (intAt w (((A.getD default).add ((↑i : Int).toNat * (2 : Nat))).add (0 : Nat))) false, SV.xs (slA w (((A.getD default).add ((↑i : Int).toNat * (2 : Nat))).add (1 : Nat))) (slN w (((A.getD default).add ((↑i : Int).toNat * (2 : Nat))).add (1 : Nat))) (slC w (((A.getD default).add ((↑i : Int).toNat * (2 : Nat))).add (1 : Nat)))])
   (.call 16 [(.agg [(.int .i64 (intAt w (((A.getD default).add ((↑i : Int).toNat * (2 : Nat))).add (0 : Nat))) false), (.xs (slA w (((A.getD default).add ((↑i : Int).toNat * (2 : Nat))).add (1 : Nat))) (slN w (((A.getD default).add ((↑i : Int).toNat * (2 : Nat))).add (1 : Nat))) (slC w (((A.getD default).add ((↑i : Int).toNat * (2 : Nat))).add (1 : Nat))))])] (SS.mk [(.cells [(.int .i64 (intAt w (((A.getD default).add ((↑i : Int).toNat * (2 : Nat))).add (0 : Nat))) false), (.xs (slA w (((A.getD default).add ((↑i : Int).toNat * (2 : Nat))).add (1 : Nat))) (slN w (((A.getD default).add ((↑i : Int).toNat * (2 : Nat))).add (1 : Nat))) (slC w (((A.getD default).add ((↑i : Int).toNat * (2 : Nat))).add (1 : Nat))))] 2 35 0 0)] [] true w []) (Hook.X (boolHook)) (Hook.out (boolHook) [(.agg [(.int .i64 (intAt w (((A.getD default).add ((↑i : Int).toNat * (2 : Nat))).add (0 : Nat))) false), (.xs (slA w (((A.getD default).add ((↑i : Int).toNat * (2 : Nat))).add (1 : Nat))) (slN w (((A.getD default).add ((↑i : Int).toNat * (2 : Nat))).add (1 : Nat))) (slC w (((A.getD default).add ((↑i : Int).toNat * (2 : Nat))).add (1 : Nat))))])] (SS.mk [(.cells [(.int .i64 (intAt w (((A.getD default).add ((↑i : Int).toNat * (2 : Nat))).add (0 : Nat))) false), (.xs (slA w (((A.getD default).add ((↑i : Int).toNat * (2 : Nat))).add (1 : Nat))) (slN w (((A.getD default).add ((↑i : Int).toNat * (2 : Nat))).add (1 : Nat))) (slC w (((A.getD default).add ((↑i : Int).toNat * (2 : Nat))).add (1 : Nat))))] 2 35 0 0)] [] true w [])) fun x0 w0 b0 =>
   (.split (!x0)
    (.leaf .ret [(.bool false true)] (SS.mk [(.cells [(.int .i64 (intAt w (((A.getD default).add ((↑i : Int).toNat * (2 : Nat))).add (0 : Nat))) false), (.xs (slA w (((A.getD default).add ((↑i : Int).toNat * (2 : Nat))).add (1 : Nat))) (slN w (((A.getD default).add ((↑i : Int).toNat * (2 : Nat))).add (1 : Nat))) (slC w (((A.getD default).add ((↑i : Int).toNat * (2 : Nat))).add (1 : Nat))))] 2 35 0 0)] [] true w0 b0))
    (.split (intAt w (((A.getD default).add ((↑i : Int).toNat * (2 : Nat))).add (0 : Nat)) == (400 : Int))
     (.split (decide ((↑i : Int) < IntKind.i64.wrap ((↑n : Int) - (1 : Int))))
      (.leaf .ret [(.bool false true)] (SS.mk [(.cells [(.int .i64 (intAt w (((A.getD default).add ((↑i : Int).toNat * (2 : Nat))).add (0 : Nat))) false), (.xs (slA w (((A.getD default).add ((↑i : Int).toNat * (2 : Nat))).add (1 : Nat))) (slN w (((A.getD default).add ((↑i : Int).toNat * (2 : Nat))).add (1 : Nat))) (slC w (((A.getD default).add ((↑i : Int).toNat * (2 : Nat))).add (1 : Nat))))] 2 35 0 0)] [] true w0 b0))
      (.leaf .normal [(.xs A n c), (.xs A n c), (.int .i64 ((↑n : Int)) false), (.int .i64 (IntKind.i64.wrap ((↑i : Int) + (1 : Int))) false)] (SS.mk [(.cells [(.int .i64 (intAt w (((A.getD default).add ((↑i : Int).toNat * (2 : Nat))).add (0 : Nat))) false), (.xs (slA w (((A.getD default).add ((↑i : Int).toNat * (2 : Nat))).add (1 : Nat))) (slN w (((A.getD default).add ((↑i : Int).toNat * (2 : Nat))).add (1 : Nat))) (slC w (((A.getD default).add ((↑i : Int).toNat * (2 : Nat))).add (1 : Nat))))] 2 35 0 0)] [] true w0 b0)))
     (.leaf .normal [(.xs A n c), (.xs A n c), (.int .i64 ((↑n : Int)) false), (.int .i64 (IntKind.i64.wrap ((↑i : Int) + (1 : Int))) false)] (SS.mk [(.cells [(.int .i64 (intAt w (((A.getD default).add ((↑i : Int).toNat * (2 : Nat))).add (0 : Nat))) false), (.xs (slA w (((A.getD default).add ((↑i : Int).toNat * (2 : Nat))).add (1 : Nat))) (slN w (((A.getD default).add ((↑i : Int).toNat * (2 : Nat))).add (1 : Nat))) (slC w (((A.getD default).add ((↑i : Int).toNat * (2 : Nat))).add (1 : Nat))))] 2 35 0 0)] [] true w0 b0))))))))
   (.leaf (.exit 0) [(.xs A n c)] (SS.mk [] [] true w []))) := by kernel_rfl
def L8 : SE → List Nat
  | .normal => [5, 6, 7]
  | .ret => [2]
  | _ => []
def lh8 : LoopHook := mkHook 20 Unit .ret [2] (fun _ => [.bool false true]) Unit (.exit 0) [] (fun _ => [])
def hk8 : Hooks := { calls := fun f => none, loops := fun f k => some lh8 }
def hk8r : Hooks := { calls := fun f => if f = 7 then some boolHook else none, loops := fun f k => none }
set_option maxRecDepth 100000 in
theorem t8 (A : Option Addr) (n c : Nat) (w : World) : xFunc Tryz.prog hk8 1000 8 [.xs A n c] (SS.at w) =
  (.loop 8 (loopOf Tryz.prog 8 3) ([(.xs A n c), (.tup []), (.bool false true), (.tup []), (.tup []), (.xs A n c), (.int .i64 ((↑n : Int)) false), (.int .i64 0 true)] ++ List.replicate 12 undefS) (SS.mk [] [] true w []) (LoopHook.X (lh8)) (LoopHook.out (lh8) ([(.xs A n c), (.tup []), (.bool false true), (.tup []), (.tup []), (.xs A n c), (.int .i64 ((↑n : Int)) false), (.int .i64 0 true)] ++ List.replicate 12 undefS) (SS.mk [] [] true w [])) (fun x0 w0 b0 =>
   (.leaf .ret [(.bool false true)] (SS.mk [] [] true w0 b0)))
  (LoopHook.Y (lh8)) (LoopHook.out' (lh8) ([(.xs A n c), (.tup []), (.bool false true), (.tup []), (.tup []), (.xs A n c), (.int .i64 ((↑n : Int)) false), (.int .i64 0 true)] ++ List.replicate 12 undefS) (SS.mk [] [] true w [])) (fun x0 w0 b0 =>
   (.leaf .ret [(.bool true true)] (SS.mk [] [] true w0 b0)))) := by kernel_rfl
set_option maxRecDepth 100000 in
theorem r8 (A : Option Addr) (n c i : Nat) (w : World) (g : Nat → Value) : xCode Tryz.prog hk8r 1000 8 (loopOf Tryz.prog 8 3) (mkFrame ((L8 .normal).zip [.xs A n c, .int .i64 n false, .int .i64 i false]) g 20 0) (fun e a s => .leaf e (sel L8 e a) s) (SS.at w) =
  (.split (decide ((↑i : Int) < (↑n : Int)))
   (.need ((0 : Int) ≤ (↑i : Int) ∧ (↑i : Int) < (↑n : Int))
   (.need (A.isSome = true)
   (.need (canRead w [] ((A.getD default).add ((↑i : Int).toNat * (1 : Nat))) [SV.xs (slA w (((A.getD default).add ((↑i : Int).toNat * (1 : Nat))).add (0 : Nat))) (slN w (((A.getD default).add ((↑i : Int).toNat * (1 : Nat))).add (0 : Nat))) (slC w (((A.getD default).add ((↑i : Int).toNat * (1 : Nat))).add (0 : Nat)))])
   (.split (decide ((↑(slN w (((A.getD default).add ((↑i : Int).toNat * (1 : Nat))).add (0 : Nat))) : Int) > (0 : Int)))
    (.call 7 [(.xs (slA w (((A.getD default).add ((↑i : Int).toNat * (1 : Nat))).add (0 : Nat))) (slN w (((A.getD default).add ((↑i : Int).toNat * (1 : Nat))).add (0 : Nat))) (slC w (((A.getD default).add ((↑i : Int).toNat * (1 : Nat))).add (0 : Nat))))] (SS.mk [] [] true w []) (Hook.X (boolHook)) (Hook.out (boolHook) [(.xs (slA w (((A.getD default).add ((↑i : Int).toNat * (1 : Nat))).add (0 : Nat))) (slN w (((A.getD default).add ((↑i : Int).toNat * (1 : Nat))).add (0 : Nat))) (slC w (((A.getD default).add ((↑i : Int).toNat * (1 : Nat))).add (0 : Nat))))] (SS.mk [] [] true w [])) fun x0 w0 b0 =>
    (.split (!x0)
     (.leaf .ret [(.bool false true)] (SS.mk [] [] true w0 b0))
     (.leaf .normal [(.xs A n c), (.int .i64 ((↑n : Int)) false), (.int .i64 (IntKind.i64.wrap ((↑i : Int) + (1 : Int))) false)] (SS.mk [] [] true w0 b0))))
    (.leaf .normal [(.xs A n c), (.int .i64 ((↑n : Int)) false), (.int .i64 (IntKind.i64.wrap ((↑i : Int) + (1 : Int))) false)] (SS.mk [] [] true w []))))))
   (.leaf (.exit 0) [] (SS.mk [] [] true w []))) := by kernel_rfl


/-- A bool of which something is known. -/
def BoolQ (R : Bool → Prop) (v : Value) (_ : World) : Prop := ∃ b, v = .bool b ∧ R b

theorem boolCallR {Q : SE → List Value → World → Prop} {s : SS} {w : World} {f : FuncId} {args : List SV} {a0 : List SV} {s0 : SS} {k : Bool → World → List Nat → T} (R : Bool → Prop) (hf : Fine w s) (hs0 : s0.objs = s.objs)
    (hc : ∀ β w0, Below w.heap.size w w0 → St (ctx Tryz.prog Q) β s w0 → Old β s w0 → Calls Tryz.prog f (denL β args).toArray w0 (Ret (BoolQ R) w0))
    (hk : ∀ b w' bs, R b → Below w.heap.size w w' → (∀ b ∈ bs, w.heap.size ≤ b) → (k b w' bs).holds (ctx Tryz.prog Q)) :
    (T.call f args s (Hook.X boolHook) (Hook.out boolHook a0 s0) k).holds (ctx Tryz.prog Q) := by
  refine callF (Γ := ctx Tryz.prog Q) (R := fun x _ _ => R x) hf (fun x => ⟨hs0, trivial⟩) (fun β w0 hst ho hb => ?_) (fun x w0 w' bs _ hr _ hb hbs => hk x w' bs hr hb hbs)
  refine (hc β w0 hb hst ho).mono ?_
  rintro e w' ⟨v, rfl, ⟨b, rfl, hr⟩, hb'⟩
  exact ⟨b, rfl, hb', hr⟩

theorem bytesAt_size (w : World) (A : Option Addr) (n : Nat) : (bytesAt w A n).size = n := by simp [bytesAt, ByteArray.size]

theorem maSimple_c (code : Int) (A : Option Addr) (n c : Nat) (l : List UInt8) (B : Nat) (w : World) (h : Bts w B A n l) (hB : B ≤ w.heap.size) (hn : (n : Int) < 2 ^ 48) :
    Calls Tryz.prog 16 #[.agg #[.int .i64 code, .slice A n c]] w (Ret (BoolQ fun b => b = true → code ∈ table) w) := by
  refine funF (hk := hk16) (n := 1000) (args := [.agg [.int .i64 code false, .xs A n c]]) ⟨⟨trivial, trivial, trivial⟩, trivial⟩ ?_
  rw [t16]
  refine protoCall (Fine.start _ _) rfl (fun x w1 bs hb1 hbs hx => ?_)
  have hcb : canBytes w1 bs A n := (h.below (hb1.mono hB) (Nat.le_refl _)).canBytes (Nat.le_trans hB hb1.size) (fun b hb => Nat.le_trans hB (hbs b hb))
  have hsz := bytesAt_size w1 A n
  refine splitT (fun _ => retF (Fine.mk' hb1 hbs) fun β w' _ _ => ⟨_, rfl, fun h => Bool.noConfusion h⟩) (fun hok => ?_)
  have hin : code ∈ table := hx (by simpa using hok)
  have leaf : ∀ (b l : Bool) (objs : List SObj) (w2 : World) (bs2 : List Nat), Below w.heap.size w w2 → (∀ b ∈ bs2, w.heap.size ≤ b) →
      (T.leaf .ret [.bool b l] (SS.mk objs [] true w2 bs2)).holds (ctx Tryz.prog (retQ fun v w' => BoolQ (fun b => b = true → code ∈ table) v w' ∧ Below w.heap.size w w')) :=
    fun b l objs w2 bs2 h1 h2 => retF (Fine.mk' h1 h2) fun β w' _ _ => ⟨_, rfl, fun _ => hin⟩
  repeat' (refine splitT (fun _ => ?_) (fun _ => ?_))
  all_goals first
    | exact leaf _ _ _ _ _ hb1 hbs
    | (refine needT hcb (boolCall (Fine.mk' hb1 hbs) rfl (fun β w2 hb2 _ _ => maPath_c _ _ (by omega)) (fun b w2 bs2 hb2 hbs2 => leaf _ _ _ _ _ hb2 hbs2)))
    | (refine needT hcb (boolCall (Fine.mk' hb1 hbs) rfl (fun β w2 hb2 _ _ => maPlain_c _ _ (by omega)) (fun b w2 bs2 hb2 hbs2 => leaf _ _ _ _ _ hb2 hbs2)))

/-- A list of components all of whose codes are in the table. -/
def AllIn (l : List Comp) : Prop := ∀ c ∈ l, c.code ∈ table

theorem maAddress_c (A : Option Addr) (n c : Nat) (l : List Comp) (B : Nat) (w : World) (h : CompsAt w B A n l) (hB : B ≤ w.heap.size) (hn : (n : Int) < 2 ^ 48) :
    Calls Tryz.prog 7 #[.slice A n c] w (Ret (BoolQ fun b => b = true → AllIn l ∧ n ≤ 12 ∧ 1 ≤ n) w) := by
  refine funF (hk := hk7 A n c) (n := 1000) (args := [.xs A n c]) ⟨trivial, trivial⟩ ?_
  rw [t7]
  refine loopG (Fine.start _ _) L7 (α := Nat) (fun i => [.xs A n c, .xs A n c, .int .i64 n false, .int .i64 i false]) (fun i => n - i) (fun _ i _ => i ≤ n ∧ ∀ c ∈ l.take i, c.code ∈ table)
    (fun _ e lv _ => (e = .ret ∧ lv = [.bool false]) ∨ (e = .exit 0 ∧ lv = [.slice A n c] ∧ AllIn l)) (fun _ => hk7r) 1000 (by simp) (by simp [L7]) (by simp [L7]) (fun _ => ⟨trivial, trivial, trivial, trivial, trivial⟩) rfl rfl rfl
    (by simp) (by simp) (fun _ => ⟨trivial, trivial⟩) (fun _ => ⟨trivial, trivial⟩) ?_ ?_ ?_
  · rintro w0 i w1 g _ ⟨hi, hall⟩ hb0 hbw
    refine holds_eq (r7 A n c i w1 g) ?_
    have hlen := h.1
    refine splitT (fun hlt => ?_) (fun hge => exitF (Fine.nil hb0) (by simp) fun β w' _ _ => .inr ⟨rfl, rfl, ?_⟩)
    rotate_left
    · have : i = n := by
        have : ¬ i < n := by simpa using hge
        omega
      rw [List.take_of_length_le (by omega)] at hall
      exact hall
    have hlt' : i < n := by simpa using hlt
    have hB1 : B ≤ w1.heap.size := Nat.le_trans hB hbw.size
    obtain ⟨ad, x, rfl, had, hx, hR⟩ := (h.below (hbw.mono hB) (Nat.le_refl _)).get hlt'
    obtain ⟨f1, f2, f3⟩ := hR.facts
    refine needT (by omega) (needT rfl (needT (hR.canRead hB1 (by simp)) ?_))
    refine boolCallR (fun b => b = true → intAt w1 ((ad.add (i * 2)).add 0) ∈ table) (Fine.start w1 _) rfl (fun β w2 hb2 _ _ => ?_) (fun b w2 bs hb hb2 hbs => ?_)
    · exact maSimple_c _ _ _ _ _ B w2 (f2.below (hb2.mono hB1) (Nat.le_refl _)) (Nat.le_trans hB1 hb2.size) f3
    · have hf : ∀ objs, Fine w0 (SS.mk objs [] true w2 bs) := fun objs => Fine.mk' (hb0.trans (hb2.mono hb0.size)) (fun b hb => Nat.le_trans hb0.size (hbs b hb))
      have hnext : ∀ β : Nat → Nat, b = true → ∃ y, n - y < n - i ∧ denL β [(.xs (some ad) n c), (.xs (some ad) n c), (.int .i64 (n : Int) false), (.int .i64 (IntKind.i64.wrap ((i : Int) + 1)) false)] = denL id [.xs (some ad) n c, .xs (some ad) n c, .int .i64 n false, .int .i64 (y : Nat) false] ∧ y ≤ n ∧ ∀ c ∈ l.take y, c.code ∈ table := by
        intro β hbt
        refine ⟨i + 1, by omega, ?_, by omega, ?_⟩
        · rw [next_i hlt' (by omega)]; rfl
        · intro c hc
          rw [List.take_add_one, hx] at hc
          rcases List.mem_append.1 hc with hc | hc
          · exact hall c hc
          · simp at hc
            subst hc
            exact f1 ▸ hb hbt
      refine splitT (fun _ => exitF (hf _) (by simp) fun β w' _ _ => .inl ⟨rfl, rfl⟩) (fun hnb => ?_)
      have hbt : b = true := by simpa using hnb
      refine splitT (fun _ => splitT (fun _ => exitF (hf _) (by simp) fun β w' _ _ => .inl ⟨rfl, rfl⟩) (fun _ => nextF (hf _) fun β w' _ _ => hnext β hbt)) (fun _ => nextF (hf _) fun β w' _ _ => hnext β hbt)
  · intro β w0 hst hb
    exact ⟨0, rfl, Nat.zero_le _, by simp⟩
  · rintro β w0 hst hb e lv w' (⟨rfl, rfl⟩ | ⟨rfl, rfl, hall⟩) hb0 hb1
    · exact .inl ⟨(), rfl, rfl, fun g bs hbs => retF (Fine.mk' hb1 hbs) fun β w' _ _ => ⟨_, rfl, fun h => Bool.noConfusion h⟩⟩
    · refine .inr ⟨(), rfl, rfl, fun g bs hbs => splitT (fun h1 => ?_) (fun _ => retF (Fine.mk' hb1 hbs) fun β w' _ _ => ⟨_, rfl, fun h => Bool.noConfusion h⟩)⟩
      refine retF (Fine.mk' hb1 hbs) fun β w' _ _ => ⟨_, rfl, fun h2 => ⟨hall, ?_, ?_⟩⟩
      · have := of_decide_eq_true h2; omega
      · have := of_decide_eq_true h1; omega

/-- Empty, or simple. -/
def EmptyOrIn (l : List Comp) : Prop := AllIn l ∧ l.length ≤ 12

theorem maSimpleL_c (A : Option Addr) (n c : Nat) (L : List (List Comp)) (B : Nat) (w : World) (h : ListsAt w B A n L) (hB : B ≤ w.heap.size) (hn : (n : Int) < 2 ^ 48) :
    Calls Tryz.prog 8 #[.slice A n c] w (Ret (BoolQ fun b => b = true → ∀ l ∈ L, EmptyOrIn l) w) := by
  refine funF (hk := hk8) (n := 1000) (args := [.xs A n c]) ⟨trivial, trivial⟩ ?_
  rw [t8]
  refine loopG (Fine.start _ _) L8 (α := Nat) (fun i => [.xs A n c, .int .i64 n false, .int .i64 i false]) (fun i => n - i) (fun _ i _ => i ≤ n ∧ ∀ l ∈ L.take i, EmptyOrIn l)
    (fun _ e lv _ => (e = .ret ∧ lv = [.bool false]) ∨ (e = .exit 0 ∧ lv = [] ∧ ∀ l ∈ L, EmptyOrIn l)) (fun _ => hk8r) 1000 (by simp) (by simp [L8]) (by simp [L8]) (fun _ => ⟨trivial, trivial, trivial, trivial⟩) rfl rfl rfl
    (by simp) (by simp) (fun _ => ⟨trivial, trivial⟩) (fun _ => trivial) ?_ ?_ ?_
  · rintro w0 i w1 g _ ⟨hi, hall⟩ hb0 hbw
    refine holds_eq (r8 A n c i w1 g) ?_
    have hlen := h.1
    refine splitT (fun hlt => ?_) (fun hge => exitF (Fine.nil hb0) (by simp) fun β w' _ _ => .inr ⟨rfl, rfl, ?_⟩)
    rotate_left
    · have : i = n := by
        have : ¬ i < n := by simpa using hge
        omega
      rw [List.take_of_length_le (by omega)] at hall
      exact hall
    have hlt' : i < n := by simpa using hlt
    have hB1 : B ≤ w1.heap.size := Nat.le_trans hB hbw.size
    obtain ⟨ad, x, rfl, had, hx, hR⟩ := (h.below (hbw.mono hB) (Nat.le_refl _)).get hlt'
    obtain ⟨f1, f2⟩ := hR.facts
    have hnext : ∀ β : Nat → Nat, EmptyOrIn x → ∃ y, n - y < n - i ∧ denL β [(.xs (some ad) n c), (.int .i64 (n : Int) false), (.int .i64 (IntKind.i64.wrap ((i : Int) + 1)) false)] = denL id [.xs (some ad) n c, .int .i64 n false, .int .i64 (y : Nat) false] ∧ y ≤ n ∧ ∀ l ∈ L.take y, EmptyOrIn l := by
      intro β hbt
      refine ⟨i + 1, by omega, ?_, by omega, ?_⟩
      · rw [next_i hlt' (by omega)]; rfl
      · intro c hc
        rw [List.take_add_one, hx] at hc
        rcases List.mem_append.1 hc with hc | hc
        · exact hall c hc
        · simp at hc
          subst hc
          exact hbt
    refine needT (by omega) (needT rfl (needT (hR.canRead hB1 (by simp)) ?_))
    refine splitT (fun _ => ?_) (fun h0 => nextF (Fine.nil hb0) fun β w' _ _ => hnext β ?_)
    rotate_left
    · have h0' := of_decide_eq_false h0
      have h1 := f1.1
      have : x = [] := List.eq_nil_of_length_eq_zero (by
        have h2 : ¬ ((slN w1 ((ad.add (i * 1)).add 0) : Nat) : Int) > 0 := h0'
        omega)
      subst this
      exact ⟨by simp [AllIn], by simp⟩
    refine boolCallR (fun b => b = true → AllIn x ∧ slN w1 ((ad.add (i * 1)).add 0) ≤ 12 ∧ 1 ≤ slN w1 ((ad.add (i * 1)).add 0)) (Fine.at w1) rfl (fun β w2 hb2 _ _ => maAddress_c _ _ _ _ B w2 (f1.below (hb2.mono hB1) (Nat.le_refl _)) (Nat.le_trans hB1 hb2.size) f2) (fun b w2 bs hb hb2 hbs => ?_)
    have hf : Fine w0 (SS.mk [] [] true w2 bs) := Fine.mk' (hb0.trans (hb2.mono hb0.size)) (fun b hb => Nat.le_trans hb0.size (hbs b hb))
    refine splitT (fun _ => exitF hf (by simp) fun β w' _ _ => .inl ⟨rfl, rfl⟩) (fun hnb => nextF hf fun β w' _ _ => hnext β ?_)
    have hbt : b = true := by simpa using hnb
    obtain ⟨g1, g2, _⟩ := hb hbt
    exact ⟨g1, by rw [← f1.1]; exact g2⟩
  · intro β w0 hst hb
    exact ⟨0, rfl, Nat.zero_le _, by simp⟩
  · rintro β w0 hst hb e lv w' (⟨rfl, rfl⟩ | ⟨rfl, rfl, hall⟩) hb0 hb1
    · exact .inl ⟨(), rfl, rfl, fun g bs hbs => retF (Fine.mk' hb1 hbs) fun β w' _ _ => ⟨_, rfl, fun h => Bool.noConfusion h⟩⟩
    · exact .inr ⟨(), rfl, rfl, fun g bs hbs => retF (Fine.mk' hb1 hbs) fun β w' _ _ => ⟨_, rfl, fun _ => hall⟩⟩

end Go.Proofs.YtdmnoagahjbjhaaGreatDoor
