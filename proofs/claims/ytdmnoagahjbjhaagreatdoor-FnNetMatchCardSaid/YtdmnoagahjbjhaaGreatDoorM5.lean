/- Comparing: NetCodes, MaSame, MaAlike. -/
import Derived.Test.YtdmnoagahjbjhaaGreatDoorM4
set_option linter.unusedVariables false
set_option maxRecDepth 20000
namespace Go.Proofs.YtdmnoagahjbjhaaGreatDoor
open Go Go.Rx Go.RowKit

def L10 : SE → List Nat
  | .normal => [0, 1, 11, 12, 13]
  | .ret => [4]
  | _ => []
def lh10 : LoopHook := mkHook 28 Unit .ret [4] (fun _ => [.bool false true]) Unit (.exit 0) [] (fun _ => [])
def hk10 : Hooks := { calls := fun f => none, loops := fun f k => some lh10 }
set_option maxRecDepth 100000 in
theorem t10 (A : Option Addr) (n c : Nat) (A' : Option Addr) (n' c' : Nat) (w : World) : xFunc Tryz.prog hk10 1000 10 [.xs A n c, .xs A' n' c'] (SS.at w) =
  (.split ((↑n : Int) != (↑n' : Int))
   (.leaf .ret [(.bool false true)] (SS.mk [] [] true w []))
   (.loop 10 (loopOf Tryz.prog 10 5) ([(.xs A n c), (.xs A' n' c'), (.tup []), (.tup []), (.bool false true), (.tup []), (.xs A n c), (.int .i64 ((↑n : Int)) false), (.xs A' n' c'), (.int .i64 ((↑n' : Int)) false), (.bool false true), (.xs A n c), (.int .i64 ((↑n : Int)) false), (.int .i64 0 true)] ++ List.replicate 14 undefS) (SS.mk [] [] true w []) (LoopHook.X (lh10)) (LoopHook.out (lh10) ([(.xs A n c), (.xs A' n' c'), (.tup []), (.tup []), (.bool false true), (.tup []), (.xs A n c), (.int .i64 ((↑n : Int)) false), (.xs A' n' c'), (.int .i64 ((↑n' : Int)) false), (.bool false true), (.xs A n c), (.int .i64 ((↑n : Int)) false), (.int .i64 0 true)] ++ List.replicate 14 undefS) (SS.mk [] [] true w [])) (fun x0 w0 b0 =>
    (.leaf .ret [(.bool false true)] (SS.mk [] [] true w0 b0)))
   (LoopHook.Y (lh10)) (LoopHook.out' (lh10) ([(.xs A n c), (.xs A' n' c'), (.tup []), (.tup []), (.bool false true), (.tup []), (.xs A n c), (.int .i64 ((↑n : Int)) false), (.xs A' n' c'), (.int .i64 ((↑n' : Int)) false), (.bool false true), (.xs A n c), (.int .i64 ((↑n : Int)) false), (.int .i64 0 true)] ++ List.replicate 14 undefS) (SS.mk [] [] true w [])) (fun x0 w0 b0 =>
    (.leaf .ret [(.bool true true)] (SS.mk [] [] true w0 b0))))) := by kernel_rfl
set_option maxRecDepth 100000 in
theorem r10 (A : Option Addr) (n c : Nat) (A' : Option Addr) (n' c' i : Nat) (w : World) (g : Nat → Value) : xCode Tryz.prog noHk 1000 10 (loopOf Tryz.prog 10 5) (mkFrame ((L10 .normal).zip [.xs A n c, .xs A' n' c', .xs A n c, .int .i64 n false, .int .i64 i false]) g 28 0) (fun e a s => .leaf e (sel L10 e a) s) (SS.at w) =
  (.split (decide ((↑i : Int) < (↑n : Int)))
   (.need ((0 : Int) ≤ (↑i : Int) ∧ (↑i : Int) < (↑n : Int))
   (.need (A.isSome = true)
   (.need (canRead w [] (((A.getD default).add ((↑i : Int).toNat * (2 : Nat))).add (0 : Nat)) [SV.int IntKind.i64 (intAt w ((((A.getD default).add ((↑i : Int).toNat * (2 : Nat))).add (0 : Nat)).add (0 : Nat))) false])
   (.need ((0 : Int) ≤ (↑i : Int) ∧ (↑i : Int) < (↑n' : Int))
   (.need (A'.isSome = true)
   (.need (canRead w [] (((A'.getD default).add ((↑i : Int).toNat * (2 : Nat))).add (0 : Nat)) [SV.int IntKind.i64 (intAt w ((((A'.getD default).add ((↑i : Int).toNat * (2 : Nat))).add (0 : Nat)).add (0 : Nat))) false])
   (.split (intAt w ((((A.getD default).add ((↑i : Int).toNat * (2 : Nat))).add (0 : Nat)).add (0 : Nat)) != intAt w ((((A'.getD default).add ((↑i : Int).toNat * (2 : Nat))).add (0 : Nat)).add (0 : Nat)))
    (.leaf .ret [(.bool false true)] (SS.mk [] [] true w []))
    (.leaf .normal [(.xs A n c), (.xs A' n' c'), (.xs A n c), (.int .i64 ((↑n : Int)) false), (.int .i64 (IntKind.i64.wrap ((↑i : Int) + (1 : Int))) false)] (SS.mk [] [] true w [])))))))))
   (.leaf (.exit 0) [] (SS.mk [] [] true w []))) := by kernel_rfl
def lh12 : LoopHook := mkHook 27 Unit .ret [4] (fun _ => [.bool false true]) Unit (.exit 0) [] (fun _ => [])
def hk12 : Hooks := { calls := fun f => none, loops := fun f k => some lh12 }
set_option maxRecDepth 100000 in
theorem t12 (A : Option Addr) (n c : Nat) (A' : Option Addr) (n' c' : Nat) (w : World) : xFunc Tryz.prog hk12 1000 12 [.xs A n c, .xs A' n' c'] (SS.at w) =
  (.split ((↑n : Int) != (↑n' : Int))
   (.leaf .ret [(.bool false true)] (SS.mk [] [] true w []))
   (.loop 12 (loopOf Tryz.prog 12 5) ([(.xs A n c), (.xs A' n' c'), (.tup []), (.tup []), (.bool false true), (.tup []), (.xs A n c), (.int .i64 ((↑n : Int)) false), (.xs A' n' c'), (.int .i64 ((↑n' : Int)) false), (.bool false true), (.xs A n c), (.int .i64 ((↑n : Int)) false), (.int .i64 0 true)] ++ List.replicate 13 undefS) (SS.mk [] [] true w []) (LoopHook.X (lh12)) (LoopHook.out (lh12) ([(.xs A n c), (.xs A' n' c'), (.tup []), (.tup []), (.bool false true), (.tup []), (.xs A n c), (.int .i64 ((↑n : Int)) false), (.xs A' n' c'), (.int .i64 ((↑n' : Int)) false), (.bool false true), (.xs A n c), (.int .i64 ((↑n : Int)) false), (.int .i64 0 true)] ++ List.replicate 13 undefS) (SS.mk [] [] true w [])) (fun x0 w0 b0 =>
    (.leaf .ret [(.bool false true)] (SS.mk [] [] true w0 b0)))
   (LoopHook.Y (lh12)) (LoopHook.out' (lh12) ([(.xs A n c), (.xs A' n' c'), (.tup []), (.tup []), (.bool false true), (.tup []), (.xs A n c), (.int .i64 ((↑n : Int)) false), (.xs A' n' c'), (.int .i64 ((↑n' : Int)) false), (.bool false true), (.xs A n c), (.int .i64 ((↑n : Int)) false), (.int .i64 0 true)] ++ List.replicate 13 undefS) (SS.mk [] [] true w [])) (fun x0 w0 b0 =>
    (.leaf .ret [(.bool true true)] (SS.mk [] [] true w0 b0))))) := by kernel_rfl
set_option maxRecDepth 100000 in
theorem r12 (A : Option Addr) (n c : Nat) (A' : Option Addr) (n' c' i : Nat) (w : World) (g : Nat → Value) : xCode Tryz.prog noHk 1000 12 (loopOf Tryz.prog 12 5) (mkFrame ((L10 .normal).zip [.xs A n c, .xs A' n' c', .xs A n c, .int .i64 n false, .int .i64 i false]) g 27 0) (fun e a s => .leaf e (sel L10 e a) s) (SS.at w) =
  (.split (decide ((↑i : Int) < (↑n : Int)))
   (.need ((0 : Int) ≤ (↑i : Int) ∧ (↑i : Int) < (↑n : Int))
   (.need (A.isSome = true)
   (.need (canRead w [] ((A.getD default).add ((↑i : Int).toNat * (2 : Nat))) [SV.int IntKind.i64 (intAt w (((A.getD default).add ((↑i : Int).toNat * (2 : Nat))).add (0 : Nat))) false, SV.xs (slA w (((A.getD default).add ((↑i : Int).toNat * (2 : Nat))).add (1 : Nat))) (slN w (((A.getD default).add ((↑i : Int).toNat * (2 : Nat))).add (1 : Nat))) (slC w (((A.getD default).add ((↑i : Int).toNat * (2 : Nat))).add (1 : Nat)))])
   (.need ((0 : Int) ≤ (↑i : Int) ∧ (↑i : Int) < (↑n' : Int))
   (.need (A'.isSome = true)
   (.need (canRead w [] ((A'.getD default).add ((↑i : Int).toNat * (2 : Nat))) [SV.int IntKind.i64 (intAt w (((A'.getD default).add ((↑i : Int).toNat * (2 : Nat))).add (0 : Nat))) false, SV.xs (slA w (((A'.getD default).add ((↑i : Int).toNat * (2 : Nat))).add (1 : Nat))) (slN w (((A'.getD default).add ((↑i : Int).toNat * (2 : Nat))).add (1 : Nat))) (slC w (((A'.getD default).add ((↑i : Int).toNat * (2 : Nat))).add (1 : Nat)))])
   (.split (intAt w (((A.getD default).add ((↑i : Int).toNat * (2 : Nat))).add (0 : Nat)) == intAt w (((A'.getD default).add ((↑i : Int).toNat * (2 : Nat))).add (0 : Nat)))
    (.need (canBytes w [] (slA w (((A.getD default).add ((↑i : Int).toNat * (2 : Nat))).add (1 : Nat))) (slN w (((A.getD default).add ((↑i : Int).toNat * (2 : Nat))).add (1 : Nat))))
    (.need (canBytes w [] (slA w (((A'.getD default).add ((↑i : Int).toNat * (2 : Nat))).add (1 : Nat))) (slN w (((A'.getD default).add ((↑i : Int).toNat * (2 : Nat))).add (1 : Nat))))
    (.split (!(bytesAt w (slA w (((A.getD default).add ((↑i : Int).toNat * (2 : Nat))).add (1 : Nat))) (slN w (((A.getD default).add ((↑i : Int).toNat * (2 : Nat))).add (1 : Nat)))).toList == (bytesAt w (slA w (((A'.getD default).add ((↑i : Int).toNat * (2 : Nat))).add (1 : Nat))) (slN w (((A'.getD default).add ((↑i : Int).toNat * (2 : Nat))).add (1 : Nat)))).toList)
     (.leaf .ret [(.bool false true)] (SS.mk [(.cells [(.int .i64 (intAt w (((A.getD default).add ((↑i : Int).toNat * (2 : Nat))).add (0 : Nat))) false), (.xs (slA w (((A.getD default).add ((↑i : Int).toNat * (2 : Nat))).add (1 : Nat))) (slN w (((A.getD default).add ((↑i : Int).toNat * (2 : Nat))).add (1 : Nat))) (slC w (((A.getD default).add ((↑i : Int).toNat * (2 : Nat))).add (1 : Nat))))] 2 35 0 0), (.cells [(.int .i64 (intAt w (((A'.getD default).add ((↑i : Int).toNat * (2 : Nat))).add (0 : Nat))) false), (.xs (slA w (((A'.getD default).add ((↑i : Int).toNat * (2 : Nat))).add (1 : Nat))) (slN w (((A'.getD default).add ((↑i : Int).toNat * (2 : Nat))).add (1 : Nat))) (slC w (((A'.getD default).add ((↑i : Int).toNat * (2 : Nat))).add (1 : Nat))))] 2 35 0 0)] [] true w []))
     (.leaf .normal [(.xs A n c), (.xs A' n' c'), (.xs A n c), (.int .i64 ((↑n : Int)) false), (.int .i64 (IntKind.i64.wrap ((↑i : Int) + (1 : Int))) false)] (SS.mk [(.cells [(.int .i64 (intAt w (((A.getD default).add ((↑i : Int).toNat * (2 : Nat))).add (0 : Nat))) false), (.xs (slA w (((A.getD default).add ((↑i : Int).toNat * (2 : Nat))).add (1 : Nat))) (slN w (((A.getD default).add ((↑i : Int).toNat * (2 : Nat))).add (1 : Nat))) (slC w (((A.getD default).add ((↑i : Int).toNat * (2 : Nat))).add (1 : Nat))))] 2 35 0 0), (.cells [(.int .i64 (intAt w (((A'.getD default).add ((↑i : Int).toNat * (2 : Nat))).add (0 : Nat))) false), (.xs (slA w (((A'.getD default).add ((↑i : Int).toNat * (2 : Nat))).add (1 : Nat))) (slN w (((A'.getD default).add ((↑i : Int).toNat * (2 : Nat))).add (1 : Nat))) (slC w (((A'.getD default).add ((↑i : Int).toNat * (2 : Nat))).add (1 : Nat))))] 2 35 0 0)] [] true w [])))))
    (.leaf .ret [(.bool false true)] (SS.mk [(.cells [(.int .i64 (intAt w (((A.getD default).add ((↑i : Int).toNat * (2 : Nat))).add (0 : Nat))) false), (.xs (slA w (((A.getD default).add ((↑i : Int).toNat * (2 : Nat))).add (1 : Nat))) (slN w (((A.getD default).add ((↑i : Int).toNat * (2 : Nat))).add (1 : Nat))) (slC w (((A.getD default).add ((↑i : Int).toNat * (2 : Nat))).add (1 : Nat))))] 2 35 0 0), (.cells [(.int .i64 (intAt w (((A'.getD default).add ((↑i : Int).toNat * (2 : Nat))).add (0 : Nat))) false), (.xs (slA w (((A'.getD default).add ((↑i : Int).toNat * (2 : Nat))).add (1 : Nat))) (slN w (((A'.getD default).add ((↑i : Int).toNat * (2 : Nat))).add (1 : Nat))) (slC w (((A'.getD default).add ((↑i : Int).toNat * (2 : Nat))).add (1 : Nat))))] 2 35 0 0)] [] true w [])))))))))
   (.leaf (.exit 0) [] (SS.mk [] [] true w []))) := by kernel_rfl


theorem compCode {w : World} {B : Nat} {a : Addr} {c : Comp} (h : CompAt w B a c) (hB : B ≤ w.heap.size) {pre : List Nat} (hp : ∀ b ∈ pre, B ≤ b) :
    canRead w pre (a.add 0) [SV.int IntKind.i64 (intAt w ((a.add 0).add 0)) false] := by
  obtain ⟨h1, h2, _⟩ := h
  refine ⟨by rw [add_block]; omega, fun hm => by rw [add_block] at hm; have := hp _ hm; omega, fun j v hj => ?_⟩
  match j, hj with
  | 0, hj =>
    simp only [List.getElem?_cons_zero, Option.some.injEq] at hj
    subst hj
    simp [SV.den, intAt, add_zero, h2]
  | j + 1, hj => simp at hj

def codes (l : List Comp) : List Int := l.map (·.code)

theorem netCodes_c (A : Option Addr) (n c : Nat) (A' : Option Addr) (n' c' : Nat) (l l' : List Comp) (B : Nat) (w : World) (h : CompsAt w B A n l) (h' : CompsAt w B A' n' l') (hB : B ≤ w.heap.size) (hn : (n : Int) < 2 ^ 48) :
    Calls Tryz.prog 10 #[.slice A n c, .slice A' n' c'] w (Ret (BoolQ fun b => b = true ↔ codes l = codes l') w) := by
  have hl := h.1
  have hl' := h'.1
  refine funF (hk := hk10) (n := 1000) (args := [.xs A n c, .xs A' n' c']) ⟨trivial, trivial, trivial⟩ ?_
  rw [t10]
  refine splitT (fun hne => retF (Fine.start _ _) fun β w' _ _ => ⟨_, rfl, ⟨fun h => Bool.noConfusion h, fun he => ?_⟩⟩) (fun heq => ?_)
  · have := congrArg List.length he
    simp only [codes, List.length_map] at this
    simp at hne
    omega
  have hnn : n = n' := by have : (n : Int) = n' := by simpa using heq
                          omega
  subst hnn
  refine loopG (Fine.start _ _) L10 (α := Nat) (fun i => [.xs A n c, .xs A' n c', .xs A n c, .int .i64 n false, .int .i64 i false]) (fun i => n - i) (fun _ i _ => i ≤ n ∧ codes (l.take i) = codes (l'.take i))
    (fun _ e lv _ => (e = .ret ∧ lv = [.bool false] ∧ codes l ≠ codes l') ∨ (e = .exit 0 ∧ lv = [] ∧ codes l = codes l')) (fun _ => noHk) 1000 (by simp) (by simp [L10]) (by simp [L10]) (fun _ => ⟨trivial, trivial, trivial, trivial, trivial, trivial⟩) rfl rfl rfl
    (by simp) (by simp) (fun _ => ⟨trivial, trivial⟩) (fun _ => trivial) ?_ ?_ ?_
  · rintro w0 i w1 g _ ⟨hi, hall⟩ hb0 hbw
    refine holds_eq (r10 A n c A' n c' i w1 g) ?_
    refine splitT (fun hlt => ?_) (fun hge => exitF (Fine.nil hb0) (by simp) fun β w' _ _ => .inr ⟨rfl, rfl, ?_⟩)
    rotate_left
    · have : i = n := by
        have : ¬ i < n := by simpa using hge
        omega
      rw [List.take_of_length_le (by omega), List.take_of_length_le (by omega)] at hall
      exact hall
    have hlt' : i < n := by simpa using hlt
    have hB1 : B ≤ w1.heap.size := Nat.le_trans hB hbw.size
    obtain ⟨ad, x, rfl, had, hx, hR⟩ := (h.below (hbw.mono hB) (Nat.le_refl _)).get hlt'
    obtain ⟨ad', x', rfl, had', hx', hR'⟩ := (h'.below (hbw.mono hB) (Nat.le_refl _)).get hlt'
    refine needT (by omega) (needT rfl (needT (compCode hR hB1 (by simp)) (needT (by omega) (needT rfl (needT (compCode hR' hB1 (by simp)) ?_)))))
    have e1 : intAt w1 (((((some ad).getD default).add ((i : Int).toNat * 2)).add 0).add 0) = x.code := hR.facts.1
    have e2 : intAt w1 (((((some ad').getD default).add ((i : Int).toNat * 2)).add 0).add 0) = x'.code := hR'.facts.1
    rw [e1, e2]
    refine splitT (fun hne => exitF (Fine.nil hb0) (by simp) fun β w' _ _ => .inl ⟨rfl, rfl, fun he => ?_⟩) (fun he => nextF (Fine.nil hb0) fun β w' _ _ => ⟨i + 1, by omega, ?_, by omega, ?_⟩)
    · have h1 := congrArg (fun l => l[i]?) he
      simp [codes, hx, hx'] at h1
      simp [h1] at hne
    · rw [next_i hlt' (by omega)]; rfl
    · have : x.code = x'.code := by simpa using he
      rw [List.take_add_one, List.take_add_one, hx, hx']
      simp only [codes, List.map_append] at hall ⊢
      rw [hall]
      simp [this]
  · intro β w0 hst hb
    exact ⟨0, rfl, Nat.zero_le _, by simp⟩
  · rintro β w0 hst hb e lv w' (⟨rfl, rfl, hne⟩ | ⟨rfl, rfl, he⟩) hb0 hb1
    · exact .inl ⟨(), rfl, rfl, fun g bs hbs => retF (Fine.mk' hb1 hbs) fun β w' _ _ => ⟨_, rfl, ⟨fun h => Bool.noConfusion h, fun he => absurd he hne⟩⟩⟩
    · exact .inr ⟨(), rfl, rfl, fun g bs hbs => retF (Fine.mk' hb1 hbs) fun β w' _ _ => ⟨_, rfl, ⟨fun _ => he, fun _ => rfl⟩⟩⟩

theorem maAlike_c (A : Option Addr) (n c : Nat) (A' : Option Addr) (n' c' : Nat) (l : List Comp) (B : Nat) (w : World) (h : CompsAt w B A n l) (h' : CompsAt w B A' n' l) (hB : B ≤ w.heap.size) (hn : (n : Int) < 2 ^ 48) :
    Calls Tryz.prog 12 #[.slice A n c, .slice A' n' c'] w (Ret (BoolQ fun b => b = true) w) := by
  have hnn : n = n' := by rw [h.1, h'.1]
  subst hnn
  refine funF (hk := hk12) (n := 1000) (args := [.xs A n c, .xs A' n c']) ⟨trivial, trivial, trivial⟩ ?_
  rw [t12]
  refine splitT (fun hne => by simp at hne) (fun heq => ?_)
  refine loopG (Fine.start _ _) L10 (α := Nat) (fun i => [.xs A n c, .xs A' n c', .xs A n c, .int .i64 n false, .int .i64 i false]) (fun i => n - i) (fun _ i _ => i ≤ n)
    (fun _ e lv _ => e = .exit 0 ∧ lv = []) (fun _ => noHk) 1000 (by simp) (by simp [L10]) (by simp [L10]) (fun _ => ⟨trivial, trivial, trivial, trivial, trivial, trivial⟩) rfl rfl rfl
    (by simp) (by simp) (fun _ => ⟨trivial, trivial⟩) (fun _ => trivial) ?_ ?_ ?_
  · rintro w0 i w1 g _ hi hb0 hbw
    refine holds_eq (r12 A n c A' n c' i w1 g) ?_
    refine splitT (fun hlt => ?_) (fun hge => exitF (Fine.nil hb0) (by simp) fun β w' _ _ => ⟨rfl, rfl⟩)
    have hlt' : i < n := by simpa using hlt
    have hB1 : B ≤ w1.heap.size := Nat.le_trans hB hbw.size
    obtain ⟨ad, x, rfl, had, hx, hR⟩ := (h.below (hbw.mono hB) (Nat.le_refl _)).get hlt'
    obtain ⟨ad', x', rfl, had', hx', hR'⟩ := (h'.below (hbw.mono hB) (Nat.le_refl _)).get hlt'
    rw [hx] at hx'
    cases hx'
    obtain ⟨f1, f2, f3⟩ := hR.facts
    obtain ⟨f1', f2', f3'⟩ := hR'.facts
    refine needT (by omega) (needT rfl (needT (hR.canRead hB1 (by simp)) (needT (by omega) (needT rfl (needT (hR'.canRead hB1 (by simp)) ?_)))))
    have e1 : intAt w1 ((((some ad).getD default).add ((i : Int).toNat * 2)).add 0) = x.code := f1
    have e2 : intAt w1 ((((some ad').getD default).add ((i : Int).toNat * 2)).add 0) = x.code := f1'
    rw [e1, e2]
    refine splitT (fun _ => needT (f2.canBytes hB1 (by simp)) (needT (f2'.canBytes hB1 (by simp)) ?_)) (fun hne => by simp at hne)
    have e3 := f2.bytesAt
    have e4 := f2'.bytesAt
    refine splitT (fun hne => ?_) (fun _ => nextF (Fine.nil hb0) fun β w' _ _ => ⟨i + 1, by omega, ?_, by omega⟩)
    · exfalso
      have : bytesAt w1 (slA w1 ((ad.add (i * 2)).add 1)) (slN w1 ((ad.add (i * 2)).add 1)) = bytesAt w1 (slA w1 ((ad'.add (i * 2)).add 1)) (slN w1 ((ad'.add (i * 2)).add 1)) := by rw [e3, e4]
      have h2 : (!(bytesAt w1 (slA w1 ((ad.add (i * 2)).add 1)) (slN w1 ((ad.add (i * 2)).add 1))).toList == (bytesAt w1 (slA w1 ((ad'.add (i * 2)).add 1)) (slN w1 ((ad'.add (i * 2)).add 1))).toList) = true := hne
      rw [this] at h2
      simp at h2
    · rw [next_i hlt' (by omega)]; rfl
  · intro β w0 hst hb
    exact ⟨0, rfl, Nat.zero_le _⟩
  · rintro β w0 hst hb e lv w' ⟨rfl, rfl⟩ hb0 hb1
    exact .inr ⟨(), rfl, rfl, fun g bs hbs => retF (Fine.mk' hb1 hbs) fun β w' _ _ => ⟨_, rfl, rfl⟩⟩

end Go.Proofs.YtdmnoagahjbjhaaGreatDoor
