/- NetToIP. -/
import Derived.Test.YtdmnoagahjbjhaaGreatDoorM15
set_option linter.unusedVariables false
set_option linter.unusedSimpArgs false
set_option maxRecDepth 20000
namespace Go.Proofs.YtdmnoagahjbjhaaGreatDoor
open Go Go.Rx Go.RowKit
@[reducible] def ipHook : Hook := { X := UV, out := fun _ s x => (.tup [.xs x.A x.k x.c, .one .nilIface rfl], s.objs) }
def hk18 : Hooks := { calls := fun f => if f = 23 then some uvHook else if f = 31 then some ipHook else none, loops := fun _ _ => none }
set_option maxRecDepth 100000 in
theorem t18 (A : Option Addr) (n c : Nat) (w : World) : xFunc Tryz.prog hk18 1000 18 [.xs A n c] (SS.mk [] [] true w []) =
  (.call 23 [(.xs A n c)] (SS.mk [] [] true w []) (Hook.X (uvHook)) (Hook.out (uvHook) [(.xs A n c)] (SS.mk [] [] true w [])) fun x0 w0 b0 =>
  (.call 31 [(.xs x0.A x0.k x0.c)] (SS.mk [] [] true w0 b0) (Hook.X (ipHook)) (Hook.out (ipHook) [(.xs x0.A x0.k x0.c)] (SS.mk [] [] true w0 b0)) fun x1 w1 b1 =>
  (.leaf .ret [(.tup [(.xs x1.A x1.k x1.c), (.bool true true)])] (SS.mk [] [] true w1 b1)))) := by kernel_rfl


theorem netToIP_c (A : Option Addr) (n c : Nat) (x : Comp) (l : List Comp) (B : Nat) (w : World) (h : CompsAt w B A n (x :: l)) (hx4 : x.code = 4) (hB : B ≤ w.heap.size) (hn : (n : Int) < 2 ^ 40) (hc : ∀ y ∈ x :: l, y.code ∈ table) (hv : ∀ y ∈ x :: l, (y.val.length : Int) < 2 ^ 46) :
    Calls Tryz.prog 18 #[.slice A n c] w (Ret (fun v w' => ∃ A k c, v = .tuple #[.slice A k c, .bool true] ∧ Bts (Rx.since w w') w'.heap.size A k x.val) w) := by
  refine funF (hk := hk18) (n := 1000) (args := [.xs A n c]) ⟨trivial, trivial⟩ ?_
  refine holds_eq (t18 A n c w) ?_
  refine row0 (R := MaR) (size := 3) (l := x :: l) rfl (fun β wc hk => address_c A n c (x :: l) B wc (h.below (hk.mono hB) (Nat.le_refl _)) (Nat.le_trans hB hk.size) hn hc hv) ?_
  rintro ⟨A1, k1, c1⟩ wc1 w1 hk1 hb1 hp1
  have hw1 : Below w.heap.size w w1 := hk1.trans (hb1.mono hk1.size)
  dsimp only at hp1
  refine call0 (R := fun (y : UV) wc w' => Bts (Rx.since wc w') w'.heap.size y.A y.k x.val) (fun x => ⟨rfl, trivial, trivial, trivial⟩) (fun β wc hk => ?_) ?_
  · refine (toIP_c A1 k1 c1 x l wc.heap.size wc (hp1.sub MaR.lasts ((since_sub _ _ _).trans (Below.sub hk)) hk.size) hx4 (Nat.le_refl _)).mono ?_
    rintro e w' ⟨v, rfl, ⟨A3, k3, c3, rfl, h5⟩, hb'⟩
    exact ⟨⟨A3, k3, c3⟩, rfl, hb', h5⟩
  rintro ⟨A2, k2, c2⟩ wc2 w2 hk2 hr hb2
  have hw2 : Below w.heap.size w wc2 := hw1.trans (hk2.mono hw1.size)
  refine retF (Fine.nil (hw2.trans (hb2.mono hw2.size))) fun β w3 hst hb3 => ⟨A2, k2, c2, rfl, ?_⟩
  have o2 := hst.old rfl
  refine Bts.sub hr (fun a v hlt hx => ?_) o2.sz
  rw [cell_since] at hx ⊢
  have h3 := o2.fr a.block hlt (fun i hi => absurd hi (Nat.not_lt_zero i))
  refine ⟨Nat.le_trans hw2.size hx.1, ?_⟩
  simp only [World.cell?, h3] at hx ⊢
  exact hx.2

end Go.Proofs.YtdmnoagahjbjhaaGreatDoor
