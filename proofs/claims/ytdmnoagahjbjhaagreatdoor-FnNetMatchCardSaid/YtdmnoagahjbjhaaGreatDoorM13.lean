/- NetMatch. -/
import Derived.Test.YtdmnoagahjbjhaaGreatDoorM12
set_option linter.unusedVariables false
set_option linter.unusedSimpArgs false
set_option maxRecDepth 20000
namespace Go.Proofs.YtdmnoagahjbjhaaGreatDoor
open Go Go.Rx Go.RowKit
def hk11 : Hooks := { calls := fun f => if f = 23 then some uvHook else if f = 24 then some uvHook else if f = 22 then some uvHook else if f = 21 then some uvHook else none, loops := fun _ _ => none }
set_option maxRecDepth 100000 in
theorem t11 (A : Option Addr) (n c : Nat) (A' : Option Addr) (n' c' : Nat) (w : World) : xFunc Tryz.prog hk11 200 11 [.xs A n c, .xs A' n' c'] (SS.mk [] [] true w []) =
  (.call 23 [(.xs A n c)] (SS.mk [] [] true w []) (Hook.X (uvHook)) (Hook.out (uvHook) [(.xs A n c)] (SS.mk [] [] true w [])) fun x0 w0 b0 =>
  (.call 24 [(.xs A' n' c')] (SS.mk [] [] true w0 b0) (Hook.X (uvHook)) (Hook.out (uvHook) [(.xs A' n' c')] (SS.mk [] [] true w0 b0)) fun x1 w1 b1 =>
  (.call 22 [(.xs x0.A x0.k x0.c), (.xs x1.A x1.k x1.c)] (SS.mk [] [] true w1 b1) (Hook.X (uvHook)) (Hook.out (uvHook) [(.xs x0.A x0.k x0.c), (.xs x1.A x1.k x1.c)] (SS.mk [] [] true w1 b1)) fun x2 w2 b2 =>
  (.call 21 [(.xs x2.A x2.k x2.c)] (SS.mk [] [] true w2 b2) (Hook.X (uvHook)) (Hook.out (uvHook) [(.xs x2.A x2.k x2.c)] (SS.mk [] [] true w2 b2)) fun x3 w3 b3 =>
  (.leaf .ret [(.xs x3.A x3.k x3.c)] (SS.mk [] [] true w3 b3)))))) := by kernel_rfl


/-- A call where nothing is tracked. -/
theorem call0 {Γ : Ctx} {w : World} {f : FuncId} {args : List SV} {X : Type} {out : X → SV × List SObj} {k : X → World → List Nat → T} {R : X → World → World → Prop} (hout : ∀ x, (out x).2 = [] ∧ (out x).1.ok 0)
    (hc : ∀ β w0, Below w.heap.size w w0 → Calls Γ.P f (denL β args).toArray w0 fun e w' => ∃ x, e = .returned ((out x).1.den β) ∧ Below w0.heap.size w0 w' ∧ R x w0 w')
    (hk : ∀ x w0 w', Below w.heap.size w w0 → R x w0 w' → Below w0.heap.size w0 w' → (k x w' []).holds Γ) : (T.call f args (SS.mk [] [] true w []) X out k).holds Γ := by
  intro β w0 hs hargs
  have o := hs.old rfl
  have hbw : Below w.heap.size w w0 := o.belowB (Below.refl _ _) (Nat.le_refl _) (by simp)
  refine (hc β w0 hbw).mono ?_
  rintro e w' ⟨x, rfl, hb, hr⟩
  obtain ⟨ho1, ho2⟩ := hout x
  refine ⟨x, β, [], rfl, ⟨?_, ?_, fun _ _ => rfl⟩, ?_, hk x w0 w' hbw hr hb⟩
  · rw [ho1]; exact hs.rebase hb
  · exact Nat.zero_le _
  · rw [ho1]; exact ho2

theorem row0 {γ : Type} {R : World → Nat → γ → List Value → Prop} {size : Nat} {l : List γ} {Γ : Ctx} (hP : Γ.P = Tryz.prog) {w : World} {f : FuncId} {args : List SV} {k : UV → World → List Nat → T}
    (hc : ∀ β wc, Below w.heap.size w wc → Calls Tryz.prog f (denL β args).toArray wc (Ret (RowQ R size l wc) wc))
    (hk : ∀ x wc w', Below w.heap.size w wc → Below wc.heap.size wc w' → RowAt R size (Rx.since wc w') w'.heap.size x.A x.k l → (k x w' []).holds Γ) :
    (T.call f args (SS.mk [] [] true w []) UV (fun x => (.xs x.A x.k x.c, [])) k).holds Γ := by
  refine call0 (R := fun (x : UV) wc w' => RowAt R size (Rx.since wc w') w'.heap.size x.A x.k l) (fun x => ⟨rfl, trivial⟩) (fun β wc hb => ?_) (fun x wc w' h1 hr h2 => hk x wc w' h1 h2 hr)
  rw [hP]
  refine (hc β wc hb).mono ?_
  rintro e w' ⟨v, rfl, ⟨A, kk, c, rfl, h5⟩, hb'⟩
  exact ⟨⟨A, kk, c⟩, rfl, hb', h5⟩

theorem netMatch_c (A : Option Addr) (n c : Nat) (A' : Option Addr) (n' c' : Nat) (l : List Comp) (ll : List (List Comp)) (B : Nat) (w : World) (h : CompsAt w B A n l) (h' : ListsAt w B A' n' ll) (hB : B ≤ w.heap.size) (hn : (n : Int) < 2 ^ 40) (hn' : (n' : Int) < 2 ^ 40)
    (hlen : ∀ x ∈ ll, (x.length : Int) < 2 ^ 40) (hc : ∀ x ∈ l, x.code ∈ table) (hc' : ∀ y ∈ ll, ∀ x ∈ y, x.code ∈ table) (hv : ∀ x ∈ l, (x.val.length : Int) < 2 ^ 46) (hv' : ∀ y ∈ ll, ∀ x ∈ y, (x.val.length : Int) < 2 ^ 46) :
    Calls Tryz.prog 11 #[.slice A n c, .slice A' n' c'] w (Ret (RowQ ListR 1 (same l ll) w) w) := by
  have hl := h.1
  have hl' := h'.1
  refine funF (hk := hk11) (n := 200) (args := [.xs A n c, .xs A' n' c']) ⟨trivial, trivial, trivial⟩ ?_
  refine holds_eq (t11 A n c A' n' c' w) ?_
  refine row0 (R := MaR) (size := 3) (l := l) rfl (fun β wc hk => address_c A n c l B wc (h.below (hk.mono hB) (Nat.le_refl _)) (Nat.le_trans hB hk.size) hn hc hv) ?_
  rintro ⟨A1, k1, c1⟩ wc1 w1 hk1 hb1 hp1
  have hw1 : Below w.heap.size w w1 := hk1.trans (hb1.mono hk1.size)
  refine row0 (R := AddrR) (size := 1) (l := ll) rfl (fun β wc hk => ?_) ?_
  · have hb : Below w.heap.size w wc := hw1.trans (hk.mono hw1.size)
    exact addresses_c A' n' c' ll B wc (h'.below (hb.mono hB) (Nat.le_refl _)) (Nat.le_trans hB hb.size) hn' hlen hc' hv'
  rintro ⟨A2, k2, c2⟩ wc2 w2 hk2 hb2 hp2
  dsimp only at hp1 hp2
  have hp1l := hp1.1
  have hp2l := hp2.1
  have hsl := same_le l ll
  have h12 : Below w1.heap.size w1 w2 := hk2.trans (hb2.mono hk2.size)
  have hw2 : Below w.heap.size w w2 := hw1.trans (h12.mono hw1.size)
  refine call0 (R := fun (x : UV) wc w' => RowAt AddrR 1 w' w'.heap.size x.A x.k (same l ll)) (fun x => ⟨rfl, trivial⟩) (fun β wc hk => ?_) ?_
  · have h1c : Below w1.heap.size w1 wc := h12.trans (hk.mono h12.size)
    refine (addrMatch_c A1 k1 c1 A2 k2 c2 l ll wc.heap.size wc (hp1.sub MaR.lasts ((since_sub _ _ _).trans (Below.sub h1c)) h1c.size) (hp2.sub AddrR.lasts ((since_sub _ _ _).trans (Below.sub hk)) hk.size) (Nat.le_refl _) (by omega) (by omega) hlen).mono ?_
    rintro e w' ⟨v, rfl, ⟨A3, k3, c3, rfl, h5⟩, hb'⟩
    exact ⟨⟨A3, k3, c3⟩, rfl, hb', h5⟩
  rintro ⟨A3, k3, c3⟩ wc3 w3 hk3 hr hb3
  dsimp only at hr
  have hrl := hr.1
  have hw3 : Below w.heap.size w w3 := (hw2.trans (hk3.mono hw2.size)).trans (hb3.mono (Nat.le_trans hw2.size hk3.size))
  refine row0 (R := ListR) (size := 1) (l := same l ll) rfl (fun β wc hk => ?_) ?_
  · exact lists_c A3 k3 c3 (same l ll) w3.heap.size wc (hr.sub AddrR.lasts (Below.sub hk) (Nat.le_refl _)) hk.size (by omega) (fun x hx => hlen x (List.mem_filter.1 hx).1)
  rintro ⟨A4, k4, c4⟩ wc4 w4 hk4 hb4 hp4
  have hw4 : Below w.heap.size w wc4 := hw3.trans (hk4.mono hw3.size)
  exact rowEnd ListR.lasts (x := ⟨A4, k4, c4⟩) (bs := []) hw4 (hw4.trans (hb4.mono hw4.size)) hp4 (by simp)

end Go.Proofs.YtdmnoagahjbjhaaGreatDoor
