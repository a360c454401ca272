/- netAlive. -/
import Derived.Test.YtdmnoagahjbjhaaGreatDoorM20
set_option linter.unusedVariables false
set_option linter.unusedSimpArgs false
set_option maxRecDepth 20000
namespace Go.Proofs.YtdmnoagahjbjhaaGreatDoor
open Go Go.Rx Go.RowKit
structure AV where
  A : Option Addr
@[reducible] def twoHook : Hook := { X := AV, out := fun _ s x => (.xs x.A 2 2, s.objs) }
@[reducible] def ipbHook : Hook := { X := UV, out := fun _ s x => (.tup [.xs x.A x.k x.c, .bool true true], s.objs) }
@[reducible] def bHook : Hook := { X := Bool, out := fun _ s b => (.bool b false, s.objs) }
def hk9 : Hooks := { calls := fun f => if f = 17 then some twoHook else if f = 18 then some ipbHook else if f = 19 ∨ f = 20 then some bHook else none, loops := fun _ _ => none }
set_option maxRecDepth 100000 in
theorem t9 (w : World) : xFunc Tryz.prog hk9 500 9 [] (SS.mk [] [] true w []) =
  (.call 17 [] (SS.mk [] [] true w []) (Hook.X (twoHook)) (Hook.out (twoHook) [] (SS.mk [] [] true w [])) fun x0 w0 b0 =>
  (.call 18 [(.xs x0.A 2 2)] (SS.mk [] [] true w0 b0) (Hook.X (ipbHook)) (Hook.out (ipbHook) [(.xs x0.A 2 2)] (SS.mk [] [] true w0 b0)) fun x1 w1 b1 =>
  (.call 19 [(.int .i64 1 true), (.xs x0.A 2 2)] (SS.mk [] [] true w1 b1) (Hook.X (bHook)) (Hook.out (bHook) [(.int .i64 1 true), (.xs x0.A 2 2)] (SS.mk [] [] true w1 b1)) fun x2 w2 b2 =>
  (.split x2
   (.need ((0 : Int) ≤ (1 : Int) ∧ (1 : Int) ≤ (↑(2 : Nat) : Int))
   (.call 19 [(.int .i64 1 true), (.xs (if (2 : Nat) = (1 : Nat) then x0.A else Option.map (fun x => x.add (2 : Nat)) x0.A) 1 1)] (SS.mk [] [] true w2 b2) (Hook.X (bHook)) (Hook.out (bHook) [(.int .i64 1 true), (.xs (if (2 : Nat) = (1 : Nat) then x0.A else Option.map (fun x => x.add (2 : Nat)) x0.A) 1 1)] (SS.mk [] [] true w2 b2)) fun x3 w3 b3 =>
   (.split (!x3)
    (.call 19 [(.int .i64 0 true), (.xs x0.A 2 2)] (SS.mk [] [] true w3 b3) (Hook.X (bHook)) (Hook.out (bHook) [(.int .i64 0 true), (.xs x0.A 2 2)] (SS.mk [] [] true w3 b3)) fun x4 w4 b4 =>
    (.split x4
     (.call 20 [(.xs x1.A x1.k x1.c), (.int .i64 32 true), (.slc 0 0 4 4 true true)] (SS.mk [(.cells [(.int .u8 127 true), (.int .u8 0 true), (.int .u8 0 true), (.int .u8 1 true)] 4 5 0 0)] [] true w4 b4) (Hook.X (bHook)) (Hook.out (bHook) [(.xs x1.A x1.k x1.c), (.int .i64 32 true), (.slc 0 0 4 4 true true)] (SS.mk [(.cells [(.int .u8 127 true), (.int .u8 0 true), (.int .u8 0 true), (.int .u8 1 true)] 4 5 0 0)] [] true w4 b4)) fun x5 w5 b5 =>
     (.leaf .ret [(.bool (x5 == ((↑x1.k : Int) == (4 : Int))) false)] (SS.mk [(.cells [(.int .u8 127 true), (.int .u8 0 true), (.int .u8 0 true), (.int .u8 1 true)] 4 5 0 0)] [] true w5 b5)))
     (.leaf .ret [(.bool false true)] (SS.mk [] [] true w4 b4))))
    (.leaf .ret [(.bool false true)] (SS.mk [] [] true w3 b3)))))
   (.leaf .ret [(.bool false true)] (SS.mk [] [] true w2 b2)))))) := by kernel_rfl


theorem compsAt_of_row {w : World} {B : Nat} {A : Option Addr} {n : Nat} {l : List Comp} (h : RowAt CompR 2 w B A n l) (hl : ∀ x ∈ l, (x.val.length : Int) < 2 ^ 48) : CompsAt w B A n l :=
  ⟨h.1, fun hn => by
    obtain ⟨a, ha, hb, hx⟩ := h.2 hn
    refine ⟨a, ha, hb, fun i x hi => ?_⟩
    obtain ⟨h1, vs, ⟨A', n', c', rfl, hbt⟩, hc⟩ := hx i x hi
    exact ⟨h1, hc 0 _ rfl, ⟨A', n', c', hc 1 _ rfl, hbt⟩, hl x (List.mem_of_getElem? hi)⟩⟩

theorem compsTail {w : World} {B : Nat} {a : Addr} {n : Nat} {x : Comp} {l : List Comp} (h : CompsAt w B (some a) (n + 1) (x :: l)) : CompsAt w B (some (a.add 2)) n l := by
  have hl := h.1
  simp only [List.length_cons] at hl
  obtain ⟨a', ha, hb, hx⟩ := h.2 (by omega)
  cases ha
  refine ⟨by omega, fun hn => ⟨_, rfl, by rw [add_block]; exact hb, fun i y hi => ?_⟩⟩
  have := hx (i + 1) y (by simpa using hi)
  rw [Rx.add_add]
  rw [show 2 + i * 2 = (i + 1) * 2 by omega]
  exact this

theorem twoTable : ∀ x ∈ twoL, x.code ∈ table := by
  intro x hx
  simp only [twoL, List.mem_cons, List.mem_nil_iff, or_false] at hx
  rcases hx with rfl | rfl <;> decide

theorem twoLen : ∀ x ∈ twoL, x.val.length ≤ 4 := by
  intro x hx
  simp only [twoL, List.mem_cons, List.mem_nil_iff, or_false] at hx
  rcases hx with rfl | rfl <;> decide

theorem netAlive_c (w : World) : Calls Tryz.prog 9 #[] w (Ret (BoolQ fun b => b = true) w) := by
  refine funF (hk := hk9) (n := 500) (args := []) trivial ?_
  refine holds_eq (t9 w) ?_
  have fin : ∀ objs w2 bs lit b, b = true → Below w.heap.size w w2 → (∀ b ∈ bs, w.heap.size ≤ b) → (T.leaf .ret [(.bool b lit)] (SS.mk objs [] true w2 bs)).holds (ctx Tryz.prog (retQ fun v w' => BoolQ (fun b => b = true) v w' ∧ Below w.heap.size w w')) := fun objs w2 bs lit b hb hw2 hbs => retF (Fine.mk' hw2 hbs) fun β w' _ _ => ⟨_, rfl, hb⟩
  have h48 : ∀ x ∈ twoL, (x.val.length : Int) < 2 ^ 48 := fun x hx => by have := twoLen x hx; omega
  have h46 : ∀ x ∈ twoL, (x.val.length : Int) < 2 ^ 46 := fun x hx => by have := twoLen x hx; omega
  refine call0 (R := fun (z : AV) wc w' => CompsAt w' w'.heap.size z.A 2 twoL) (fun z => ⟨rfl, trivial⟩) (fun β wc hk => ?_) ?_
  · refine (maTwo_c wc).mono ?_
    rintro e w' ⟨v, rfl, ⟨A, rfl, hr⟩, hb⟩
    exact ⟨⟨A⟩, rfl, hb, compsAt_of_row (hr.sub CompR.lasts (since_sub _ _ _) (Nat.le_refl _)) h48⟩
  rintro ⟨A⟩ wc w1 hk hA hb
  dsimp only at hA
  have hw1 : Below w.heap.size w w1 := hk.trans (hb.mono hk.size)
  obtain ⟨ad, _, rfl, had, _, _⟩ := hA.get (i := 0) (by omega)
  refine call0 (R := fun (z : UV) wc w' => Bts (Rx.since wc w') w'.heap.size z.A z.k [127, 0, 0, 1]) (fun z => ⟨rfl, trivial, trivial, trivial⟩) (fun β wc hk => ?_) ?_
  · refine (netToIP_c (some ad) 2 2 ⟨4, [127, 0, 0, 1]⟩ [⟨273, [4, 210]⟩] w1.heap.size wc (hA.below hk (Nat.le_refl _)) rfl hk.size (by decide) twoTable h46).mono ?_
    rintro e w' ⟨v, rfl, ⟨A3, k3, c3, rfl, h5⟩, hb'⟩
    exact ⟨⟨A3, k3, c3⟩, rfl, hb', h5⟩
  rintro ⟨A1, k1, c1⟩ wc2 w2 hk2 hr hb2
  dsimp only at hr ⊢
  have h12 : Below w1.heap.size w1 w2 := hk2.trans (hb2.mono hk2.size)
  have hw2 : Below w.heap.size w w2 := hw1.trans (h12.mono hw1.size)
  have hk4 : k1 = 4 := hr.1
  subst hk4
  have hB2 : Bts w2 w2.heap.size A1 4 [127, 0, 0, 1] := hr.sub (since_sub _ _ _) (Nat.le_refl _)
  refine call0 (R := fun b _ _ => b = true) (fun z => ⟨rfl, trivial⟩) (fun β wc hk => ?_) ?_
  · refine (askLoop_c true (some ad) 2 2 ⟨4, [127, 0, 0, 1]⟩ [⟨273, [4, 210]⟩] w1.heap.size wc (hA.below (h12.trans (hk.mono h12.size)) (Nat.le_refl _)) (Nat.le_trans h12.size hk.size) (by decide) twoTable h46 (.inl ⟨rfl, rfl, _, _, _, rfl⟩)).mono ?_
    rintro e w' ⟨v, rfl, ⟨b, rfl, h5⟩, hb'⟩
    exact ⟨b, rfl, hb', h5⟩
  rintro b wc3 w3 hk3 rfl hb3
  have h23 : Below w2.heap.size w2 w3 := hk3.trans (hb3.mono hk3.size)
  have h13 : Below w1.heap.size w1 w3 := h12.trans (h23.mono h12.size)
  refine splitT (fun _ => ?_) (fun h => by cases h)
  refine needT (by omega) ?_
  rw [show (if (2 : Nat) = (1 : Nat) then some ad else Option.map (fun x => x.add (2 : Nat)) (some ad)) = some (ad.add 2) from rfl]
  refine call0 (R := fun b _ _ => b = false) (fun z => ⟨rfl, trivial⟩) (fun β wc hk => ?_) ?_
  · refine (askLoop_c false (some (ad.add 2)) 1 1 ⟨273, [4, 210]⟩ [] w1.heap.size wc (compsTail (hA.below (h13.trans (hk.mono h13.size)) (Nat.le_refl _))) (Nat.le_trans h13.size hk.size) (by decide) (fun y hy => twoTable y (List.mem_cons_of_mem _ hy)) (fun y hy => h46 y (List.mem_cons_of_mem _ hy)) (.inr ⟨rfl, rfl⟩)).mono ?_
    rintro e w' ⟨v, rfl, ⟨b, rfl, h5⟩, hb'⟩
    exact ⟨b, rfl, hb', h5⟩
  rintro b wc4 w4 hk4 rfl hb4
  have h34 : Below w3.heap.size w3 w4 := hk4.trans (hb4.mono hk4.size)
  have h14 : Below w1.heap.size w1 w4 := h13.trans (h34.mono h13.size)
  have h24 : Below w2.heap.size w2 w4 := h23.trans (h34.mono h23.size)
  refine splitT (fun _ => ?_) (fun h => by cases h)
  refine call0 (R := fun b _ _ => b = true) (fun z => ⟨rfl, trivial⟩) (fun β wc hk => ?_) ?_
  · refine (askThin_c (some ad) 2 2 ⟨4, [127, 0, 0, 1]⟩ ⟨273, [4, 210]⟩ [] w1.heap.size wc (hA.below (h14.trans (hk.mono h14.size)) (Nat.le_refl _)) (Nat.le_trans h14.size hk.size) (by decide) twoTable h46 rfl rfl).mono ?_
    rintro e w' ⟨v, rfl, ⟨b, rfl, h5⟩, hb'⟩
    exact ⟨b, rfl, hb', h5⟩
  rintro b wc5 w5 hk5 rfl hb5
  have h45 : Below w4.heap.size w4 w5 := hk5.trans (hb5.mono hk5.size)
  have h25 : Below w2.heap.size w2 w5 := h24.trans (h45.mono h24.size)
  have hw5 : Below w.heap.size w w5 := hw2.trans (h25.mono hw2.size)
  refine splitT (fun _ => ?_) (fun h => by cases h)
  refine boolCallR (a0 := []) (fun b => b = true) (Fine.nil hw5) rfl (fun β w6 hb6 hst6 o6 => ?_) (fun b w6 bs hbt hb6 hbs => fin _ _ _ _ _ (by rw [hbt]; rfl) hb6 hbs)
  have b0 := bts_of_cells (l := [127, 0, 0, 1]) (hst6.at_ 0 _ rfl) rfl rfl (hst6.lt 0 (by simp [SS.n]))
  have hold : Sub w5.heap.size w5 w6 := fun a v hlt hx => by
    have h6 : w6.heap[a.block]? = w5.heap[a.block]? := o6.fr a.block hlt (fun i hi he => by
      have h5 : w5.heap.size ≤ β i := o6.new i (Nat.zero_le _) hi
      omega)
    simp only [World.cell?] at hx ⊢
    rw [h6]
    exact hx
  exact netIn_c A1 c1 (some ⟨β 0, 0, none⟩) 4 [127, 0, 0, 1] w6.heap.size w6 (hB2.sub ((Below.sub h25).trans fun a v hlt hx => hold a v (Nat.lt_of_lt_of_le hlt h25.size) hx) (Nat.le_trans h25.size o6.sz)) b0 (Nat.le_refl _)

end Go.Proofs.YtdmnoagahjbjhaaGreatDoor
