/- NetAsk. -/
import Derived.Test.YtdmnoagahjbjhaaGreatDoorM19
import Derived.Test.YtdmnoagahjbjhaaGreatDoorS1
set_option linter.unusedVariables false
set_option linter.unusedSimpArgs false
set_option maxRecDepth 20000
namespace Go.Proofs.YtdmnoagahjbjhaaGreatDoor
open Go Go.Rx Go.RowKit
def hk33 : Hooks := { calls := fun f => if f = 34 ∨ f = 35 then some boolHook else none, loops := fun _ _ => none }
def askObjs (args : List SV) (l : List SObj) (b : Bool) : List SObj :=
  match args with
  | [.fn _ _ [_, _, .ptr i _]] => l.set i (.cells [.bool b false] 1 4 0 0)
  | _ => l
@[reducible] def askHook : Hook := { X := Bool, out := fun args s b => (.bool true false, askObjs args s.objs b) }
def hk19 : Hooks := { calls := fun f => if f = 23 then some uvHook else if f = 32 then some askHook else none, loops := fun _ _ => none }
@[reducible] def aObjs (k : Int) (A : Option Addr) (n c : Nat) : List SObj := [.cells [.int .i64 k true] 1 3 0 0, .cells [.bool false true] 1 4 0 0, .cells [.xs A n c] 1 47 0 0]
@[reducible] def aObjs' (k : Int) (A : Option Addr) (n c : Nat) (b : Bool) : List SObj := [.cells [.int .i64 k true] 1 3 0 0, .cells [.bool b false] 1 4 0 0, .cells [.xs A n c] 1 47 0 0]
set_option maxRecDepth 100000 in
theorem t33l (A : Option Addr) (n c : Nat) (w : World) (bs : List Nat) : xFunc Tryz.prog hk33 500 33 [.ptr 0 0, .ptr 2 0, .ptr 1 0] (SS.mk [.cells [.int .i64 1 true] 1 3 0 0, .cells [.bool false true] 1 4 0 0, .cells [.xs A n c] 1 47 0 0] [] true w bs) =
  (.call 35 [(.xs A n c)] (SS.mk [(.cells [(.int .i64 1 true)] 1 3 0 0), (.cells [(.bool false true)] 1 4 0 0), (.cells [(.xs A n c)] 1 47 0 0)] [] true w bs) (Hook.X (boolHook)) (Hook.out (boolHook) [(.xs A n c)] (SS.mk [(.cells [(.int .i64 1 true)] 1 3 0 0), (.cells [(.bool false true)] 1 4 0 0), (.cells [(.xs A n c)] 1 47 0 0)] [] true w bs)) fun x0 w0 b0 =>
  (.leaf .ret [(.tup [])] (SS.mk [(.cells [(.int .i64 1 true)] 1 3 0 0), (.cells [(.bool x0 false)] 1 4 0 0), (.cells [(.xs A n c)] 1 47 0 0)] [] true w0 b0))) := by kernel_rfl
set_option maxRecDepth 100000 in
theorem t33w (A : Option Addr) (n c : Nat) (w : World) (bs : List Nat) : xFunc Tryz.prog hk33 500 33 [.ptr 0 0, .ptr 2 0, .ptr 1 0] (SS.mk [.cells [.int .i64 0 true] 1 3 0 0, .cells [.bool false true] 1 4 0 0, .cells [.xs A n c] 1 47 0 0] [] true w bs) =
  (.call 34 [(.xs A n c)] (SS.mk [(.cells [(.int .i64 0 true)] 1 3 0 0), (.cells [(.bool false true)] 1 4 0 0), (.cells [(.xs A n c)] 1 47 0 0)] [] true w bs) (Hook.X (boolHook)) (Hook.out (boolHook) [(.xs A n c)] (SS.mk [(.cells [(.int .i64 0 true)] 1 3 0 0), (.cells [(.bool false true)] 1 4 0 0), (.cells [(.xs A n c)] 1 47 0 0)] [] true w bs)) fun x0 w0 b0 =>
  (.leaf .ret [(.tup [])] (SS.mk [(.cells [(.int .i64 0 true)] 1 3 0 0), (.cells [(.bool x0 false)] 1 4 0 0), (.cells [(.xs A n c)] 1 47 0 0)] [] true w0 b0))) := by kernel_rfl
set_option maxRecDepth 100000 in
theorem t19l (A : Option Addr) (n c : Nat) (w : World) : xFunc Tryz.prog hk19 500 19 [.int .i64 1 true, .xs A n c] (SS.mk [] [] true w []) =
  (.call 23 [(.xs A n c)] (SS.mk [(.cells [(.int .i64 1 true)] 1 3 0 0), (.cells [(.bool false true)] 1 4 0 0)] [] true w []) (Hook.X (uvHook)) (Hook.out (uvHook) [(.xs A n c)] (SS.mk [(.cells [(.int .i64 1 true)] 1 3 0 0), (.cells [(.bool false true)] 1 4 0 0)] [] true w [])) fun x0 w0 b0 =>
  (.call 32 [(.fn (.func 33) [] [(.ptr 0 0), (.ptr 2 0), (.ptr 1 0)])] (SS.mk [(.cells [(.int .i64 1 true)] 1 3 0 0), (.cells [(.bool false true)] 1 4 0 0), (.cells [(.xs x0.A x0.k x0.c)] 1 47 0 0)] [] true w0 b0) (Hook.X (askHook)) (Hook.out (askHook) [(.fn (.func 33) [] [(.ptr 0 0), (.ptr 2 0), (.ptr 1 0)])] (SS.mk [(.cells [(.int .i64 1 true)] 1 3 0 0), (.cells [(.bool false true)] 1 4 0 0), (.cells [(.xs x0.A x0.k x0.c)] 1 47 0 0)] [] true w0 b0)) fun x1 w1 b1 =>
  (.leaf .ret [(.bool x1 false)] (SS.mk [(.cells [(.int .i64 1 true)] 1 3 0 0), (.cells [(.bool x1 false)] 1 4 0 0), (.cells [(.xs x0.A x0.k x0.c)] 1 47 0 0)] [] true w1 b1)))) := by kernel_rfl
set_option maxRecDepth 100000 in
theorem t19w (A : Option Addr) (n c : Nat) (w : World) : xFunc Tryz.prog hk19 500 19 [.int .i64 0 true, .xs A n c] (SS.mk [] [] true w []) =
  (.call 23 [(.xs A n c)] (SS.mk [(.cells [(.int .i64 0 true)] 1 3 0 0), (.cells [(.bool false true)] 1 4 0 0)] [] true w []) (Hook.X (uvHook)) (Hook.out (uvHook) [(.xs A n c)] (SS.mk [(.cells [(.int .i64 0 true)] 1 3 0 0), (.cells [(.bool false true)] 1 4 0 0)] [] true w [])) fun x0 w0 b0 =>
  (.call 32 [(.fn (.func 33) [] [(.ptr 0 0), (.ptr 2 0), (.ptr 1 0)])] (SS.mk [(.cells [(.int .i64 0 true)] 1 3 0 0), (.cells [(.bool false true)] 1 4 0 0), (.cells [(.xs x0.A x0.k x0.c)] 1 47 0 0)] [] true w0 b0) (Hook.X (askHook)) (Hook.out (askHook) [(.fn (.func 33) [] [(.ptr 0 0), (.ptr 2 0), (.ptr 1 0)])] (SS.mk [(.cells [(.int .i64 0 true)] 1 3 0 0), (.cells [(.bool false true)] 1 4 0 0), (.cells [(.xs x0.A x0.k x0.c)] 1 47 0 0)] [] true w0 b0)) fun x1 w1 b1 =>
  (.leaf .ret [(.bool x1 false)] (SS.mk [(.cells [(.int .i64 0 true)] 1 3 0 0), (.cells [(.bool x1 false)] 1 4 0 0), (.cells [(.xs x0.A x0.k x0.c)] 1 47 0 0)] [] true w1 b1)))) := by kernel_rfl


def tree33 (k : Int) (fq : FuncId) (A : Option Addr) (n c : Nat) (w : World) (bs : List Nat) : T :=
  .call fq [(.xs A n c)] (SS.mk (aObjs k A n c) [] true w bs) Bool (Hook.out (boolHook) [(.xs A n c)] (SS.mk (aObjs k A n c) [] true w bs)) fun x0 w0 b0 =>
    (.leaf .ret [(.tup [])] (SS.mk (aObjs' k A n c x0) [] true w0 b0))

@[reducible] def askArgs : List SV := [(.fn (.func 33) [] [(.ptr 0 0), (.ptr 2 0), (.ptr 1 0)])]

def tree19 (k : Int) (A : Option Addr) (n c : Nat) (w : World) : T :=
  .call 23 [(.xs A n c)] (SS.mk [(.cells [(.int .i64 k true)] 1 3 0 0), (.cells [(.bool false true)] 1 4 0 0)] [] true w []) UV (fun x => (.xs x.A x.k x.c, [(.cells [(.int .i64 k true)] 1 3 0 0), (.cells [(.bool false true)] 1 4 0 0)])) fun x0 w0 b0 =>
    (.call 32 askArgs (SS.mk (aObjs k x0.A x0.k x0.c) [] true w0 b0) Bool (fun b => (.bool true false, aObjs' k x0.A x0.k x0.c b)) fun x1 w1 b1 =>
      (.leaf .ret [(.bool x1 false)] (SS.mk (aObjs' k x0.A x0.k x0.c x1) [] true w1 b1)))

theorem aObjs_ok (k : Int) (A : Option Addr) (n c : Nat) (b : Bool) (m : Nat) : ∀ u ∈ aObjs' k A n c b, u.ok m := by
  intro u hu
  simp only [aObjs', List.mem_cons, List.mem_nil_iff, or_false] at hu
  rcases hu with rfl | rfl | rfl <;> simp [SObj.ok, okL, SV.ok]

theorem netAsk_of (k : Int) (fq : FuncId) (ans : Bool)
    (h19 : ∀ A n c w, xFunc Tryz.prog hk19 500 19 [.int .i64 k true, .xs A n c] (SS.mk [] [] true w []) = tree19 k A n c w)
    (h33 : ∀ A n c w bs, xFunc Tryz.prog hk33 500 33 [.ptr 0 0, .ptr 2 0, .ptr 1 0] (SS.mk (aObjs k A n c) [] true w bs) = tree33 k fq A n c w bs)
    (A : Option Addr) (n c : Nat) (l : List Comp) (B : Nat) (w : World) (h : CompsAt w B A n l) (hB : B ≤ w.heap.size) (hn : (n : Int) < 2 ^ 40) (hc : ∀ x ∈ l, x.code ∈ table) (hv : ∀ x ∈ l, (x.val.length : Int) < 2 ^ 46)
    (hq : ∀ A' n' c' B' wc, RowAt MaR 3 wc B' A' n' l → n' ≤ c' → B' ≤ wc.heap.size → Calls Tryz.prog fq #[.slice A' n' c'] wc (Ret (BoolQ fun b => b = ans) wc)) :
    Calls Tryz.prog 19 #[.int .i64 k, .slice A n c] w (Ret (BoolQ fun b => b = ans) w) := by
  refine funF (hk := hk19) (n := 500) (args := [.int .i64 k true, .xs A n c]) ⟨trivial, trivial, trivial⟩ ?_
  refine holds_eq (h19 A n c w) ?_
  unfold tree19
  refine callN (R := fun (z : UV) wc w' => RowAt MaR 3 (Rx.since wc w') w'.heap.size z.A z.k l ∧ z.k ≤ z.c) (Fine.start w _) (fun x => ⟨rfl, trivial⟩) (fun β wc hst ho hb => ?_) ?_
  · refine (address_cc A n c l B wc (h.below (hb.mono hB) (Nat.le_refl _)) (Nat.le_trans hB hb.size) hn hc hv).mono ?_
    rintro e w' ⟨v, rfl, ⟨A3, k3, c3, rfl, h5, h6⟩, hb'⟩
    exact ⟨⟨A3, k3, c3⟩, rfl, hb', h5, h6⟩
  rintro ⟨A1, k1, c1⟩ wc w1 bs hb0 ⟨hrow, hcap⟩ hb1 hw1 hbs
  dsimp only at hrow hcap ⊢
  refine callM (R := fun b _ _ => b = ans) (Fine.mk' hw1 (fun b hb => (hbs b hb).1)) rfl (fun x => ⟨rfl, aObjs_ok _ _ _ _ _ _, trivial⟩) ?_ ?_
  · intro β w2 hst o hb2
    have h3 : (SS.mk (aObjs k A1 k1 c1) [] true w1 bs).n = 3 := rfl
    have hsafe := safe_c ⟨β 0, 0, none⟩ ⟨β 2, 0, none⟩ ⟨β 1, 0, none⟩ w2 (blocks β 3) (fun w' => ∃ b, ObjsAt β (aObjs' k A1 k1 c1 b) w' ∧ b = ans) ?_ ?_ ?_
    · refine hsafe.mono ?_
      rintro e w' ⟨rfl, hk, b, hat, hb⟩
      exact ⟨b, rfl, hk, hat, hb⟩
    · intro b hb
      simp only [blocks, List.mem_map, List.mem_range] at hb
      obtain ⟨i, hi, rfl⟩ := hb
      exact hst.lt i (by rw [h3]; exact hi)
    · rintro wa wb hab ⟨b, hat, hb⟩
      refine ⟨b, fun i ob hi => ?_, hb⟩
      rw [hab _ (hst.lt i (by rw [h3]; exact (List.getElem?_eq_some_iff.1 hi).1))]
      exact hat i ob hi
    intro w3 hb3
    have hst3 := hst.later hb3 (P := Tryz.prog) (Q := retQ fun v w' => v = .tuple #[] ∧ Keep (blocks β 3) w3 w' ∧ ∃ b, ObjsAt β (aObjs' k A1 k1 c1 b) w' ∧ b = ans)
    refine (funS (hk := hk33) (n := 500) (args := [.ptr 0 0, .ptr 2 0, .ptr 1 0]) hst3 ⟨by simp [SV.ok, SS.n], by simp [SV.ok, SS.n], by simp [SV.ok, SS.n], trivial⟩ ?_).mono ?_
    · refine holds_eq (h33 A1 k1 c1 w3 (blocks β 3)) ?_
      unfold tree33
      have hkf : ∀ objs, KFine (blocks β 3) w3 (SS.mk objs [] true w3 (blocks β 3)) := fun objs => ⟨rfl, Keep.refl _ _, fun b hb => .inl hb⟩
      refine callK (R := fun b _ _ => b = ans) (hkf _) (fun x => ⟨rfl, trivial⟩) (fun β' w4 hst4 o4 hk4 => ?_) ?_
      · have hsub : Sub w1.heap.size (Rx.since wc w1) w4 := by
          intro a v hlt hx
          rw [cell_since] at hx
          have hnp : a.block ∉ bs := fun hm => by have := (hbs _ hm).2; omega
          have hnb : a.block ∉ blocks β 3 := by
            intro hm
            simp only [blocks, List.mem_map, List.mem_range] at hm
            obtain ⟨i, hi, he⟩ := hm
            rcases o.pos (i := i) (by rw [h3]; exact hi) with h | h
            · rw [he] at h; exact hnp h
            · have : w1.heap.size ≤ β i := h
              omega
          have s1 : w2.heap[a.block]? = w1.heap[a.block]? := o.heap hlt hnp
          have hz2 : w1.heap.size ≤ w2.heap.size := o.sz
          have s2 : w3.heap[a.block]? = w2.heap[a.block]? := hb3.block _ (by omega)
          have s3 : w4.heap[a.block]? = w3.heap[a.block]? := hk4.block _ (by have := hb3.size; omega) hnb
          have hx2 := hx.2
          simp only [World.cell?] at hx2 ⊢
          rw [s3, s2, s1]
          exact hx2
        have hz : w1.heap.size ≤ w4.heap.size := Nat.le_trans (Nat.le_trans o.sz hb3.size) hk4.size
        refine (hq A1 k1 c1 w1.heap.size w4 (hrow.sub MaR.lasts hsub (Nat.le_refl _)) hcap hz).mono ?_
        rintro e w' ⟨v, rfl, ⟨b, rfl, hb⟩, hb'⟩
        exact ⟨b, rfl, hb', hb⟩
      · rintro b w4 w5 bs' hk4 hb hb5 hk5 hbs'
        refine leafK ⟨rfl, hk5, hbs'⟩ fun β' w6 hst6 hk6 => ⟨_, rfl, rfl, hk6, b, ?_, hb⟩
        exact hst6.objsAt rfl (aObjs_ok _ _ _ _ _ _)
    · rintro e w' ⟨v, rfl, rfl, hk, hat⟩
      exact ⟨rfl, hk, hat⟩
  · rintro b w2 w3 bs' hb2 rfl hw3 hbs'
    exact retF (Fine.mk' hw3 fun b hb => (hbs' b hb).1) fun β w' _ _ => ⟨_, rfl, rfl⟩

theorem askLoop_c (yes : Bool) (A : Option Addr) (n c : Nat) (x : Comp) (l : List Comp) (B : Nat) (w : World) (h : CompsAt w B A n (x :: l)) (hB : B ≤ w.heap.size) (hn : (n : Int) < 2 ^ 40) (hc : ∀ y ∈ x :: l, y.code ∈ table) (hv : ∀ y ∈ x :: l, (y.val.length : Int) < 2 ^ 46)
    (hx : (yes = true ∧ x.code = 4 ∧ ∃ a b d, x.val = [127, a, b, d]) ∨ (yes = false ∧ x.code = 273)) : Calls Tryz.prog 19 #[.int .i64 1, .slice A n c] w (Ret (BoolQ fun b => b = yes) w) :=
  netAsk_of 1 35 yes (fun A n c w => t19l A n c w) (fun A n c w bs => t33l A n c w bs) A n c (x :: l) B w h hB hn hc hv fun A' n' c' B' wc hr hcap hB' => loopback_c yes A' n' c' x l B' wc hr hx hcap hB'

theorem askThin_c (A : Option Addr) (n c : Nat) (x y : Comp) (l : List Comp) (B : Nat) (w : World) (h : CompsAt w B A n (x :: y :: l)) (hB : B ≤ w.heap.size) (hn : (n : Int) < 2 ^ 40) (hc : ∀ z ∈ x :: y :: l, z.code ∈ table) (hv : ∀ z ∈ x :: y :: l, (z.val.length : Int) < 2 ^ 46)
    (hx : x.code = 4) (hy : y.code = 273) : Calls Tryz.prog 19 #[.int .i64 0, .slice A n c] w (Ret (BoolQ fun b => b = true) w) :=
  netAsk_of 0 34 true (fun A n c w => t19w A n c w) (fun A n c w bs => t33w A n c w bs) A n c (x :: y :: l) B w h hB hn hc hv fun A' n' c' B' wc hr hcap hB' => thinWaist_c A' n' c' x y l B' wc hr hx hy hcap (by have h1 := hr.1; have h2 := h.1; omega) hB'

end Go.Proofs.YtdmnoagahjbjhaaGreatDoor
