/- What the arguments hold: components, lists of them. -/
import Derived.Test.YtdmnoagahjbjhaaGreatDoorRx4
set_option linter.unusedVariables false
open Go.RowKit
namespace Go.Rx

/-- A component: its code and the bytes of its value. -/
structure Comp where
  code : Int
  val : List UInt8

/-- A component that lies in memory. -/
def CompAt (w : World) (B : Nat) (a : Addr) (c : Comp) : Prop :=
  a.block < B ∧ w.cell? a = some (.int .i64 c.code) ∧ (∃ A n cap, w.cell? (a.add 1) = some (.slice A n cap) ∧ Bts w B A n c.val) ∧ (c.val.length : Int) < 2 ^ 48

theorem CompAt.below {w w' : World} {B B' : Nat} {a : Addr} {c : Comp} (h : CompAt w B a c) (hb : Below B w w') (hB : B ≤ B') : CompAt w' B' a c := by
  obtain ⟨h1, h2, ⟨A, n, cap, h3, h4⟩, h5⟩ := h
  exact ⟨by omega, by rw [below_cell hb h1]; exact h2, ⟨A, n, cap, by rw [below_cell hb (by rw [add_block]; exact h1)]; exact h3, h4.below hb hB⟩, h5⟩

theorem CompAt.facts {w : World} {B : Nat} {a : Addr} {c : Comp} (h : CompAt w B a c) : intAt w (a.add 0) = c.code ∧ Bts w B (slA w (a.add 1)) (slN w (a.add 1)) c.val ∧ ((slN w (a.add 1) : Nat) : Int) < 2 ^ 48 := by
  obtain ⟨h1, h2, ⟨A, n, cap, h3, h4⟩, h5⟩ := h
  refine ⟨by simp [intAt, add_zero, h2], ?_⟩
  simp only [slA, slN, h3]
  exact ⟨h4, by rw [h4.1]; exact h5⟩

theorem CompAt.canRead {w : World} {B : Nat} {a : Addr} {c : Comp} (h : CompAt w B a c) (hB : B ≤ w.heap.size) {pre : List Nat} (hp : ∀ b ∈ pre, B ≤ b) :
    canRead w pre a [SV.int IntKind.i64 (intAt w (a.add 0)) false, SV.xs (slA w (a.add 1)) (slN w (a.add 1)) (slC w (a.add 1))] := by
  obtain ⟨h1, h2, ⟨A, n, cap, h3, h4⟩, h5⟩ := h
  refine ⟨by omega, fun hm => by have := hp _ hm; omega, fun j v hj => ?_⟩
  match j, hj with
  | 0, hj =>
    simp only [List.getElem?_cons_zero, Option.some.injEq] at hj
    subst hj
    simp [SV.den, intAt, add_zero, h2]
  | 1, hj =>
    simp only [List.getElem?_cons_succ, List.getElem?_cons_zero, Option.some.injEq] at hj
    subst hj
    simp [SV.den, slA, slN, slC, h3]
  | j + 2, hj => simp at hj

/-- A slice of components. -/
def CompsAt (w : World) (B : Nat) (A : Option Addr) (n : Nat) (l : List Comp) : Prop := SeqAt (CompAt w B) 2 B A n l

theorem CompsAt.below {w w' : World} {B B' : Nat} {A : Option Addr} {n : Nat} {l : List Comp} (h : CompsAt w B A n l) (hb : Below B w w') (hB : B ≤ B') : CompsAt w' B' A n l :=
  h.imp hB fun a x _ hx => hx.below hb hB

/-- A slice of such slices. -/
def ListAt (w : World) (B : Nat) (a : Addr) (l : List Comp) : Prop := a.block < B ∧ ∃ A n cap, w.cell? a = some (.slice A n cap) ∧ CompsAt w B A n l ∧ (n : Int) < 2 ^ 48

theorem ListAt.below {w w' : World} {B B' : Nat} {a : Addr} {l : List Comp} (h : ListAt w B a l) (hb : Below B w w') (hB : B ≤ B') : ListAt w' B' a l := by
  obtain ⟨h1, A, n, cap, h3, h4, h5⟩ := h
  exact ⟨by omega, A, n, cap, by rw [below_cell hb h1]; exact h3, h4.below hb hB, h5⟩

theorem ListAt.facts {w : World} {B : Nat} {a : Addr} {l : List Comp} (h : ListAt w B a l) : CompsAt w B (slA w (a.add 0)) (slN w (a.add 0)) l ∧ ((slN w (a.add 0) : Nat) : Int) < 2 ^ 48 := by
  obtain ⟨h1, A, n, cap, h3, h4, h5⟩ := h
  simp only [slA, slN, add_zero, h3]
  exact ⟨h4, h5⟩

theorem ListAt.canRead {w : World} {B : Nat} {a : Addr} {l : List Comp} (h : ListAt w B a l) (hB : B ≤ w.heap.size) {pre : List Nat} (hp : ∀ b ∈ pre, B ≤ b) :
    canRead w pre a [SV.xs (slA w (a.add 0)) (slN w (a.add 0)) (slC w (a.add 0))] := by
  obtain ⟨h1, A, n, cap, h3, h4⟩ := h
  refine ⟨by omega, fun hm => by have := hp _ hm; omega, fun j v hj => ?_⟩
  match j, hj with
  | 0, hj =>
    simp only [List.getElem?_cons_zero, Option.some.injEq] at hj
    subst hj
    simp [SV.den, slA, slN, slC, add_zero, h3]
  | j + 1, hj => simp at hj

def ListsAt (w : World) (B : Nat) (A : Option Addr) (n : Nat) (L : List (List Comp)) : Prop := SeqAt (ListAt w B) 1 B A n L

theorem ListsAt.below {w w' : World} {B B' : Nat} {A : Option Addr} {n : Nat} {l : List (List Comp)} (h : ListsAt w B A n l) (hb : Below B w w') (hB : B ≤ B') : ListsAt w' B' A n l :=
  h.imp hB fun a x _ hx => hx.below hb hB

theorem next_i {i n : Nat} (h : i < n) (hn : (n : Int) < 2 ^ 63) : IntKind.i64.wrap ((i : Int) + 1) = ((i + 1 : Nat) : Int) := by
  rw [wrapi (by omega) (by omega)]; rfl

/-- Some bool. -/
def SomeBool (v : Value) (_ : World) : Prop := ∃ b, v = .bool b

/-- A call that yields a bool of which 'R' is known. -/
def boolHook : Hook := { X := Bool, out := fun _ s b => (.bool b false, s.objs) }

end Go.Rx
