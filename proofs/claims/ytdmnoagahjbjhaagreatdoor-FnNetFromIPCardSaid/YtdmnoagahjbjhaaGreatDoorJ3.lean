/- Joined texts: What the arguments hold: components, lists of them; A plain name: MaPlain answers; Varints: UvarintSize, ToUvarint make bytes; Sizes: zzFits7, zzFits6, zzFits12 answer; Simple components: MaProtocol, MaSimple, MaAddress, maSimple answer; what is simple has a code of the table. -/
import Derived.Test.YtdmnoagahjbjhaaGreatDoorJ2
import Derived.Test.YtdmnoagahjbjhaaGreatDoorProg
import Derived.KernelRfl
section
/- What the arguments hold: components, lists of them. -/
set_option linter.unusedVariables false
open Go.RowKit
namespace Go.Rx

/-- A hooked call, shortly written. -/
@[reducible] def T.hc (f : FuncId) (args : List SV) (s : SS) (h : Hook) (k : h.X → World → List Nat → T) : T := .call f args s h.X (h.out args s) k


/-- A component: its code and the bytes of its value. -/
structure Comp where
  code : Int
  val : List UInt8

/-- A component that lies in memory. -/
def CompAt (w : World) (B : Nat) (a : Addr) (c : Comp) : Prop :=
  a.block < B ∧ w.cell? a = some (.int .i64 c.code) ∧ (∃ A n cap, w.cell? (a.add 1) = some (.slice A n cap) ∧ Bts w B A n c.val) ∧ (c.val.length : Int) < 2 ^ 48

theorem CompAt.below {w w' : World} {B B' : Nat} {a : Addr} {c : Comp} (h : CompAt w B a c) (hb : Below B w w') (hB : B ≤ B') : CompAt w' B' a c := by
  obtain ⟨h1, h2, ⟨A, n, cap, h3, h4⟩, h5⟩ := h
  exact ⟨by omega, by rw [below_cell hb h1]; exact h2, ⟨A, n, cap, by rw [below_cell hb (by rw [add_block]; exact h1)]; exact h3, h4.below hb hB⟩, h5⟩

theorem CompAt.facts {w : World} {B : Nat} {a : Addr} {c : Comp} (h : CompAt w B a c) : intAt w (a.add 0) = c.code ∧ Bts w B (slA w (a.add 1)) (slN w (a.add 1)) c.val ∧ ((slN w (a.add 1) : Nat) : Int) < 2 ^ 48 := by
  obtain ⟨h1, h2, ⟨A, n, cap, h3, h4⟩, h5⟩ := h
  refine ⟨by simp [intAt, add_zero, h2], ?_⟩
  simp only [slA, slN, h3]
  exact ⟨h4, by rw [h4.1]; exact h5⟩

theorem CompAt.canRead {w : World} {B : Nat} {a : Addr} {c : Comp} (h : CompAt w B a c) (hB : B ≤ w.heap.size) {pre : List Nat} (hp : ∀ b ∈ pre, B ≤ b) :
    canRead w pre a [SV.int IntKind.i64 (intAt w (a.add 0)) false, SV.xs (slA w (a.add 1)) (slN w (a.add 1)) (slC w (a.add 1))] := by
  obtain ⟨h1, h2, ⟨A, n, cap, h3, h4⟩, h5⟩ := h
  refine ⟨by omega, fun hm => by have := hp _ hm; omega, fun j v hj => ?_⟩
  match j, hj with
  | 0, hj =>
    simp only [List.getElem?_cons_zero, Option.some.injEq] at hj
    subst hj
    simp [SV.den, intAt, add_zero, h2]
  | 1, hj =>
    simp only [List.getElem?_cons_succ, List.getElem?_cons_zero, Option.some.injEq] at hj
    subst hj
    simp [SV.den, slA, slN, slC, h3]
  | j + 2, hj => simp at hj

/-- A slice of components. -/
def CompsAt (w : World) (B : Nat) (A : Option Addr) (n : Nat) (l : List Comp) : Prop := SeqAt (CompAt w B) 2 B A n l

theorem CompsAt.below {w w' : World} {B B' : Nat} {A : Option Addr} {n : Nat} {l : List Comp} (h : CompsAt w B A n l) (hb : Below B w w') (hB : B ≤ B') : CompsAt w' B' A n l :=
  h.imp hB fun a x _ hx => hx.below hb hB

/-- A slice of such slices. -/
def ListAt (w : World) (B : Nat) (a : Addr) (l : List Comp) : Prop := a.block < B ∧ ∃ A n cap, w.cell? a = some (.slice A n cap) ∧ CompsAt w B A n l ∧ (n : Int) < 2 ^ 48

theorem ListAt.below {w w' : World} {B B' : Nat} {a : Addr} {l : List Comp} (h : ListAt w B a l) (hb : Below B w w') (hB : B ≤ B') : ListAt w' B' a l := by
  obtain ⟨h1, A, n, cap, h3, h4, h5⟩ := h
  exact ⟨by omega, A, n, cap, by rw [below_cell hb h1]; exact h3, h4.below hb hB, h5⟩

theorem ListAt.facts {w : World} {B : Nat} {a : Addr} {l : List Comp} (h : ListAt w B a l) : CompsAt w B (slA w (a.add 0)) (slN w (a.add 0)) l ∧ ((slN w (a.add 0) : Nat) : Int) < 2 ^ 48 := by
  obtain ⟨h1, A, n, cap, h3, h4, h5⟩ := h
  simp only [slA, slN, add_zero, h3]
  exact ⟨h4, h5⟩

theorem ListAt.canRead {w : World} {B : Nat} {a : Addr} {l : List Comp} (h : ListAt w B a l) (hB : B ≤ w.heap.size) {pre : List Nat} (hp : ∀ b ∈ pre, B ≤ b) :
    canRead w pre a [SV.xs (slA w (a.add 0)) (slN w (a.add 0)) (slC w (a.add 0))] := by
  obtain ⟨h1, A, n, cap, h3, h4⟩ := h
  refine ⟨by omega, fun hm => by have := hp _ hm; omega, fun j v hj => ?_⟩
  match j, hj with
  | 0, hj =>
    simp only [List.getElem?_cons_zero, Option.some.injEq] at hj
    subst hj
    simp [SV.den, slA, slN, slC, add_zero, h3]
  | j + 1, hj => simp at hj

def ListsAt (w : World) (B : Nat) (A : Option Addr) (n : Nat) (L : List (List Comp)) : Prop := SeqAt (ListAt w B) 1 B A n L

theorem ListsAt.below {w w' : World} {B B' : Nat} {A : Option Addr} {n : Nat} {l : List (List Comp)} (h : ListsAt w B A n l) (hb : Below B w w') (hB : B ≤ B') : ListsAt w' B' A n l :=
  h.imp hB fun a x _ hx => hx.below hb hB

theorem next_i {i n : Nat} (h : i < n) (hn : (n : Int) < 2 ^ 63) : IntKind.i64.wrap ((i : Int) + 1) = ((i + 1 : Nat) : Int) := by
  rw [wrapi (by omega) (by omega)]; rfl

/-- A call that yields a bool of which 'R' is known. -/
def boolHook : Hook := { X := Bool, out := fun _ s b => (.bool b false, s.objs) }

end Go.Rx
end

section
/- A plain name: MaPlain answers. -/
set_option linter.unusedVariables false
set_option maxRecDepth 20000
namespace Go.Proofs.YtdmnoagahjbjhaaGreatDoor
open Go Go.Rx Go.RowKit

def noHk : Hooks := { calls := fun _ => none, loops := fun _ _ => none }
end Go.Proofs.YtdmnoagahjbjhaaGreatDoor
end

section
/- Varints: UvarintSize, ToUvarint make bytes. -/
set_option linter.unusedVariables false
set_option linter.unusedSimpArgs false
set_option maxRecDepth 20000
namespace Go.Proofs.YtdmnoagahjbjhaaGreatDoor
open Go Go.Rx Go.RowKit
@[reducible] def lenHook : Hook := { X := Nat, out := fun _ s r => (.int .i64 r false, s.objs) }
structure UX where
  x : Nat
  i : Nat
  r : Nat
  l : List Int
def L137 : SE → List Nat
  | .normal => [0, 1, 5]
  | .ret => []
  | _ => [0, 1, 5]
def uSvs (z : UX) : List SV := [.slc 0 0 z.r z.r false false, .int .u64 z.x false, .int .i64 z.i false]
def uObjs (z : UX) : List SObj := [.ints .u8 z.l 5 0 0]
def lh137 : LoopHook := mkHookT 25 UX (.exit 0) [0, 1, 5] uSvs uObjs UX .ret [] (fun _ => []) uObjs
def hk86 : Hooks := { calls := fun f => if f = 136 then some lenHook else none, loops := fun _ _ => some lh137 }
def hk136 : Hooks := { calls := fun f => if f = 158 then some lenHook else none, loops := fun _ _ => none }
set_option maxRecDepth 100000 in
theorem t158 (n : Nat) (w : World) : xFunc Tryz.prog noHk 200 158 [.int .u64 n false] (SS.at w) =
  (.split (decide ((↑n : Int) ≥ (4294967296 : Int)))
   (.split (decide ((↑n : Int).fdiv ((2 : Int) ^ (32 : Nat)) ≥ (65536 : Int)))
    (.split (decide (((↑n : Int).fdiv ((2 : Int) ^ (32 : Nat))).fdiv ((2 : Int) ^ (16 : Nat)) ≥ (256 : Int)))
     (.need ((0 : Int) ≤ IntKind.u8.wrap ((((↑n : Int).fdiv ((2 : Int) ^ (32 : Nat))).fdiv ((2 : Int) ^ (16 : Nat))).fdiv ((2 : Int) ^ (8 : Nat))) ∧ IntKind.u8.wrap ((((↑n : Int).fdiv ((2 : Int) ^ (32 : Nat))).fdiv ((2 : Int) ^ (16 : Nat))).fdiv ((2 : Int) ^ (8 : Nat))) < (↑(256 : Nat) : Int))
     (.leaf .ret [(.int .i64 (IntKind.i64.wrap (IntKind.i64.wrap (IntKind.i64.wrap ((32 : Int) + (16 : Int)) + (8 : Int)) + IntKind.i64.wrap (↑((([(0 : UInt8), (1 : UInt8), (2 : UInt8), (2 : UInt8), (3 : UInt8), (3 : UInt8), (3 : UInt8), (3 : UInt8), (4 : UInt8), (4 : UInt8), (4 : UInt8), (4 : UInt8), (4 : UInt8), (4 : UInt8), (4 : UInt8), (4 : UInt8), (5 : UInt8), (5 : UInt8), (5 : UInt8), (5 : UInt8), (5 : UInt8), (5 : UInt8), (5 : UInt8), (5 : UInt8), (5 : UInt8), (5 : UInt8), (5 : UInt8), (5 : UInt8), (5 : UInt8), (5 : UInt8), (5 : UInt8), (5 : UInt8), (6 : UInt8), (6 : UInt8), (6 : UInt8), (6 : UInt8), (6 : UInt8), (6 : UInt8), (6 : UInt8), (6 : UInt8), (6 : UInt8), (6 : UInt8), (6 : UInt8), (6 : UInt8), (6 : UInt8), (6 : UInt8), (6 : UInt8), (6 : UInt8), (6 : UInt8), (6 : UInt8), (6 : UInt8), (6 : UInt8), (6 : UInt8), (6 : UInt8), (6 : UInt8), (6 : UInt8), (6 : UInt8), (6 : UInt8), (6 : UInt8), (6 : UInt8), (6 : UInt8), (6 : UInt8), (6 : UInt8), (6 : UInt8)].append [(7 : UInt8), (7 : UInt8), (7 : UInt8), (7 : UInt8), (7 : UInt8), (7 : UInt8), (7 : UInt8), (7 : UInt8), (7 : UInt8), (7 : UInt8), (7 : UInt8), (7 : UInt8), (7 : UInt8), (7 : UInt8), (7 : UInt8), (7 : UInt8), (7 : UInt8), (7 : UInt8), (7 : UInt8), (7 : UInt8), (7 : UInt8), (7 : UInt8), (7 : UInt8), (7 : UInt8), (7 : UInt8), (7 : UInt8), (7 : UInt8), (7 : UInt8), (7 : UInt8), (7 : UInt8), (7 : UInt8), (7 : UInt8), (7 : UInt8), (7 : UInt8), (7 : UInt8), (7 : UInt8), (7 : UInt8), (7 : UInt8), (7 : UInt8), (7 : UInt8), (7 : UInt8), (7 : UInt8), (7 : UInt8), (7 : UInt8), (7 : UInt8), (7 : UInt8), (7 : UInt8), (7 : UInt8), (7 : UInt8), (7 : UInt8), (7 : UInt8), (7 : UInt8), (7 : UInt8), (7 : UInt8), (7 : UInt8), (7 : UInt8), (7 : UInt8), (7 : UInt8), (7 : UInt8), (7 : UInt8), (7 : UInt8), (7 : UInt8), (7 : UInt8), (7 : UInt8)]).append ([(8 : UInt8), (8 : UInt8), (8 : UInt8), (8 : UInt8), (8 : UInt8), (8 : UInt8), (8 : UInt8), (8 : UInt8), (8 : UInt8), (8 : UInt8), (8 : UInt8), (8 : UInt8), (8 : UInt8), (8 : UInt8), (8 : UInt8), (8 : UInt8), (8 : UInt8), (8 : UInt8), (8 : UInt8), (8 : UInt8), (8 : UInt8), (8 : UInt8), (8 : UInt8), (8 : UInt8), (8 : UInt8), (8 : UInt8), (8 : UInt8), (8 : UInt8), (8 : UInt8), (8 : UInt8), (8 : UInt8), (8 : UInt8), (8 : UInt8), (8 : UInt8), (8 : UInt8), (8 : UInt8), (8 : UInt8), (8 : UInt8), (8 : UInt8), (8 : UInt8), (8 : UInt8), (8 : UInt8), (8 : UInt8), (8 : UInt8), (8 : UInt8), (8 : UInt8), (8 : UInt8), (8 : UInt8), (8 : UInt8), (8 : UInt8), (8 : UInt8), (8 : UInt8), (8 : UInt8), (8 : UInt8), (8 : UInt8), (8 : UInt8), (8 : UInt8), (8 : UInt8), (8 : UInt8), (8 : UInt8), (8 : UInt8), (8 : UInt8), (8 : UInt8), (8 : UInt8)].append [(8 : UInt8), (8 : UInt8), (8 : UInt8), (8 : UInt8), (8 : UInt8), (8 : UInt8), (8 : UInt8), (8 : UInt8), (8 : UInt8), (8 : UInt8), (8 : UInt8), (8 : UInt8), (8 : UInt8), (8 : UInt8), (8 : UInt8), (8 : UInt8), (8 : UInt8), (8 : UInt8), (8 : UInt8), (8 : UInt8), (8 : UInt8), (8 : UInt8), (8 : UInt8), (8 : UInt8), (8 : UInt8), (8 : UInt8), (8 : UInt8), (8 : UInt8), (8 : UInt8), (8 : UInt8), (8 : UInt8), (8 : UInt8), (8 : UInt8), (8 : UInt8), (8 : UInt8), (8 : UInt8), (8 : UInt8), (8 : UInt8), (8 : UInt8), (8 : UInt8), (8 : UInt8), (8 : UInt8), (8 : UInt8), (8 : UInt8), (8 : UInt8), (8 : UInt8), (8 : UInt8), (8 : UInt8), (8 : UInt8), (8 : UInt8), (8 : UInt8), (8 : UInt8), (8 : UInt8), (8 : UInt8), (8 : UInt8), (8 : UInt8), (8 : UInt8), (8 : UInt8), (8 : UInt8), (8 : UInt8), (8 : UInt8), (8 : UInt8), (8 : UInt8), (8 : UInt8)])).getD (IntKind.u8.wrap ((((↑n : Int).fdiv ((2 : Int) ^ (32 : Nat))).fdiv ((2 : Int) ^ (16 : Nat))).fdiv ((2 : Int) ^ (8 : Nat)))).toNat (0 : UInt8)).toNat : Int))) false)] (SS.mk [] [] true w [])))
     (.need ((0 : Int) ≤ IntKind.u8.wrap (((↑n : Int).fdiv ((2 : Int) ^ (32 : Nat))).fdiv ((2 : Int) ^ (16 : Nat))) ∧ IntKind.u8.wrap (((↑n : Int).fdiv ((2 : Int) ^ (32 : Nat))).fdiv ((2 : Int) ^ (16 : Nat))) < (↑(256 : Nat) : Int))
     (.leaf .ret [(.int .i64 (IntKind.i64.wrap (IntKind.i64.wrap ((32 : Int) + (16 : Int)) + IntKind.i64.wrap (↑((([(0 : UInt8), (1 : UInt8), (2 : UInt8), (2 : UInt8), (3 : UInt8), (3 : UInt8), (3 : UInt8), (3 : UInt8), (4 : UInt8), (4 : UInt8), (4 : UInt8), (4 : UInt8), (4 : UInt8), (4 : UInt8), (4 : UInt8), (4 : UInt8), (5 : UInt8), (5 : UInt8), (5 : UInt8), (5 : UInt8), (5 : UInt8), (5 : UInt8), (5 : UInt8), (5 : UInt8), (5 : UInt8), (5 : UInt8), (5 : UInt8), (5 : UInt8), (5 : UInt8), (5 : UInt8), (5 : UInt8), (5 : UInt8), (6 : UInt8), (6 : UInt8), (6 : UInt8), (6 : UInt8), (6 : UInt8), (6 : UInt8), (6 : UInt8), (6 : UInt8), (6 : UInt8), (6 : UInt8), (6 : UInt8), (6 : UInt8), (6 : UInt8), (6 : UInt8), (6 : UInt8), (6 : UInt8), (6 : UInt8), (6 : UInt8), (6 : UInt8), (6 : UInt8), (6 : UInt8), (6 : UInt8), (6 : UInt8), (6 : UInt8), (6 : UInt8), (6 : UInt8), (6 : UInt8), (6 : UInt8), (6 : UInt8), (6 : UInt8), (6 : UInt8), (6 : UInt8)].append [(7 : UInt8), (7 : UInt8), (7 : UInt8), (7 : UInt8), (7 : UInt8), (7 : UInt8), (7 : UInt8), (7 : UInt8), (7 : UInt8), (7 : UInt8), (7 : UInt8), (7 : UInt8), (7 : UInt8), (7 : UInt8), (7 : UInt8), (7 : UInt8), (7 : UInt8), (7 : UInt8), (7 : UInt8), (7 : UInt8), (7 : UInt8), (7 : UInt8), (7 : UInt8), (7 : UInt8), (7 : UInt8), (7 : UInt8), (7 : UInt8), (7 : UInt8), (7 : UInt8), (7 : UInt8), (7 : UInt8), (7 : UInt8), (7 : UInt8), (7 : UInt8), (7 : UInt8), (7 : UInt8), (7 : UInt8), (7 : UInt8), (7 : UInt8), (7 : UInt8), (7 : UInt8), (7 : UInt8), (7 : UInt8), (7 : UInt8), (7 : UInt8), (7 : UInt8), (7 : UInt8), (7 : UInt8), (7 : UInt8), (7 : UInt8), (7 : UInt8), (7 : UInt8), (7 : UInt8), (7 : UInt8), (7 : UInt8), (7 : UInt8), (7 : UInt8), (7 : UInt8), (7 : UInt8), (7 : UInt8), (7 : UInt8), (7 : UInt8), (7 : UInt8), (7 : UInt8)]).append ([(8 : UInt8), (8 : UInt8), (8 : UInt8), (8 : UInt8), (8 : UInt8), (8 : UInt8), (8 : UInt8), (8 : UInt8), (8 : UInt8), (8 : UInt8), (8 : UInt8), (8 : UInt8), (8 : UInt8), (8 : UInt8), (8 : UInt8), (8 : UInt8), (8 : UInt8), (8 : UInt8), (8 : UInt8), (8 : UInt8), (8 : UInt8), (8 : UInt8), (8 : UInt8), (8 : UInt8), (8 : UInt8), (8 : UInt8), (8 : UInt8), (8 : UInt8), (8 : UInt8), (8 : UInt8), (8 : UInt8), (8 : UInt8), (8 : UInt8), (8 : UInt8), (8 : UInt8), (8 : UInt8), (8 : UInt8), (8 : UInt8), (8 : UInt8), (8 : UInt8), (8 : UInt8), (8 : UInt8), (8 : UInt8), (8 : UInt8), (8 : UInt8), (8 : UInt8), (8 : UInt8), (8 : UInt8), (8 : UInt8), (8 : UInt8), (8 : UInt8), (8 : UInt8), (8 : UInt8), (8 : UInt8), (8 : UInt8), (8 : UInt8), (8 : UInt8), (8 : UInt8), (8 : UInt8), (8 : UInt8), (8 : UInt8), (8 : UInt8), (8 : UInt8), (8 : UInt8)].append [(8 : UInt8), (8 : UInt8), (8 : UInt8), (8 : UInt8), (8 : UInt8), (8 : UInt8), (8 : UInt8), (8 : UInt8), (8 : UInt8), (8 : UInt8), (8 : UInt8), (8 : UInt8), (8 : UInt8), (8 : UInt8), (8 : UInt8), (8 : UInt8), (8 : UInt8), (8 : UInt8), (8 : UInt8), (8 : UInt8), (8 : UInt8), (8 : UInt8), (8 : UInt8), (8 : UInt8), (8 : UInt8), (8 : UInt8), (8 : UInt8), (8 : UInt8), (8 : UInt8), (8 : UInt8), (8 : UInt8), (8 : UInt8), (8 : UInt8), (8 : UInt8), (8 : UInt8), (8 : UInt8), (8 : UInt8), (8 : UInt8), (8 : UInt8), (8 : UInt8), (8 : UInt8), (8 : UInt8), (8 : UInt8), (8 : UInt8), (8 : UInt8), (8 : UInt8), (8 : UInt8), (8 : UInt8), (8 : UInt8), (8 : UInt8), (8 : UInt8), (8 : UInt8), (8 : UInt8), (8 : UInt8), (8 : UInt8), (8 : UInt8), (8 : UInt8), (8 : UInt8), (8 : UInt8), (8 : UInt8), (8 : UInt8), (8 : UInt8), (8 : UInt8), (8 : UInt8)])).getD (IntKind.u8.wrap (((↑n : Int).fdiv ((2 : Int) ^ (32 : Nat))).fdiv ((2 : Int) ^ (16 : Nat)))).toNat (0 : UInt8)).toNat : Int))) false)] (SS.mk [] [] true w []))))
    (.split (decide ((↑n : Int).fdiv ((2 : Int) ^ (32 : Nat)) ≥ (256 : Int)))
     (.need ((0 : Int) ≤ IntKind.u8.wrap (((↑n : Int).fdiv ((2 : Int) ^ (32 : Nat))).fdiv ((2 : Int) ^ (8 : Nat))) ∧ IntKind.u8.wrap (((↑n : Int).fdiv ((2 : Int) ^ (32 : Nat))).fdiv ((2 : Int) ^ (8 : Nat))) < (↑(256 : Nat) : Int))
     (.leaf .ret [(.int .i64 (IntKind.i64.wrap (IntKind.i64.wrap ((32 : Int) + (8 : Int)) + IntKind.i64.wrap (↑((([(0 : UInt8), (1 : UInt8), (2 : UInt8), (2 : UInt8), (3 : UInt8), (3 : UInt8), (3 : UInt8), (3 : UInt8), (4 : UInt8), (4 : UInt8), (4 : UInt8), (4 : UInt8), (4 : UInt8), (4 : UInt8), (4 : UInt8), (4 : UInt8), (5 : UInt8), (5 : UInt8), (5 : UInt8), (5 : UInt8), (5 : UInt8), (5 : UInt8), (5 : UInt8), (5 : UInt8), (5 : UInt8), (5 : UInt8), (5 : UInt8), (5 : UInt8), (5 : UInt8), (5 : UInt8), (5 : UInt8), (5 : UInt8), (6 : UInt8), (6 : UInt8), (6 : UInt8), (6 : UInt8), (6 : UInt8), (6 : UInt8), (6 : UInt8), (6 : UInt8), (6 : UInt8), (6 : UInt8), (6 : UInt8), (6 : UInt8), (6 : UInt8), (6 : UInt8), (6 : UInt8), (6 : UInt8), (6 : UInt8), (6 : UInt8), (6 : UInt8), (6 : UInt8), (6 : UInt8), (6 : UInt8), (6 : UInt8), (6 : UInt8), (6 : UInt8), (6 : UInt8), (6 : UInt8), (6 : UInt8), (6 : UInt8), (6 : UInt8), (6 : UInt8), (6 : UInt8)].append [(7 : UInt8), (7 : UInt8), (7 : UInt8), (7 : UInt8), (7 : UInt8), (7 : UInt8), (7 : UInt8), (7 : UInt8), (7 : UInt8), (7 : UInt8), (7 : UInt8), (7 : UInt8), (7 : UInt8), (7 : UInt8), (7 : UInt8), (7 : UInt8), (7 : UInt8), (7 : UInt8), (7 : UInt8), (7 : UInt8), (7 : UInt8), (7 : UInt8), (7 : UInt8), (7 : UInt8), (7 : UInt8), (7 : UInt8), (7 : UInt8), (7 : UInt8), (7 : UInt8), (7 : UInt8), (7 : UInt8), (7 : UInt8), (7 : UInt8), (7 : UInt8), (7 : UInt8), (7 : UInt8), (7 : UInt8), (7 : UInt8), (7 : UInt8), (7 : UInt8), (7 : UInt8), (7 : UInt8), (7 : UInt8), (7 : UInt8), (7 : UInt8), (7 : UInt8), (7 : UInt8), (7 : UInt8), (7 : UInt8), (7 : UInt8), (7 : UInt8), (7 : UInt8), (7 : UInt8), (7 : UInt8), (7 : UInt8), (7 : UInt8), (7 : UInt8), (7 : UInt8), (7 : UInt8), (7 : UInt8), (7 : UInt8), (7 : UInt8), (7 : UInt8), (7 : UInt8)]).append ([(8 : UInt8), (8 : UInt8), (8 : UInt8), (8 : UInt8), (8 : UInt8), (8 : UInt8), (8 : UInt8), (8 : UInt8), (8 : UInt8), (8 : UInt8), (8 : UInt8), (8 : UInt8), (8 : UInt8), (8 : UInt8), (8 : UInt8), (8 : UInt8), (8 : UInt8), (8 : UInt8), (8 : UInt8), (8 : UInt8), (8 : UInt8), (8 : UInt8), (8 : UInt8), (8 : UInt8), (8 : UInt8), (8 : UInt8), (8 : UInt8), (8 : UInt8), (8 : UInt8), (8 : UInt8), (8 : UInt8), (8 : UInt8), (8 : UInt8), (8 : UInt8), (8 : UInt8), (8 : UInt8), (8 : UInt8), (8 : UInt8), (8 : UInt8), (8 : UInt8), (8 : UInt8), (8 : UInt8), (8 : UInt8), (8 : UInt8), (8 : UInt8), (8 : UInt8), (8 : UInt8), (8 : UInt8), (8 : UInt8), (8 : UInt8), (8 : UInt8), (8 : UInt8), (8 : UInt8), (8 : UInt8), (8 : UInt8), (8 : UInt8), (8 : UInt8), (8 : UInt8), (8 : UInt8), (8 : UInt8), (8 : UInt8), (8 : UInt8), (8 : UInt8), (8 : UInt8)].append [(8 : UInt8), (8 : UInt8), (8 : UInt8), (8 : UInt8), (8 : UInt8), (8 : UInt8), (8 : UInt8), (8 : UInt8), (8 : UInt8), (8 : UInt8), (8 : UInt8), (8 : UInt8), (8 : UInt8), (8 : UInt8), (8 : UInt8), (8 : UInt8), (8 : UInt8), (8 : UInt8), (8 : UInt8), (8 : UInt8), (8 : UInt8), (8 : UInt8), (8 : UInt8), (8 : UInt8), (8 : UInt8), (8 : UInt8), (8 : UInt8), (8 : UInt8), (8 : UInt8), (8 : UInt8), (8 : UInt8), (8 : UInt8), (8 : UInt8), (8 : UInt8), (8 : UInt8), (8 : UInt8), (8 : UInt8), (8 : UInt8), (8 : UInt8), (8 : UInt8), (8 : UInt8), (8 : UInt8), (8 : UInt8), (8 : UInt8), (8 : UInt8), (8 : UInt8), (8 : UInt8), (8 : UInt8), (8 : UInt8), (8 : UInt8), (8 : UInt8), (8 : UInt8), (8 : UInt8), (8 : UInt8), (8 : UInt8), (8 : UInt8), (8 : UInt8), (8 : UInt8), (8 : UInt8), (8 : UInt8), (8 : UInt8), (8 : UInt8), (8 : UInt8), (8 : UInt8)])).getD (IntKind.u8.wrap (((↑n : Int).fdiv ((2 : Int) ^ (32 : Nat))).fdiv ((2 : Int) ^ (8 : Nat)))).toNat (0 : UInt8)).toNat : Int))) false)] (SS.mk [] [] true w [])))
     (.need ((0 : Int) ≤ IntKind.u8.wrap ((↑n : Int).fdiv ((2 : Int) ^ (32 : Nat))) ∧ IntKind.u8.wrap ((↑n : Int).fdiv ((2 : Int) ^ (32 : Nat))) < (↑(256 : Nat) : Int))
     (.leaf .ret [(.int .i64 (IntKind.i64.wrap ((32 : Int) + IntKind.i64.wrap (↑((([(0 : UInt8), (1 : UInt8), (2 : UInt8), (2 : UInt8), (3 : UInt8), (3 : UInt8), (3 : UInt8), (3 : UInt8), (4 : UInt8), (4 : UInt8), (4 : UInt8), (4 : UInt8), (4 : UInt8), (4 : UInt8), (4 : UInt8), (4 : UInt8), (5 : UInt8), (5 : UInt8), (5 : UInt8), (5 : UInt8), (5 : UInt8), (5 : UInt8), (5 : UInt8), (5 : UInt8), (5 : UInt8), (5 : UInt8), (5 : UInt8), (5 : UInt8), (5 : UInt8), (5 : UInt8), (5 : UInt8), (5 : UInt8), (6 : UInt8), (6 : UInt8), (6 : UInt8), (6 : UInt8), (6 : UInt8), (6 : UInt8), (6 : UInt8), (6 : UInt8), (6 : UInt8), (6 : UInt8), (6 : UInt8), (6 : UInt8), (6 : UInt8), (6 : UInt8), (6 : UInt8), (6 : UInt8), (6 : UInt8), (6 : UInt8), (6 : UInt8), (6 : UInt8), (6 : UInt8), (6 : UInt8), (6 : UInt8), (6 : UInt8), (6 : UInt8), (6 : UInt8), (6 : UInt8), (6 : UInt8), (6 : UInt8), (6 : UInt8), (6 : UInt8), (6 : UInt8)].append [(7 : UInt8), (7 : UInt8), (7 : UInt8), (7 : UInt8), (7 : UInt8), (7 : UInt8), (7 : UInt8), (7 : UInt8), (7 : UInt8), (7 : UInt8), (7 : UInt8), (7 : UInt8), (7 : UInt8), (7 : UInt8), (7 : UInt8), (7 : UInt8), (7 : UInt8), (7 : UInt8), (7 : UInt8), (7 : UInt8), (7 : UInt8), (7 : UInt8), (7 : UInt8), (7 : UInt8), (7 : UInt8), (7 : UInt8), (7 : UInt8), (7 : UInt8), (7 : UInt8), (7 : UInt8), (7 : UInt8), (7 : UInt8), (7 : UInt8), (7 : UInt8), (7 : UInt8), (7 : UInt8), (7 : UInt8), (7 : UInt8), (7 : UInt8), (7 : UInt8), (7 : UInt8), (7 : UInt8), (7 : UInt8), (7 : UInt8), (7 : UInt8), (7 : UInt8), (7 : UInt8), (7 : UInt8), (7 : UInt8), (7 : UInt8), (7 : UInt8), (7 : UInt8), (7 : UInt8), (7 : UInt8), (7 : UInt8), (7 : UInt8), (7 : UInt8), (7 : UInt8), (7 : UInt8), (7 : UInt8), (7 : UInt8), (7 : UInt8), (7 : UInt8), (7 : UInt8)]).append ([(8 : UInt8), (8 : UInt8), (8 : UInt8), (8 : UInt8), (8 : UInt8), (8 : UInt8), (8 : UInt8), (8 : UInt8), (8 : UInt8), (8 : UInt8), (8 : UInt8), (8 : UInt8), (8 : UInt8), (8 : UInt8), (8 : UInt8), (8 : UInt8), (8 : UInt8), (8 : UInt8), (8 : UInt8), (8 : UInt8), (8 : UInt8), (8 : UInt8), (8 : UInt8), (8 : UInt8), (8 : UInt8), (8 : UInt8), (8 : UInt8), (8 : UInt8), (8 : UInt8), (8 : UInt8), (8 : UInt8), (8 : UInt8), (8 : UInt8), (8 : UInt8), (8 : UInt8), (8 : UInt8), (8 : UInt8), (8 : UInt8), (8 : UInt8), (8 : UInt8), (8 : UInt8), (8 : UInt8), (8 : UInt8), (8 : UInt8), (8 : UInt8), (8 : UInt8), (8 : UInt8), (8 : UInt8), (8 : UInt8), (8 : UInt8), (8 : UInt8), (8 : UInt8), (8 : UInt8), (8 : UInt8), (8 : UInt8), (8 : UInt8), (8 : UInt8), (8 : UInt8), (8 : UInt8), (8 : UInt8), (8 : UInt8), (8 : UInt8), (8 : UInt8), (8 : UInt8)].append [(8 : UInt8), (8 : UInt8), (8 : UInt8), (8 : UInt8), (8 : UInt8), (8 : UInt8), (8 : UInt8), (8 : UInt8), (8 : UInt8), (8 : UInt8), (8 : UInt8), (8 : UInt8), (8 : UInt8), (8 : UInt8), (8 : UInt8), (8 : UInt8), (8 : UInt8), (8 : UInt8), (8 : UInt8), (8 : UInt8), (8 : UInt8), (8 : UInt8), (8 : UInt8), (8 : UInt8), (8 : UInt8), (8 : UInt8), (8 : UInt8), (8 : UInt8), (8 : UInt8), (8 : UInt8), (8 : UInt8), (8 : UInt8), (8 : UInt8), (8 : UInt8), (8 : UInt8), (8 : UInt8), (8 : UInt8), (8 : UInt8), (8 : UInt8), (8 : UInt8), (8 : UInt8), (8 : UInt8), (8 : UInt8), (8 : UInt8), (8 : UInt8), (8 : UInt8), (8 : UInt8), (8 : UInt8), (8 : UInt8), (8 : UInt8), (8 : UInt8), (8 : UInt8), (8 : UInt8), (8 : UInt8), (8 : UInt8), (8 : UInt8), (8 : UInt8), (8 : UInt8), (8 : UInt8), (8 : UInt8), (8 : UInt8), (8 : UInt8), (8 : UInt8), (8 : UInt8)])).getD (IntKind.u8.wrap ((↑n : Int).fdiv ((2 : Int) ^ (32 : Nat)))).toNat (0 : UInt8)).toNat : Int))) false)] (SS.mk [] [] true w [])))))
   (.split (decide ((↑n : Int) ≥ (65536 : Int)))
    (.split (decide ((↑n : Int).fdiv ((2 : Int) ^ (16 : Nat)) ≥ (256 : Int)))
     (.need ((0 : Int) ≤ IntKind.u8.wrap (((↑n : Int).fdiv ((2 : Int) ^ (16 : Nat))).fdiv ((2 : Int) ^ (8 : Nat))) ∧ IntKind.u8.wrap (((↑n : Int).fdiv ((2 : Int) ^ (16 : Nat))).fdiv ((2 : Int) ^ (8 : Nat))) < (↑(256 : Nat) : Int))
     (.leaf .ret [(.int .i64 (IntKind.i64.wrap (IntKind.i64.wrap (IntKind.i64.wrap ((0 : Int) + (16 : Int)) + (8 : Int)) + IntKind.i64.wrap (↑((([(0 : UInt8), (1 : UInt8), (2 : UInt8), (2 : UInt8), (3 : UInt8), (3 : UInt8), (3 : UInt8), (3 : UInt8), (4 : UInt8), (4 : UInt8), (4 : UInt8), (4 : UInt8), (4 : UInt8), (4 : UInt8), (4 : UInt8), (4 : UInt8), (5 : UInt8), (5 : UInt8), (5 : UInt8), (5 : UInt8), (5 : UInt8), (5 : UInt8), (5 : UInt8), (5 : UInt8), (5 : UInt8), (5 : UInt8), (5 : UInt8), (5 : UInt8), (5 : UInt8), (5 : UInt8), (5 : UInt8), (5 : UInt8), (6 : UInt8), (6 : UInt8), (6 : UInt8), (6 : UInt8), (6 : UInt8), (6 : UInt8), (6 : UInt8), (6 : UInt8), (6 : UInt8), (6 : UInt8), (6 : UInt8), (6 : UInt8), (6 : UInt8), (6 : UInt8), (6 : UInt8), (6 : UInt8), (6 : UInt8), (6 : UInt8), (6 : UInt8), (6 : UInt8), (6 : UInt8), (6 : UInt8), (6 : UInt8), (6 : UInt8), (6 : UInt8), (6 : UInt8), (6 : UInt8), (6 : UInt8), (6 : UInt8), (6 : UInt8), (6 : UInt8), (6 : UInt8)].append [(7 : UInt8), (7 : UInt8), (7 : UInt8), (7 : UInt8), (7 : UInt8), (7 : UInt8), (7 : UInt8), (7 : UInt8), (7 : UInt8), (7 : UInt8), (7 : UInt8), (7 : UInt8), (7 : UInt8), (7 : UInt8), (7 : UInt8), (7 : UInt8), (7 : UInt8), (7 : UInt8), (7 : UInt8), (7 : UInt8), (7 : UInt8), (7 : UInt8), (7 : UInt8), (7 : UInt8), (7 : UInt8), (7 : UInt8), (7 : UInt8), (7 : UInt8), (7 : UInt8), (7 : UInt8), (7 : UInt8), (7 : UInt8), (7 : UInt8), (7 : UInt8), (7 : UInt8), (7 : UInt8), (7 : UInt8), (7 : UInt8), (7 : UInt8), (7 : UInt8), (7 : UInt8), (7 : UInt8), (7 : UInt8), (7 : UInt8), (7 : UInt8), (7 : UInt8), (7 : UInt8), (7 : UInt8), (7 : UInt8), (7 : UInt8), (7 : UInt8), (7 : UInt8), (7 : UInt8), (7 : UInt8), (7 : UInt8), (7 : UInt8), (7 : UInt8), (7 : UInt8), (7 : UInt8), (7 : UInt8), (7 : UInt8), (7 : UInt8), (7 : UInt8), (7 : UInt8)]).append ([(8 : UInt8), (8 : UInt8), (8 : UInt8), (8 : UInt8), (8 : UInt8), (8 : UInt8), (8 : UInt8), (8 : UInt8), (8 : UInt8), (8 : UInt8), (8 : UInt8), (8 : UInt8), (8 : UInt8), (8 : UInt8), (8 : UInt8), (8 : UInt8), (8 : UInt8), (8 : UInt8), (8 : UInt8), (8 : UInt8), (8 : UInt8), (8 : UInt8), (8 : UInt8), (8 : UInt8), (8 : UInt8), (8 : UInt8), (8 : UInt8), (8 : UInt8), (8 : UInt8), (8 : UInt8), (8 : UInt8), (8 : UInt8), (8 : UInt8), (8 : UInt8), (8 : UInt8), (8 : UInt8), (8 : UInt8), (8 : UInt8), (8 : UInt8), (8 : UInt8), (8 : UInt8), (8 : UInt8), (8 : UInt8), (8 : UInt8), (8 : UInt8), (8 : UInt8), (8 : UInt8), (8 : UInt8), (8 : UInt8), (8 : UInt8), (8 : UInt8), (8 : UInt8), (8 : UInt8), (8 : UInt8), (8 : UInt8), (8 : UInt8), (8 : UInt8), (8 : UInt8), (8 : UInt8), (8 : UInt8), (8 : UInt8), (8 : UInt8), (8 : UInt8), (8 : UInt8)].append [(8 : UInt8), (8 : UInt8), (8 : UInt8), (8 : UInt8), (8 : UInt8), (8 : UInt8), (8 : UInt8), (8 : UInt8), (8 : UInt8), (8 : UInt8), (8 : UInt8), (8 : UInt8), (8 : UInt8), (8 : UInt8), (8 : UInt8), (8 : UInt8), (8 : UInt8), (8 : UInt8), (8 : UInt8), (8 : UInt8), (8 : UInt8), (8 : UInt8), (8 : UInt8), (8 : UInt8), (8 : UInt8), (8 : UInt8), (8 : UInt8), (8 : UInt8), (8 : UInt8), (8 : UInt8), (8 : UInt8), (8 : UInt8), (8 : UInt8), (8 : UInt8), (8 : UInt8), (8 : UInt8), (8 : UInt8), (8 : UInt8), (8 : UInt8), (8 : UInt8), (8 : UInt8), (8 : UInt8), (8 : UInt8), (8 : UInt8), (8 : UInt8), (8 : UInt8), (8 : UInt8), (8 : UInt8), (8 : UInt8), (8 : UInt8), (8 : UInt8), (8 : UInt8), (8 : UInt8), (8 : UInt8), (8 : UInt8), (8 : UInt8), (8 : UInt8), (8 : UInt8), (8 : UInt8), (8 : UInt8), (8 : UInt8), (8 : UInt8), (8 : UInt8), (8 : UInt8)])).getD (IntKind.u8.wrap (((↑n : Int).fdiv ((2 : Int) ^ (16 : Nat))).fdiv ((2 : Int) ^ (8 : Nat)))).toNat (0 : UInt8)).toNat : Int))) false)] (SS.mk [] [] true w [])))
     (.need ((0 : Int) ≤ IntKind.u8.wrap ((↑n : Int).fdiv ((2 : Int) ^ (16 : Nat))) ∧ IntKind.u8.wrap ((↑n : Int).fdiv ((2 : Int) ^ (16 : Nat))) < (↑(256 : Nat) : Int))
     (.leaf .ret [(.int .i64 (IntKind.i64.wrap (IntKind.i64.wrap ((0 : Int) + (16 : Int)) + IntKind.i64.wrap (↑((([(0 : UInt8), (1 : UInt8), (2 : UInt8), (2 : UInt8), (3 : UInt8), (3 : UInt8), (3 : UInt8), (3 : UInt8), (4 : UInt8), (4 : UInt8), (4 : UInt8), (4 : UInt8), (4 : UInt8), (4 : UInt8), (4 : UInt8), (4 : UInt8), (5 : UInt8), (5 : UInt8), (5 : UInt8), (5 : UInt8), (5 : UInt8), (5 : UInt8), (5 : UInt8), (5 : UInt8), (5 : UInt8), (5 : UInt8), (5 : UInt8), (5 : UInt8), (5 : UInt8), (5 : UInt8), (5 : UInt8), (5 : UInt8), (6 : UInt8), (6 : UInt8), (6 : UInt8), (6 : UInt8), (6 : UInt8), (6 : UInt8), (6 : UInt8), (6 : UInt8), (6 : UInt8), (6 : UInt8), (6 : UInt8), (6 : UInt8), (6 : UInt8), (6 : UInt8), (6 : UInt8), (6 : UInt8), (6 : UInt8), (6 : UInt8), (6 : UInt8), (6 : UInt8), (6 : UInt8), (6 : UInt8), (6 : UInt8), (6 : UInt8), (6 : UInt8), (6 : UInt8), (6 : UInt8), (6 : UInt8), (6 : UInt8), (6 : UInt8), (6 : UInt8), (6 : UInt8)].append [(7 : UInt8), (7 : UInt8), (7 : UInt8), (7 : UInt8), (7 : UInt8), (7 : UInt8), (7 : UInt8), (7 : UInt8), (7 : UInt8), (7 : UInt8), (7 : UInt8), (7 : UInt8), (7 : UInt8), (7 : UInt8), (7 : UInt8), (7 : UInt8), (7 : UInt8), (7 : UInt8), (7 : UInt8), (7 : UInt8), (7 : UInt8), (7 : UInt8), (7 : UInt8), (7 : UInt8), (7 : UInt8), (7 : UInt8), (7 : UInt8), (7 : UInt8), (7 : UInt8), (7 : UInt8), (7 : UInt8), (7 : UInt8), (7 : UInt8), (7 : UInt8), (7 : UInt8), (7 : UInt8), (7 : UInt8), (7 : UInt8), (7 : UInt8), (7 : UInt8), (7 : UInt8), (7 : UInt8), (7 : UInt8), (7 : UInt8), (7 : UInt8), (7 : UInt8), (7 : UInt8), (7 : UInt8), (7 : UInt8), (7 : UInt8), (7 : UInt8), (7 : UInt8), (7 : UInt8), (7 : UInt8), (7 : UInt8), (7 : UInt8), (7 : UInt8), (7 : UInt8), (7 : UInt8), (7 : UInt8), (7 : UInt8), (7 : UInt8), (7 : UInt8), (7 : UInt8)]).append ([(8 : UInt8), (8 : UInt8), (8 : UInt8), (8 : UInt8), (8 : UInt8), (8 : UInt8), (8 : UInt8), (8 : UInt8), (8 : UInt8), (8 : UInt8), (8 : UInt8), (8 : UInt8), (8 : UInt8), (8 : UInt8), (8 : UInt8), (8 : UInt8), (8 : UInt8), (8 : UInt8), (8 : UInt8), (8 : UInt8), (8 : UInt8), (8 : UInt8), (8 : UInt8), (8 : UInt8), (8 : UInt8), (8 : UInt8), (8 : UInt8), (8 : UInt8), (8 : UInt8), (8 : UInt8), (8 : UInt8), (8 : UInt8), (8 : UInt8), (8 : UInt8), (8 : UInt8), (8 : UInt8), (8 : UInt8), (8 : UInt8), (8 : UInt8), (8 : UInt8), (8 : UInt8), (8 : UInt8), (8 : UInt8), (8 : UInt8), (8 : UInt8), (8 : UInt8), (8 : UInt8), (8 : UInt8), (8 : UInt8), (8 : UInt8), (8 : UInt8), (8 : UInt8), (8 : UInt8), (8 : UInt8), (8 : UInt8), (8 : UInt8), (8 : UInt8), (8 : UInt8), (8 : UInt8), (8 : UInt8), (8 : UInt8), (8 : UInt8), (8 : UInt8), (8 : UInt8)].append [(8 : UInt8), (8 : UInt8), (8 : UInt8), (8 : UInt8), (8 : UInt8), (8 : UInt8), (8 : UInt8), (8 : UInt8), (8 : UInt8), (8 : UInt8), (8 : UInt8), (8 : UInt8), (8 : UInt8), (8 : UInt8), (8 : UInt8), (8 : UInt8), (8 : UInt8), (8 : UInt8), (8 : UInt8), (8 : UInt8), (8 : UInt8), (8 : UInt8), (8 : UInt8), (8 : UInt8), (8 : UInt8), (8 : UInt8), (8 : UInt8), (8 : UInt8), (8 : UInt8), (8 : UInt8), (8 : UInt8), (8 : UInt8), (8 : UInt8), (8 : UInt8), (8 : UInt8), (8 : UInt8), (8 : UInt8), (8 : UInt8), (8 : UInt8), (8 : UInt8), (8 : UInt8), (8 : UInt8), (8 : UInt8), (8 : UInt8), (8 : UInt8), (8 : UInt8), (8 : UInt8), (8 : UInt8), (8 : UInt8), (8 : UInt8), (8 : UInt8), (8 : UInt8), (8 : UInt8), (8 : UInt8), (8 : UInt8), (8 : UInt8), (8 : UInt8), (8 : UInt8), (8 : UInt8), (8 : UInt8), (8 : UInt8), (8 : UInt8), (8 : UInt8), (8 : UInt8)])).getD (IntKind.u8.wrap ((↑n : Int).fdiv ((2 : Int) ^ (16 : Nat)))).toNat (0 : UInt8)).toNat : Int))) false)] (SS.mk [] [] true w []))))
    (.split (decide ((↑n : Int) ≥ (256 : Int)))
     (.need ((0 : Int) ≤ IntKind.u8.wrap ((↑n : Int).fdiv ((2 : Int) ^ (8 : Nat))) ∧ IntKind.u8.wrap ((↑n : Int).fdiv ((2 : Int) ^ (8 : Nat))) < (↑(256 : Nat) : Int))
     (.leaf .ret [(.int .i64 (IntKind.i64.wrap (IntKind.i64.wrap ((0 : Int) + (8 : Int)) + IntKind.i64.wrap (↑((([(0 : UInt8), (1 : UInt8), (2 : UInt8), (2 : UInt8), (3 : UInt8), (3 : UInt8), (3 : UInt8), (3 : UInt8), (4 : UInt8), (4 : UInt8), (4 : UInt8), (4 : UInt8), (4 : UInt8), (4 : UInt8), (4 : UInt8), (4 : UInt8), (5 : UInt8), (5 : UInt8), (5 : UInt8), (5 : UInt8), (5 : UInt8), (5 : UInt8), (5 : UInt8), (5 : UInt8), (5 : UInt8), (5 : UInt8), (5 : UInt8), (5 : UInt8), (5 : UInt8), (5 : UInt8), (5 : UInt8), (5 : UInt8), (6 : UInt8), (6 : UInt8), (6 : UInt8), (6 : UInt8), (6 : UInt8), (6 : UInt8), (6 : UInt8), (6 : UInt8), (6 : UInt8), (6 : UInt8), (6 : UInt8), (6 : UInt8), (6 : UInt8), (6 : UInt8), (6 : UInt8), (6 : UInt8), (6 : UInt8), (6 : UInt8), (6 : UInt8), (6 : UInt8), (6 : UInt8), (6 : UInt8), (6 : UInt8), (6 : UInt8), (6 : UInt8), (6 : UInt8), (6 : UInt8), (6 : UInt8), (6 : UInt8), (6 : UInt8), (6 : UInt8), (6 : UInt8)].append [(7 : UInt8), (7 : UInt8), (7 : UInt8), (7 : UInt8), (7 : UInt8), (7 : UInt8), (7 : UInt8), (7 : UInt8), (7 : UInt8), (7 : UInt8), (7 : UInt8), (7 : UInt8), (7 : UInt8), (7 : UInt8), (7 : UInt8), (7 : UInt8), (7 : UInt8), (7 : UInt8), (7 : UInt8), (7 : UInt8), (7 : UInt8), (7 : UInt8), (7 : UInt8), (7 : UInt8), (7 : UInt8), (7 : UInt8), (7 : UInt8), (7 : UInt8), (7 : UInt8), (7 : UInt8), (7 : UInt8), (7 : UInt8), (7 : UInt8), (7 : UInt8), (7 : UInt8), (7 : UInt8), (7 : UInt8), (7 : UInt8), (7 : UInt8), (7 : UInt8), (7 : UInt8), (7 : UInt8), (7 : UInt8), (7 : UInt8), (7 : UInt8), (7 : UInt8), (7 : UInt8), (7 : UInt8), (7 : UInt8), (7 : UInt8), (7 : UInt8), (7 : UInt8), (7 : UInt8), (7 : UInt8), (7 : UInt8), (7 : UInt8), (7 : UInt8), (7 : UInt8), (7 : UInt8), (7 : UInt8), (7 : UInt8), (7 : UInt8), (7 : UInt8), (7 : UInt8)]).append ([(8 : UInt8), (8 : UInt8), (8 : UInt8), (8 : UInt8), (8 : UInt8), (8 : UInt8), (8 : UInt8), (8 : UInt8), (8 : UInt8), (8 : UInt8), (8 : UInt8), (8 : UInt8), (8 : UInt8), (8 : UInt8), (8 : UInt8), (8 : UInt8), (8 : UInt8), (8 : UInt8), (8 : UInt8), (8 : UInt8), (8 : UInt8), (8 : UInt8), (8 : UInt8), (8 : UInt8), (8 : UInt8), (8 : UInt8), (8 : UInt8), (8 : UInt8), (8 : UInt8), (8 : UInt8), (8 : UInt8), (8 : UInt8), (8 : UInt8), (8 : UInt8), (8 : UInt8), (8 : UInt8), (8 : UInt8), (8 : UInt8), (8 : UInt8), (8 : UInt8), (8 : UInt8), (8 : UInt8), (8 : UInt8), (8 : UInt8), (8 : UInt8), (8 : UInt8), (8 : UInt8), (8 : UInt8), (8 : UInt8), (8 : UInt8), (8 : UInt8), (8 : UInt8), (8 : UInt8), (8 : UInt8), (8 : UInt8), (8 : UInt8), (8 : UInt8), (8 : UInt8), (8 : UInt8), (8 : UInt8), (8 : UInt8), (8 : UInt8), (8 : UInt8), (8 : UInt8)].append [(8 : UInt8), (8 : UInt8), (8 : UInt8), (8 : UInt8), (8 : UInt8), (8 : UInt8), (8 : UInt8), (8 : UInt8), (8 : UInt8), (8 : UInt8), (8 : UInt8), (8 : UInt8), (8 : UInt8), (8 : UInt8), (8 : UInt8), (8 : UInt8), (8 : UInt8), (8 : UInt8), (8 : UInt8), (8 : UInt8), (8 : UInt8), (8 : UInt8), (8 : UInt8), (8 : UInt8), (8 : UInt8), (8 : UInt8), (8 : UInt8), (8 : UInt8), (8 : UInt8), (8 : UInt8), (8 : UInt8), (8 : UInt8), (8 : UInt8), (8 : UInt8), (8 : UInt8), (8 : UInt8), (8 : UInt8), (8 : UInt8), (8 : UInt8), (8 : UInt8), (8 : UInt8), (8 : UInt8), (8 : UInt8), (8 : UInt8), (8 : UInt8), (8 : UInt8), (8 : UInt8), (8 : UInt8), (8 : UInt8), (8 : UInt8), (8 : UInt8), (8 : UInt8), (8 : UInt8), (8 : UInt8), (8 : UInt8), (8 : UInt8), (8 : UInt8), (8 : UInt8), (8 : UInt8), (8 : UInt8), (8 : UInt8), (8 : UInt8), (8 : UInt8), (8 : UInt8)])).getD (IntKind.u8.wrap ((↑n : Int).fdiv ((2 : Int) ^ (8 : Nat)))).toNat (0 : UInt8)).toNat : Int))) false)] (SS.mk [] [] true w [])))
     (.need ((0 : Int) ≤ IntKind.u8.wrap (↑n : Int) ∧ IntKind.u8.wrap (↑n : Int) < (↑(256 : Nat) : Int))
     (.leaf .ret [(.int .i64 (IntKind.i64.wrap ((0 : Int) + IntKind.i64.wrap (↑((([(0 : UInt8), (1 : UInt8), (2 : UInt8), (2 : UInt8), (3 : UInt8), (3 : UInt8), (3 : UInt8), (3 : UInt8), (4 : UInt8), (4 : UInt8), (4 : UInt8), (4 : UInt8), (4 : UInt8), (4 : UInt8), (4 : UInt8), (4 : UInt8), (5 : UInt8), (5 : UInt8), (5 : UInt8), (5 : UInt8), (5 : UInt8), (5 : UInt8), (5 : UInt8), (5 : UInt8), (5 : UInt8), (5 : UInt8), (5 : UInt8), (5 : UInt8), (5 : UInt8), (5 : UInt8), (5 : UInt8), (5 : UInt8), (6 : UInt8), (6 : UInt8), (6 : UInt8), (6 : UInt8), (6 : UInt8), (6 : UInt8), (6 : UInt8), (6 : UInt8), (6 : UInt8), (6 : UInt8), (6 : UInt8), (6 : UInt8), (6 : UInt8), (6 : UInt8), (6 : UInt8), (6 : UInt8), (6 : UInt8), (6 : UInt8), (6 : UInt8), (6 : UInt8), (6 : UInt8), (6 : UInt8), (6 : UInt8), (6 : UInt8), (6 : UInt8), (6 : UInt8), (6 : UInt8), (6 : UInt8), (6 : UInt8), (6 : UInt8), (6 : UInt8), (6 : UInt8)].append [(7 : UInt8), (7 : UInt8), (7 : UInt8), (7 : UInt8), (7 : UInt8), (7 : UInt8), (7 : UInt8), (7 : UInt8), (7 : UInt8), (7 : UInt8), (7 : UInt8), (7 : UInt8), (7 : UInt8), (7 : UInt8), (7 : UInt8), (7 : UInt8), (7 : UInt8), (7 : UInt8), (7 : UInt8), (7 : UInt8), (7 : UInt8), (7 : UInt8), (7 : UInt8), (7 : UInt8), (7 : UInt8), (7 : UInt8), (7 : UInt8), (7 : UInt8), (7 : UInt8), (7 : UInt8), (7 : UInt8), (7 : UInt8), (7 : UInt8), (7 : UInt8), (7 : UInt8), (7 : UInt8), (7 : UInt8), (7 : UInt8), (7 : UInt8), (7 : UInt8), (7 : UInt8), (7 : UInt8), (7 : UInt8), (7 : UInt8), (7 : UInt8), (7 : UInt8), (7 : UInt8), (7 : UInt8), (7 : UInt8), (7 : UInt8), (7 : UInt8), (7 : UInt8), (7 : UInt8), (7 : UInt8), (7 : UInt8), (7 : UInt8), (7 : UInt8), (7 : UInt8), (7 : UInt8), (7 : UInt8), (7 : UInt8), (7 : UInt8), (7 : UInt8), (7 : UInt8)]).append ([(8 : UInt8), (8 : UInt8), (8 : UInt8), (8 : UInt8), (8 : UInt8), (8 : UInt8), (8 : UInt8), (8 : UInt8), (8 : UInt8), (8 : UInt8), (8 : UInt8), (8 : UInt8), (8 : UInt8), (8 : UInt8), (8 : UInt8), (8 : UInt8), (8 : UInt8), (8 : UInt8), (8 : UInt8), (8 : UInt8), (8 : UInt8), (8 : UInt8), (8 : UInt8), (8 : UInt8), (8 : UInt8), (8 : UInt8), (8 : UInt8), (8 : UInt8), (8 : UInt8), (8 : UInt8), (8 : UInt8), (8 : UInt8), (8 : UInt8), (8 : UInt8), (8 : UInt8), (8 : UInt8), (8 : UInt8), (8 : UInt8), (8 : UInt8), (8 : UInt8), (8 : UInt8), (8 : UInt8), (8 : UInt8), (8 : UInt8), (8 : UInt8), (8 : UInt8), (8 : UInt8), (8 : UInt8), (8 : UInt8), (8 : UInt8), (8 : UInt8), (8 : UInt8), (8 : UInt8), (8 : UInt8), (8 : UInt8), (8 : UInt8), (8 : UInt8), (8 : UInt8), (8 : UInt8), (8 : UInt8), (8 : UInt8), (8 : UInt8), (8 : UInt8), (8 : UInt8)].append [(8 : UInt8), (8 : UInt8), (8 : UInt8), (8 : UInt8), (8 : UInt8), (8 : UInt8), (8 : UInt8), (8 : UInt8), (8 : UInt8), (8 : UInt8), (8 : UInt8), (8 : UInt8), (8 : UInt8), (8 : UInt8), (8 : UInt8), (8 : UInt8), (8 : UInt8), (8 : UInt8), (8 : UInt8), (8 : UInt8), (8 : UInt8), (8 : UInt8), (8 : UInt8), (8 : UInt8), (8 : UInt8), (8 : UInt8), (8 : UInt8), (8 : UInt8), (8 : UInt8), (8 : UInt8), (8 : UInt8), (8 : UInt8), (8 : UInt8), (8 : UInt8), (8 : UInt8), (8 : UInt8), (8 : UInt8), (8 : UInt8), (8 : UInt8), (8 : UInt8), (8 : UInt8), (8 : UInt8), (8 : UInt8), (8 : UInt8), (8 : UInt8), (8 : UInt8), (8 : UInt8), (8 : UInt8), (8 : UInt8), (8 : UInt8), (8 : UInt8), (8 : UInt8), (8 : UInt8), (8 : UInt8), (8 : UInt8), (8 : UInt8), (8 : UInt8), (8 : UInt8), (8 : UInt8), (8 : UInt8), (8 : UInt8), (8 : UInt8), (8 : UInt8), (8 : UInt8)])).getD (IntKind.u8.wrap (↑n : Int)).toNat (0 : UInt8)).toNat : Int))) false)] (SS.mk [] [] true w [])))))) := by kernel_rfl
set_option maxRecDepth 100000 in
theorem t136 (n : Nat) (w : World) : xFunc Tryz.prog hk136 200 136 [.int .u64 n false] (SS.at w) =
  (.hc 158 [(.int .u64 ((↑n : Int)) false)] (SS.mk [] [] true w []) (lenHook) fun x0 w0 b0 =>
  (.split (decide ((↑x0 : Int).tmod (7 : Int) > (0 : Int)))
   (.leaf .ret [(.int .i64 (IntKind.i64.wrap (IntKind.i64.wrap ((↑x0 : Int).tdiv (7 : Int)) + (1 : Int))) false)] (SS.mk [] [] true w0 b0))
   (.split (IntKind.i64.wrap ((↑x0 : Int).tdiv (7 : Int)) == (0 : Int))
    (.leaf .ret [(.int .i64 (IntKind.i64.wrap (IntKind.i64.wrap ((↑x0 : Int).tdiv (7 : Int)) + (1 : Int))) false)] (SS.mk [] [] true w0 b0))
    (.leaf .ret [(.int .i64 (IntKind.i64.wrap ((↑x0 : Int).tdiv (7 : Int))) false)] (SS.mk [] [] true w0 b0))))) := by kernel_rfl
set_option maxRecDepth 100000 in
theorem t71 (n : Nat) (w : World) : xFunc Tryz.prog hk86 200 71 [.int .u64 n false] (SS.at w) =
  (.hc 136 [(.int .u64 ((↑n : Int)) false)] (SS.mk [] [] true w []) (lenHook) fun x0 w0 b0 =>
  (.need ((0 : Int) ≤ (↑x0 : Int) ∧ (↑x0 : Int) ≤ (↑x0 : Int) ∧ (↑(1 : Nat) : Int) * (↑x0 : Int) ≤ (2 : Int) ^ (48 : Nat) ∧ (↑x0 : Int) < (2 : Int) ^ (63 : Nat))
  (.loop 137 (loopOf Tryz.prog 137 3) ([(.slc 0 0 ((↑x0 : Int).toNat) ((↑x0 : Int).toNat) false false), (.int .u64 ((↑n : Int)) false), (.tup []), (.tup []), (.int .i64 0 true), (.int .i64 0 true)] ++ List.replicate 19 undefS) (SS.mk [(.ints .u8 (List.replicate (↑x0 : Int).toNat (0 : Int)) 5 0 0)] [] true w0 b0) (LoopHook.X (lh137)) (LoopHook.out (lh137) ([(.slc 0 0 ((↑x0 : Int).toNat) ((↑x0 : Int).toNat) false false), (.int .u64 ((↑n : Int)) false), (.tup []), (.tup []), (.int .i64 0 true), (.int .i64 0 true)] ++ List.replicate 19 undefS) (SS.mk [(.ints .u8 (List.replicate (↑x0 : Int).toNat (0 : Int)) 5 0 0)] [] true w0 b0)) (fun x1 w1 b1 =>
   (.need ((0 : Int) ≤ (↑x1.fst.i : Int) ∧ (↑x1.fst.i : Int) < (↑x1.fst.r : Int))
   (.need ((0 : Nat) + (↑x1.fst.i : Int).toNat * (1 : Nat) < x1.fst.l.length)
   (.need (thawed (0 : Nat) (0 : Nat) ((0 : Nat) + (↑x1.fst.i : Int).toNat * (1 : Nat)) (1 : Nat) = true)
   (.need ((0 : Int) ≤ IntKind.i64.wrap ((↑x1.fst.i : Int) + (1 : Int)) ∧ IntKind.i64.wrap ((↑x1.fst.i : Int) + (1 : Int)) ≤ (↑(↑x0 : Int).toNat : Int))
   (.leaf .ret [(.slc 0 (if (↑x0 : Int).toNat = (0 : Nat) then (0 : Nat) else (0 : Nat)) ((IntKind.i64.wrap ((↑x1.fst.i : Int) + (1 : Int))).toNat - (0 : Nat)) ((↑x0 : Int).toNat - (0 : Nat)) false false)] (SS.mk [(.ints .u8 (x1.fst.l.set ((0 : Nat) + (↑x1.fst.i : Int).toNat * (1 : Nat)) (IntKind.u8.wrap (↑x1.fst.x : Int))) 5 0 0)] [] true w1 b1)))))))
  (LoopHook.Y (lh137)) (LoopHook.out' (lh137) ([(.slc 0 0 ((↑x0 : Int).toNat) ((↑x0 : Int).toNat) false false), (.int .u64 ((↑n : Int)) false), (.tup []), (.tup []), (.int .i64 0 true), (.int .i64 0 true)] ++ List.replicate 19 undefS) (SS.mk [(.ints .u8 (List.replicate (↑x0 : Int).toNat (0 : Int)) 5 0 0)] [] true w0 b0)) (fun x1 w1 b1 =>
   (.bad "slice: no integer"))))) := by kernel_rfl
set_option maxRecDepth 100000 in
theorem r137 (z : UX) (bs : List Nat) (w : World) (g : Nat → Value) : xCode Tryz.prog noHk 200 137 (loopOf Tryz.prog 137 3) (mkFrame ((L137 .normal).zip (uSvs z)) g 25 0) (fun e a s => .leaf e (sel L137 e a) s) (SS.mk (uObjs z) [] true w bs) =
  (.split (decide ((↑z.x : Int) ≥ (128 : Int)))
   (.need ((0 : Int) ≤ (↑z.i : Int) ∧ (↑z.i : Int) < (↑z.r : Int))
   (.need ((0 : Nat) + (↑z.i : Int).toNat * (1 : Nat) < z.l.length)
   (.need (thawed (0 : Nat) (0 : Nat) ((0 : Nat) + (↑z.i : Int).toNat * (1 : Nat)) (1 : Nat) = true)
   (.leaf .normal [(.slc 0 0 z.r z.r false false), (.int .u64 ((↑z.x : Int).fdiv ((2 : Int) ^ (7 : Nat))) false), (.int .i64 (IntKind.i64.wrap ((↑z.i : Int) + (1 : Int))) false)] (SS.mk [(.ints .u8 (z.l.set ((0 : Nat) + (↑z.i : Int).toNat * (1 : Nat)) (IntKind.u8.wrap (↑(BitVec.ofInt (8 : Nat) (IntKind.u8.wrap (↑z.x : Int)) ||| BitVec.ofInt (8 : Nat) (128 : Int)).toNat : Int))) 5 0 0)] [] true w bs)))))
   (.leaf (.exit 0) [(.slc 0 0 z.r z.r false false), (.int .u64 ((↑z.x : Int)) false), (.int .i64 ((↑z.i : Int)) false)] (SS.mk [(.ints .u8 z.l 5 0 0)] [] true w bs))) := by kernel_rfl

/-- A number of which something is known. -/
def LenQ (R : Nat → Prop) (v : Value) (_ : World) : Prop := ∃ r : Nat, v = .int .i64 (r : Int) ∧ R r

theorem d32 (a : Nat) : (a : Int).fdiv ((2 : Int) ^ (32 : Nat)) = ((a / 4294967296 : Nat) : Int) := (Int.ofNat_fdiv a 4294967296).symm
theorem d16 (a : Nat) : (a : Int).fdiv ((2 : Int) ^ (16 : Nat)) = ((a / 65536 : Nat) : Int) := (Int.ofNat_fdiv a 65536).symm
theorem d8 (a : Nat) : (a : Int).fdiv ((2 : Int) ^ (8 : Nat)) = ((a / 256 : Nat) : Int) := (Int.ofNat_fdiv a 256).symm
theorem d7 (a : Nat) : (a : Int).fdiv ((2 : Int) ^ (7 : Nat)) = ((a / 128 : Nat) : Int) := (Int.ofNat_fdiv a 128).symm

theorem u8_wrap {m : Nat} (h : m < 256) : IntKind.u8.wrap (m : Int) = m := by
  simp [IntKind.wrap, IntKind.bits, IntKind.signed]
  omega

theorem u8_range (n : Int) : 0 ≤ IntKind.u8.wrap n ∧ IntKind.u8.wrap n < 256 := by
  have : IntKind.u8.wrap n = n % 256 := by
    simp [IntKind.wrap, IntKind.bits, IntKind.signed]
  omega

theorem leaf64 {w : World} {s : SS} (hf : Fine w s) {n c m : Nat} {C X : Int} {tab : List UInt8} (hC : C = c) (hX : X = m) (hm : m < 256) (hn : n / 2 ^ c = m) (hc : c ≤ 56)
    (htab : ((List.range 256).all fun k => decide (k < 2 ^ (tab.getD k 0).toNat ∧ (tab.getD k 0).toNat ≤ 8)) = true) :
    (T.need (0 ≤ IntKind.u8.wrap X ∧ IntKind.u8.wrap X < ((256 : Nat) : Int)) (.leaf .ret [.int .i64 (IntKind.i64.wrap (C + IntKind.i64.wrap ((tab.getD (IntKind.u8.wrap X).toNat 0).toNat : Int))) false] s)).holds
      (ctx Tryz.prog (retQ fun v w' => LenQ (fun r => n < 2 ^ r ∧ r ≤ 64) v w' ∧ Below w.heap.size w w')) := by
  subst hC hX
  rw [u8_wrap hm]
  rw [List.all_eq_true] at htab
  have h1 := of_decide_eq_true (htab m (List.mem_range.2 hm))
  refine needT (by omega) (retF hf fun β w' _ _ => ⟨c + (tab.getD m 0).toNat, ?_, ?_, by omega⟩)
  · show Value.int .i64 (IntKind.i64.wrap (_ + IntKind.i64.wrap ((tab.getD m 0).toNat : Int))) = _
    rw [wrapi (n := ((tab.getD m 0).toNat : Int)) (by omega) (by omega), wrapi (by omega) (by omega)]
    simp
  · rw [Nat.pow_add]
    have h2 : n < 2 ^ c * (m + 1) := by
      have := Nat.lt_mul_div_succ n (show 0 < 2 ^ c from Nat.pow_pos (by omega))
      rw [hn] at this
      exact this
    exact Nat.lt_of_lt_of_le h2 (Nat.mul_le_mul_left _ (by omega))

theorem len64_c (n : Nat) (w : World) (hn : n < 2 ^ 64) : Calls Tryz.prog 158 #[.int .u64 n] w (Ret (LenQ fun r => n < 2 ^ r ∧ r ≤ 64) w) := by
  refine funF (hk := noHk) (n := 200) (args := [.int .u64 n false]) ⟨trivial, trivial⟩ ?_
  rw [t158]
  refine splitT (fun h1 => ?_) (fun h1 => ?_) <;> simp only [decide_eq_true_eq, decide_eq_false_iff_not] at h1
  · refine splitT (fun h2 => ?_) (fun h2 => ?_) <;> simp only [decide_eq_true_eq, decide_eq_false_iff_not, d32] at h2
    · refine splitT (fun h3 => ?_) (fun h3 => ?_) <;> simp only [decide_eq_true_eq, decide_eq_false_iff_not, d32, d16] at h3
      · exact leaf64 (Fine.start _ _) (c := 56) (m := n / 4294967296 / 65536 / 256) (by decide) (by simp only [d32, d16, d8]) (by omega) (by omega) (by omega) (by decide +kernel)
      · exact leaf64 (Fine.start _ _) (c := 48) (m := n / 4294967296 / 65536) (by decide) (by simp only [d32, d16, d8]) (by omega) (by omega) (by omega) (by decide +kernel)
    · refine splitT (fun h3 => ?_) (fun h3 => ?_) <;> simp only [decide_eq_true_eq, decide_eq_false_iff_not, d32, d16] at h3
      · exact leaf64 (Fine.start _ _) (c := 40) (m := n / 4294967296 / 256) (by decide) (by simp only [d32, d16, d8]) (by omega) (by omega) (by omega) (by decide +kernel)
      · exact leaf64 (Fine.start _ _) (c := 32) (m := n / 4294967296) (by decide) (by simp only [d32, d16, d8]) (by omega) (by omega) (by omega) (by decide +kernel)
  · refine splitT (fun h2 => ?_) (fun h2 => ?_) <;> simp only [decide_eq_true_eq, decide_eq_false_iff_not] at h2
    · refine splitT (fun h3 => ?_) (fun h3 => ?_) <;> simp only [decide_eq_true_eq, decide_eq_false_iff_not, d16] at h3
      · exact leaf64 (Fine.start _ _) (c := 24) (m := n / 65536 / 256) (by decide) (by simp only [d32, d16, d8]) (by omega) (by omega) (by omega) (by decide +kernel)
      · exact leaf64 (Fine.start _ _) (c := 16) (m := n / 65536) (by decide) (by simp only [d32, d16, d8]) (by omega) (by omega) (by omega) (by decide +kernel)
    · refine splitT (fun h3 => ?_) (fun h3 => ?_) <;> simp only [decide_eq_true_eq, decide_eq_false_iff_not] at h3
      · exact leaf64 (Fine.start _ _) (c := 8) (m := n / 256) (by decide) (by simp only [d32, d16, d8]) (by omega) (by omega) (by omega) (by decide +kernel)
      · exact leaf64 (Fine.start _ _) (c := 0) (m := n) (by decide) rfl (by omega) (by omega) (by omega) (by decide +kernel)

theorem lenCall {Q : SE → List Value → World → Prop} {s : SS} {w : World} {f : FuncId} {args : List SV} {a0 : List SV} {s0 : SS} {k : Nat → World → List Nat → T} (R : Nat → Prop) (hf : Fine w s) (hs0 : s0.objs = s.objs)
    (hc : ∀ β w0, Below w.heap.size w w0 → Calls Tryz.prog f (denL β args).toArray w0 (Ret (LenQ R) w0))
    (hk : ∀ r w' bs, R r → Below w.heap.size w w' → (∀ b ∈ bs, w.heap.size ≤ b) → (k r w' bs).holds (ctx Tryz.prog Q)) :
    (T.call f args s (Hook.X lenHook) (Hook.out lenHook a0 s0) k).holds (ctx Tryz.prog Q) := by
  refine callF (Γ := ctx Tryz.prog Q) (R := fun x _ _ => R x) hf (fun x => ⟨hs0, trivial⟩) (fun β w0 hst ho hb => ?_) (fun x w0 w' bs _ hr _ hb hbs => hk x w' bs hr hb hbs)
  refine (hc β w0 hb).mono ?_
  rintro e w' ⟨v, rfl, ⟨b, rfl, hr⟩, hb'⟩
  exact ⟨b, rfl, hb', hr⟩

theorem uvSize_c (n : Nat) (w : World) (hn : n < 2 ^ 64) : Calls Tryz.prog 136 #[.int .u64 n] w (Ret (LenQ fun r => n < 128 ^ r ∧ 1 ≤ r ∧ r ≤ 10) w) := by
  refine funF (hk := hk136) (n := 200) (args := [.int .u64 n false]) ⟨trivial, trivial⟩ ?_
  rw [t136]
  refine lenCall (fun r => n < 2 ^ r ∧ r ≤ 64) (Fine.start _ _) rfl (fun β w0 _ => len64_c n w0 hn) ?_
  rintro x w1 bs ⟨hx, hx6⟩ hb hbs
  have hp : ∀ r, x ≤ 7 * r → n < 128 ^ r := fun r hr => by
    have : (128 : Nat) ^ r = 2 ^ (7 * r) := by rw [Nat.pow_mul]
    rw [this]
    exact Nat.lt_of_lt_of_le hx (Nat.pow_le_pow_right (by omega) hr)
  have e1 : ((x : Int).tmod 7) = ((x % 7 : Nat) : Int) := rfl
  have e2 : ((x : Int).tdiv 7) = ((x / 7 : Nat) : Int) := rfl
  rw [e1, e2, wrapi (n := ((x / 7 : Nat) : Int)) (by omega) (by omega), wrapi (n := ((x / 7 : Nat) : Int) + 1) (by omega) (by omega)]
  refine splitT (fun h1 => ?_) (fun h1 => splitT (fun h2 => ?_) (fun h2 => ?_))
  · exact retF (Fine.mk' hb hbs) fun β w' _ _ => ⟨x / 7 + 1, rfl, hp _ (by omega), by omega, by omega⟩
  · exact retF (Fine.mk' hb hbs) fun β w' _ _ => ⟨x / 7 + 1, rfl, hp _ (by omega), by omega, by omega⟩
  · simp at h1 h2
    exact retF (Fine.mk' hb hbs) fun β w' _ _ => ⟨x / 7, rfl, hp _ (by omega), by omega, by omega⟩

theorem uvarint_c (n : Nat) (w : World) (hn : n < 2 ^ 64) : Calls Tryz.prog 71 #[.int .u64 n] w (Ret (fun v w' => ∃ A k c l, v = .slice A k c ∧ Bts w' w'.heap.size A k l ∧ k ≤ 10 ∧ Fresh w A) w) := by
  refine funF (hk := hk86) (n := 200) (args := [.int .u64 n false]) ⟨trivial, trivial⟩ ?_
  rw [t71]
  refine lenCall (fun r => n < 128 ^ r ∧ 1 ≤ r ∧ r ≤ 10) (Fine.start _ _) rfl (fun β w0 _ => uvSize_c n w0 hn) ?_
  rintro r w1 bs ⟨hr1, hr2, hr3⟩ hb hbs
  refine needT ⟨by omega, by omega, by omega, by omega⟩ ?_
  refine loopT (w := w) (Fine.mk' hb hbs) rfl 1 rfl L137 uSvs uObjs (fun z => z.r - z.i) (fun _ z _ => z.r = r ∧ z.l.length = r ∧ z.i < r ∧ z.x < 128 ^ (r - z.i) ∧ ∀ v ∈ z.l, 0 ≤ v ∧ v < 256)
    (fun _ z _ => z.r = r ∧ z.l.length = r ∧ z.i < r ∧ ∀ v ∈ z.l, 0 ≤ v ∧ v < 256) (fun _ _ _ => False) (fun _ => noHk) 200 (by simp) (by simp [L137]) (by simp [L137]) (fun _ => ⟨by simp [SV.ok], trivial, trivial, trivial⟩) (fun _ => ⟨rfl, by simp [uObjs, SObj.ok]⟩)
    rfl rfl (by simp) (by simp) (fun _ => ⟨⟨by simp [SV.ok], trivial, trivial, trivial⟩, rfl, by simp [uObjs, SObj.ok]⟩) (fun _ => ⟨trivial, rfl, by simp [uObjs, SObj.ok]⟩) ?_ ?_ ?_ ?_
  · rintro β w0 z w2 g hb0 ⟨rfl, hl, hi, hx, hv⟩ hk hge
    refine holds_eq (r137 z (blocks β 1) w2 g) ?_
    have hkf : KFine (blocks β 1) w0 (SS.mk (uObjs z) [] true w2 (blocks β 1)) := ⟨rfl, hk, fun b hb => .inl hb⟩
    refine splitT (fun h128 => ?_) (fun h128 => ?_)
    · simp only [decide_eq_true_eq] at h128
      have h1 : z.i + 1 < z.r := by
        rcases Nat.lt_or_ge (z.i + 1) z.r with h | h
        · exact h
        · have : z.r - z.i = 1 := by omega
          rw [this] at hx
          omega
      refine needT ⟨by omega, by omega⟩ (needT (by simp; omega) (needT (by simp [thawed]) ?_))
      refine leafK ⟨rfl, hk, fun b hb => .inl hb⟩ fun β' w' hst hk' => ?_
      refine ⟨⟨z.x / 128, z.i + 1, z.r, _⟩, ?_, ?_, hst.objsAt rfl (by simp [uObjs, SObj.ok]), ⟨rfl, by simp [hl], h1, ?_, ?_⟩, hk'⟩
      · show z.r - (z.i + 1) < z.r - z.i
        omega
      · rw [d7, wrapi (by omega) (by omega)]
        have := hst.base 0 (by show 0 < 1; omega)
        simp only [uSvs, denL, SV.den]
        rw [this]
        rfl
      · have h2 : z.r - z.i = (z.r - (z.i + 1)) + 1 := by omega
        rw [h2, Nat.pow_succ] at hx
        exact Nat.div_lt_of_lt_mul (by rw [Nat.mul_comm]; exact hx)
      · intro v hv'
        rcases List.mem_or_eq_of_mem_set hv' with h | h
        · exact hv v h
        · rw [h]; exact u8_range _
    · refine leafK ⟨rfl, hk, fun b hb => .inl hb⟩ fun β' w' hst hk' => ⟨.inl ⟨z, rfl, ?_, hst.objsAt rfl (by simp [uObjs, SObj.ok]), rfl, hl, hi, hv⟩, hk'⟩
      have := hst.base 0 (by show 0 < 1; omega)
      simp only [uSvs, denL, SV.den]
      rw [this]
  · intro β w0 hst hb0
    refine ⟨⟨n, 0, r, List.replicate r 0⟩, rfl, ?_, rfl, by simp, by show 0 < r; omega, by simpa using hr1, by simp⟩
    intro i o hi
    exact hst.at_ i o (by simpa [uObjs] using hi)
  · rintro w0 z w' ⟨rfl, hl, hi, hv⟩ hb0 hb1 g bs' hbs'
    dsimp only
    refine needT ⟨by omega, by omega⟩ (needT (by simp; omega) (needT (by simp [thawed]) (needT (by show (0 : Int) ≤ IntKind.i64.wrap ((z.i : Int) + 1) ∧ _; rw [wrapi (by omega) (by omega)]; omega) ?_)))
    refine retF (Fine.mk' hb1 hbs') fun β w2 hst hb2 => ?_
    have h0 := hst.at_ 0 _ rfl
    have hlt := hst.lt 0 (by simp [SS.n])
    have e1 : (IntKind.i64.wrap ((z.i : Int) + 1)).toNat - 0 = z.i + 1 := by rw [wrapi (by omega) (by omega)]; omega
    refine ⟨some ⟨β 0, 0, none⟩, z.i + 1, z.r, _, ?_, bts_of_ints h0 ?_ (by simp; omega) hlt, by omega, fun a ha => ?_⟩
    · rw [e1]
      simp [SV.den]
    · intro v hv'
      rcases List.mem_or_eq_of_mem_set hv' with h | h
      · exact hv v h
      · rw [h]; exact u8_range _
    · cases ha
      exact (Fine.mk' hb1 hbs').new (hst.old rfl) 0 (by simp [SS.n])
  · rintro w0 z w' h
    exact h.elim

end Go.Proofs.YtdmnoagahjbjhaaGreatDoor
end

section
/- Sizes: zzFits7, zzFits6, zzFits12 answer. -/
set_option linter.unusedVariables false
set_option maxRecDepth 20000
namespace Go.Proofs.YtdmnoagahjbjhaaGreatDoor
open Go Go.Rx Go.RowKit

def lhr : LoopHook := mkHook 18 Unit .ret [2] (fun _ => [.bool false true]) Unit (.exit 0) [] (fun _ => [])
def hk5 : Hooks := { calls := fun _ => none, loops := fun f k => if (f = 5 ∨ f = 6) ∧ k = 5 then some lhr else none }
def hk6 : Hooks := { calls := fun f => if f = 5 then some boolHook else none, loops := fun f k => none }
end Go.Proofs.YtdmnoagahjbjhaaGreatDoor
end

section
/- Simple components: MaProtocol, MaSimple, MaAddress, maSimple answer; what is simple has a code of the table. -/
set_option linter.unusedVariables false
set_option maxRecDepth 20000
namespace Go.Proofs.YtdmnoagahjbjhaaGreatDoor
open Go Go.Rx Go.RowKit

/-- What MaProtocol hands back. -/
structure PX where
  name : ByteArray
  cd : Int
  size : Int
  path : Bool
  ok : Bool
/-- The codes of the table. -/
def table : List Int := [4, 6, 33, 41, 42, 43, 53, 54, 55, 56, 132, 273, 276, 280, 281, 290, 301, 302, 400, 421, 443, 444, 445, 446, 447, 448, 449, 454, 460, 461, 465, 466, 477, 478, 480, 481, 777, 7367777]

/-! ### A path -/

end Go.Proofs.YtdmnoagahjbjhaaGreatDoor
end

