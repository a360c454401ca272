/- strconv.Itoa of a byte. -/
import Derived.Test.YtdmnoagahjbjhaaGreatDoorM8
set_option linter.unusedVariables false
set_option linter.unusedSimpArgs false
set_option maxRecDepth 20000
namespace Go.Proofs.YtdmnoagahjbjhaaGreatDoor
open Go Go.Rx Go.RowKit
def tens : List Int := [1, 10, 100, 1000, 10000, 100000, 1000000, 10000000, 100000000, 1000000000, 10000000000, 100000000000, 1000000000000, 10000000000000, 100000000000000, 1000000000000000, 10000000000000000, 100000000000000000, 1000000000000000000, 10000000000000000000]
def tbl : SObj := .cells (tens.map fun n => .int .u64 n true) 20 191 0 0

/-- The decimal digits of a byte. -/
def dec (n : Nat) : List UInt8 := if n < 10 then [UInt8.ofNat (48 + n)] else if n < 100 then [UInt8.ofNat (48 + n / 10), UInt8.ofNat (48 + n % 10)] else [UInt8.ofNat (48 + n / 100), UInt8.ofNat (48 + n / 10 % 10), UInt8.ofNat (48 + n % 10)]

def itoaLeaf (n : Nat) (w : World) : T :=
  .leaf .ret [.str ⟨(dec n).toArray⟩ true] (SS.mk (if n < 100 then [tbl] else [tbl, .cells ([.int .u8 0 true] ++ (dec n).map (fun b => .int .u8 (b.toNat : Int) true) ++ List.replicate 20 (.int .u8 0 true)) 24 145 0 0]) [(9, 0)] true w [9])

theorem itoaRuns0 (w : World) : (List.range 32).map (fun (j : Nat) => xFunc Tryz.prog noHk 500 92 [.int .i64 ((0 + j : Nat) : Int) true] (SS.mk [tbl] [(9, 0)] true w [9])) = (List.range 32).map (fun (j : Nat) => itoaLeaf (0 + j) w) := by kernel_rfl
theorem itoaRuns1 (w : World) : (List.range 32).map (fun (j : Nat) => xFunc Tryz.prog noHk 500 92 [.int .i64 ((32 + j : Nat) : Int) true] (SS.mk [tbl] [(9, 0)] true w [9])) = (List.range 32).map (fun (j : Nat) => itoaLeaf (32 + j) w) := by kernel_rfl
theorem itoaRuns2 (w : World) : (List.range 32).map (fun (j : Nat) => xFunc Tryz.prog noHk 500 92 [.int .i64 ((64 + j : Nat) : Int) true] (SS.mk [tbl] [(9, 0)] true w [9])) = (List.range 32).map (fun (j : Nat) => itoaLeaf (64 + j) w) := by kernel_rfl
theorem itoaRuns3 (w : World) : (List.range 32).map (fun (j : Nat) => xFunc Tryz.prog noHk 500 92 [.int .i64 ((96 + j : Nat) : Int) true] (SS.mk [tbl] [(9, 0)] true w [9])) = (List.range 32).map (fun (j : Nat) => itoaLeaf (96 + j) w) := by kernel_rfl
theorem itoaRuns4 (w : World) : (List.range 32).map (fun (j : Nat) => xFunc Tryz.prog noHk 500 92 [.int .i64 ((128 + j : Nat) : Int) true] (SS.mk [tbl] [(9, 0)] true w [9])) = (List.range 32).map (fun (j : Nat) => itoaLeaf (128 + j) w) := by kernel_rfl
theorem itoaRuns5 (w : World) : (List.range 32).map (fun (j : Nat) => xFunc Tryz.prog noHk 500 92 [.int .i64 ((160 + j : Nat) : Int) true] (SS.mk [tbl] [(9, 0)] true w [9])) = (List.range 32).map (fun (j : Nat) => itoaLeaf (160 + j) w) := by kernel_rfl
theorem itoaRuns6 (w : World) : (List.range 32).map (fun (j : Nat) => xFunc Tryz.prog noHk 500 92 [.int .i64 ((192 + j : Nat) : Int) true] (SS.mk [tbl] [(9, 0)] true w [9])) = (List.range 32).map (fun (j : Nat) => itoaLeaf (192 + j) w) := by kernel_rfl
theorem itoaRuns7 (w : World) : (List.range 32).map (fun (j : Nat) => xFunc Tryz.prog noHk 500 92 [.int .i64 ((224 + j : Nat) : Int) true] (SS.mk [tbl] [(9, 0)] true w [9])) = (List.range 32).map (fun (j : Nat) => itoaLeaf (224 + j) w) := by kernel_rfl

theorem itoaRun (n : Nat) (hn : n < 256) (w : World) : xFunc Tryz.prog noHk 500 92 [.int .i64 (n : Int) true] (SS.mk [tbl] [(9, 0)] true w [9]) = itoaLeaf n w := by
  have key : ∀ (k : Nat), (List.range 32).map (fun (j : Nat) => xFunc Tryz.prog noHk 500 92 [.int .i64 ((k + j : Nat) : Int) true] (SS.mk [tbl] [(9, 0)] true w [9])) = (List.range 32).map (fun (j : Nat) => itoaLeaf (k + j) w) → k ≤ n → n < k + 32 →
      xFunc Tryz.prog noHk 500 92 [.int .i64 (n : Int) true] (SS.mk [tbl] [(9, 0)] true w [9]) = itoaLeaf n w := by
    intro k h h1 h2
    have h := congrArg (fun l => l[n - k]?) h
    simp only [List.getElem?_map, List.getElem?_range (show n - k < 32 by omega), Option.map_some, Option.some.injEq] at h
    rw [show k + (n - k) = n by omega] at h
    exact h
  rcases (by omega : n < 32 ∨ (32 ≤ n ∧ n < 64) ∨ (64 ≤ n ∧ n < 96) ∨ (96 ≤ n ∧ n < 128) ∨ (128 ≤ n ∧ n < 160) ∨ (160 ≤ n ∧ n < 192) ∨ (192 ≤ n ∧ n < 224) ∨ (224 ≤ n ∧ n < 256)) with h | h | h | h | h | h | h | h
  · exact key 0 (itoaRuns0 w) (by omega) (by omega)
  · exact key 32 (itoaRuns1 w) (by omega) (by omega)
  · exact key 64 (itoaRuns2 w) (by omega) (by omega)
  · exact key 96 (itoaRuns3 w) (by omega) (by omega)
  · exact key 128 (itoaRuns4 w) (by omega) (by omega)
  · exact key 160 (itoaRuns5 w) (by omega) (by omega)
  · exact key 192 (itoaRuns6 w) (by omega) (by omega)
  · exact key 224 (itoaRuns7 w) (by omega) (by omega)

/-- The table of powers lies in its variable. -/
def Tens (w : World) : Prop := w.heap[9]? = some (.cells (tens.map (Value.int .u64)).toArray 191 (0, 0))

theorem Tens.below {w w' : World} {B : Nat} (h : Tens w) (hb : Below B w w') (hB : 9 < B) : Tens w' := by
  unfold Tens at *
  rw [hb.block 9 hB]
  exact h

theorem Tens.lt {w : World} (h : Tens w) : 9 < w.heap.size := (Array.getElem?_eq_some_iff.1 h).1

theorem tbl_at {β : Nat → Nat} {x : Option Obj} : tbl.At β x ↔ x = some (.cells (tens.map (Value.int .u64)).toArray 191 (0, 0)) := by
  unfold tbl SObj.At
  constructor
  · rintro ⟨rest, h1, h2⟩
    have hr : rest = [] := List.eq_nil_of_length_eq_zero (by simp [tens] at h2; simp [h2])
    subst hr
    rw [h1]
    congr 2
  · intro h
    refine ⟨[], ?_, by simp [tens]⟩
    rw [h]
    congr 2

/-- The state where the table is tracked. -/
theorem St.tens {P : Program} {Q : SE → List Value → World → Prop} {w : World} (h : Tens w) : St { P := P, β0 := fun _ => 9, n0 := 1, Q := Q } (fun _ => 9) (SS.mk [tbl] [(9, 0)] true w [9]) w where
  lt i hi := h.lt
  inj i j hi hj _ := by simp [SS.n] at hi hj; omega
  at_ i o hi := by
    match i, hi with
    | 0, hi =>
      simp at hi
      subst hi
      exact tbl_at.2 h
    | i + 1, hi => simp at hi
  ok i o hi := by
    match i, hi with
    | 0, hi =>
      simp at hi
      subst hi
      show okL _ (YtdmnoagahjbjhaaGreatDoor.tens.map fun n => SV.int .u64 n true)
      rw [okL_iff]
      intro v hv
      obtain ⟨n, _, rfl⟩ := List.mem_map.1 hv
      trivial
    | i + 1, hi => simp at hi
  gl p hp := by
    simp at hp
    subst hp
    exact ⟨by simp [SS.n], rfl⟩
  old _ := { fr := fun _ _ _ => rfl, sz := Nat.le_refl _, tape := rfl, os := rfl, out := rfl,
             pre := fun i b hi => by
               match i, hi with
               | 0, hi => simpa using hi
               | i + 1, hi => simp at hi
             pren := by simp [SS.n]
             new := fun i hi hin => by simp [SS.n] at hi hin; omega }
  base i hi := rfl
  n0 := by simp [SS.n]

/-- At an end the table is as it was. -/
theorem tblBelow {Γ : Ctx} {β : Nat → Nat} {s : SS} {w w' : World} (hs : St Γ β s w') (h0 : s.objs[0]? = some tbl) (hext : s.ext = true) (hw0 : s.w0 = w) (hpre : s.pre = [9]) (ht : Tens w) : Below w.heap.size w w' := by
  subst hw0
  have o := hs.old hext
  have hb0 : β 0 = 9 := o.pre 0 9 (by rw [hpre]; rfl)
  refine ⟨o.os, o.tape, o.out, o.sz, fun b hb => ?_⟩
  by_cases h9 : b = 9
  · subst h9
    have := tbl_at.1 (hs.at_ 0 _ h0)
    rw [hb0] at this
    rw [this]
    exact ht.symm
  · refine o.fr b hb fun i hi he => ?_
    by_cases hi0 : i = 0
    · subst hi0
      omega
    · have := o.new i (by rw [hpre]; simp; omega) hi
      omega

theorem itoa_c (n : Nat) (hn : n < 256) (w : World) (ht : Tens w) : Calls Tryz.prog 92 #[.int .i64 (n : Int)] w (Ret (fun v _ => v = .string ⟨(dec n).toArray⟩) w) := by
  have h := itoaRun n hn w
  refine (funS (hk := noHk) (n := 500) (args := [.int .i64 (n : Int) true]) (Q := fun v w' => v = .string ⟨(dec n).toArray⟩ ∧ Below w.heap.size w w') (St.tens ht) ⟨trivial, trivial⟩ ?_).mono ?_
  · rw [h]
    intro β w' hs _
    refine ⟨_, rfl, rfl, tblBelow hs ?_ rfl rfl rfl ht⟩
    show (if n < 100 then [tbl] else [tbl, _])[0]? = some tbl
    split <;> rfl
  · rintro e w' ⟨v, rfl, h1, h2⟩
    exact ⟨v, rfl, h1, h2⟩

end Go.Proofs.YtdmnoagahjbjhaaGreatDoor
