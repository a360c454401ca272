/- netAlive: the address that it asks about. -/
import Derived.Test.YtdmnoagahjbjhaaGreatDoorM13
set_option linter.unusedVariables false
set_option linter.unusedSimpArgs false
set_option maxRecDepth 20000
namespace Go.Proofs.YtdmnoagahjbjhaaGreatDoor
open Go Go.Rx Go.RowKit
set_option maxRecDepth 100000 in
theorem t17 (w : World) : xFunc Tryz.prog noHk 1000 17 [] (SS.mk [] [] true w []) =
  (.leaf .ret [(.slc 2 0 2 2 true true)] (SS.mk [(.cells [(.int .u8 127 true), (.int .u8 0 true), (.int .u8 0 true), (.int .u8 1 true)] 4 5 0 0), (.cells [(.int .u8 4 true), (.int .u8 210 true)] 2 5 0 0), (.cells [(.int .i64 4 true), (.slc 0 0 4 4 true true), (.int .i64 273 true), (.slc 1 0 2 2 true true)] 4 35 0 0)] [] true w [])) := by kernel_rfl


/-- /ip4/127.0.0.1/udp/1234 -/
def twoL : List Comp := [⟨4, [127, 0, 0, 1]⟩, ⟨273, [4, 210]⟩]

theorem bts_of_cells {β : Nat → Nat} {w : World} {b B : Nat} {l : List UInt8} {cs : List SV} {tot : Nat} {e : TypeId} {lo hi : Nat} (h : (SObj.cells cs tot e lo hi).At β w.heap[b]?) (hcs : cs = l.map fun x => SV.int .u8 (x.toNat : Int) true) (htot : tot = l.length) (hB : b < B) :
    Bts w B (some ⟨b, 0, none⟩) l.length l := by
  obtain ⟨rest, h1, h2⟩ := h
  subst hcs htot
  have hr : rest = [] := List.eq_nil_of_length_eq_zero (by simp at h2; simp [h2])
  subst hr
  have e1 : denL β (l.map fun x => SV.int .u8 (x.toNat : Int) true) ++ [] = (l.map fun x => (x.toNat : Int)).map (Value.int .u8) := by
    rw [List.append_nil, denL_map]
    simp [SV.den]
  rw [e1] at h1
  have := bts_of_ints (k := l.length) h1 (fun v hv => by
    simp only [List.mem_map] at hv
    obtain ⟨x, _, rfl⟩ := hv
    have := x.toNat_lt
    omega) (by simp) hB
  simpa [Function.comp_def, List.take_of_length_le] using this

theorem maTwo_c (w : World) : Calls Tryz.prog 17 #[] w (Ret (fun v w' => ∃ A, v = .slice A 2 2 ∧ RowAt CompR 2 (Rx.since w w') w'.heap.size A 2 twoL) w) := by
  refine funF (hk := noHk) (n := 1000) (args := []) trivial ?_
  refine holds_eq (t17 w) ?_
  refine retF (Fine.start _ _) fun β w' hst hb => ?_
  have o := hst.old rfl
  have hf := (Fine.start w [(.cells [(.int .u8 127 true), (.int .u8 0 true), (.int .u8 0 true), (.int .u8 1 true)] 4 5 0 0), (.cells [(.int .u8 4 true), (.int .u8 210 true)] 2 5 0 0), (.cells [(.int .i64 4 true), (.slc 0 0 4 4 true true), (.int .i64 273 true), (.slc 1 0 2 2 true true)] 4 35 0 0)]).new o
  have b0 := bts_of_cells (l := [127, 0, 0, 1]) (hst.at_ 0 _ rfl) rfl rfl (hst.lt 0 (by simp [SS.n]))
  have b1 := bts_of_cells (l := [4, 210]) (hst.at_ 1 _ rfl) rfl rfl (hst.lt 1 (by simp [SS.n]))
  have f0 : Fresh w (some ⟨β 0, 0, none⟩) := fun a ha => by cases ha; exact hf 0 (by simp [SS.n])
  have f1 : Fresh w (some ⟨β 1, 0, none⟩) := fun a ha => by cases ha; exact hf 1 (by simp [SS.n])
  have b0' := Bts.since b0 f0
  have b1' := Bts.since b1 f1
  obtain ⟨rest, e1, e2⟩ := hst.at_ 2 _ rfl
  refine ⟨some ⟨β 2, 0, none⟩, rfl, ?_⟩
  have hacc : AccAt w w' 35 2 (some ⟨β 2, 0, none⟩) 2 2 [.int .i64 4, .slice (some ⟨β 0, 0, none⟩) 4 4, .int .i64 273, .slice (some ⟨β 1, 0, none⟩) 2 2] := .inr ⟨β 2, rfl, hf 2 (by simp [SS.n]), hst.lt 2 (by simp [SS.n]), rfl, Nat.le_refl _, rest, e1, e2⟩
  exact seq_of_row (R := CompR (Rx.since w w') w'.heap.size) (S := fun b => w.heap.size ≤ b) hacc (.snoc (l := [_]) (L := [_, _]) (.snoc (l := []) (L := []) .nil ⟨_, _, _, rfl, b0'⟩) ⟨_, _, _, rfl, b1'⟩) (CompR.lasts.len _ _) (by omega) (fun a ha => by cases ha; exact hf 2 (by simp [SS.n]))

end Go.Proofs.YtdmnoagahjbjhaaGreatDoor
