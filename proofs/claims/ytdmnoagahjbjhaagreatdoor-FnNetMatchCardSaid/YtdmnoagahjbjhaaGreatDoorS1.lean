/- 'safe': what it calls is called; the deferred closure finds nothing to recover. -/
import Derived.Test.YtdmnoagahjbjhaaGreatDoorChecked
import Derived.Test.YtdmnoagahjbjhaaGreatDoorRx5
import Derived.WalkKit
import Derived.Defers
import Derived.Recover
set_option linter.unusedVariables false
set_option linter.unusedSimpArgs false
open Go Go.RowKit
namespace Go.Proofs.YtdmnoagahjbjhaaGreatDoor

theorem catch47 (p : Addr) (w : World) : CallsD Tryz.prog 47 #[.pointer (some p)] .returning w fun e u' w' => e = .returned (.tuple #[]) ∧ u' = .returning ∧ w' = w := by
  refine callsD_of_wpS Tryz.func47 rfl fun c₀ cs hu => ?_
  apply wpS_seq
  apply wpS_region
  simp [wpOpsS, go_sem, recoverD, hu, Tryz.ntmps47, Exit.thenS]
  refine wpS_cond (t := false) (by simp [Act.eval, Array.replicate]) ?_
  refine wpS_of_wp ?_
  simp only [Bool.false_eq_true, if_false]
  go_wp2
  cases c₀
  simp_all [bodyPostS, results, Tryz.results47, Exit.thenS]

theorem safe_c (p q r : Addr) (w : World) (bs : List Nat) (R : World → Prop) (hbs : ∀ b ∈ bs, b < w.heap.size)
    (hR : ∀ w2 w3 : World, (∀ b, b < w.heap.size → w3.heap[b]? = w2.heap[b]?) → R w2 → R w3)
    (h : ∀ w1, Below w.heap.size w w1 → Calls Tryz.prog 33 #[.pointer (some p), .pointer (some q), .pointer (some r)] w1 fun e w' => e = .returned (.tuple #[]) ∧ Rx.Keep bs w1 w' ∧ R w') :
    Calls Tryz.prog 32 #[.func (.func 33) #[] #[.pointer (some p), .pointer (some q), .pointer (some r)]] w fun e w' => e = .returned (.bool true) ∧ Rx.Keep bs w w' ∧ R w' := by
  have hmf : ∀ (fn : Fn) (first cap : Array Value) (w : World), (Instr.makeFunc fn first cap).run Tryz.prog w = .ok (.func fn first cap) w := fun _ _ _ _ => rfl
  have h1 := h (w.alloc (Obj.cells #[Value.bool false] 4)) (Below.alloc (Below.refl _ _) (Nat.le_refl _) _)
  clear h
  go_enter_defers Tryz.func32, Tryz.ntmps32
  go_wp2_with fail
  refine h1.mono ?_
  rintro e w' ⟨rfl, hk, hr⟩
  have hb : w'.heap[w.heap.size]? = some (.cells #[.bool false] 4 (0, 0)) := by
    rw [hk.block w.heap.size (by show w.heap.size < (w.heap.push _).size; simp) (fun hm => Nat.lt_irrefl _ (hbs _ hm))]
    show (w.heap.push _)[w.heap.size]? = _
    simp
  have hc : w'.cell? ⟨w.heap.size, 0, none⟩ = some (.bool false) := by simp [World.cell?, hb]
  have hz : w'.frozen? ⟨w.heap.size, 0, none⟩ = false := by simp [World.frozen?, hb]
  go_wp2
  refine leaves_cons (f := 47) (args := #[.pointer (some ⟨w.heap.size, 0, none⟩)]) (by simp) (by simp [go_sem]) ?_
  refine (catch47 ⟨w.heap.size, 0, none⟩ _).mono ?_
  rintro e u' w'' ⟨rfl, rfl, rfl⟩
  simp [Leaves, settle, results, Tryz.results32, go_sem]
  have hs : (w'.setCell ⟨w.heap.size, 0, none⟩ (.bool true)).cell? ⟨w.heap.size, 0, none⟩ = some (.bool true) := by
    simp [World.cell?, World.setCell, Array.getElem?_modify, hb]
  rw [hs]
  have hz1 : w.heap.size < w'.heap.size := (Array.getElem?_eq_some_iff.1 hb).1
  have hblk : ∀ b, b < w.heap.size → (w'.setCell ⟨w.heap.size, 0, none⟩ (.bool true)).heap[b]? = w'.heap[b]? := fun b hb => Below.heap_setCell _ _ _ _ (by show b ≠ w.heap.size; omega)
  refine ⟨_, rfl, rfl, ⟨hk.os, hk.tape, hk.output, ?_, fun b hb1 hb2 => ?_⟩, hR _ _ hblk hr⟩
  · show w.heap.size ≤ (w'.heap.modify _ _).size
    simp
    omega
  · rw [hblk b hb1, hk.block b (by show b < (w.heap.push _).size; simp; omega) hb2]
    exact Below.heap_alloc _ _ _ hb1
end Go.Proofs.YtdmnoagahjbjhaaGreatDoor
