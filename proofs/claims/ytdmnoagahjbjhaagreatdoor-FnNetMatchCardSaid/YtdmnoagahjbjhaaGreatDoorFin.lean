/- FnNetMatch answers true, whatever its two arguments hold; each argument reads afterwards as it did. The row's own conditions: the listed variables hold what the program's text lays in them (the card ties that), and its words 'calm' and 'time passes', of which the proof makes no use. -/
import Derived.Test.YtdmnoagahjbjhaaGreatDoorM22
import Derived.Test.YtdmnoagahjbjhaaGreatDoorW1
import Derived.Test.YtdmnoagahjbjhaaGreatDoorC4
import Derived.Test.YtdmnoagahjbjhaaGreatDoorTh
set_option linter.unusedVariables false
set_option linter.unusedSimpArgs false
open Go Go.ChangeShapes Go.WideShapes Go.ChangeAt Go.RowKit Go.Clock
namespace Go.Proofs.YtdmnoagahjbjhaaGreatDoor

theorem one_cell {v : Value} {a : Option Addr} {n c : Nat} (h : v.cells.toList = [.slice a n c]) (hv : ∃ a' m d, v = .slice a' m d) : v = .slice a n c := by
  obtain ⟨a', m, d, rfl⟩ := hv
  simpa [Value.cells] using h

set_option maxRecDepth 100000 in
theorem lifted (os : Os) (started : os.Started) (H : Type) (enc : TypeId × Value → H) (F : Stop.Interp) :
    ReturnsInHanded { calm := true } Tryz.checked os 3 .any (fun w args => (Rows.fnNetMatchSpec.pre enc Tryz.prog Tryz.f3 [] false w args ∧ laidMetH Tryz.prog Rows.fnNetMatchRow.laid w) ∧ sizedMet enc Tryz.prog Tryz.f3 (OpenSpec.ofChange Rows.fnNetMatchSpec) false w args)
      ((OpenSpec.ofChange Rows.fnNetMatchSpec).postWith enc Tryz.prog Tryz.f3 F (outsideKept [.timePasses]) false true false) := by
  refine returns_of_change (C := Tryz.checked) (X := fun w _ => laidMetH Tryz.prog Rows.fnNetMatchRow.laid w) (fun _ _ _ hh h => h.of_heap hh) own started noInit3 Tryz.func3
    (witness_at (enc := enc) (C := Tryz.checked) (X := fun w _ => laidMetH Tryz.prog Rows.fnNetMatchRow.laid w) (World.laidAll Tryz.prog os Rows.fnNetMatchRow.laid) #[.slice none 0 0, .slice none 0 0] 8 (World.laidAll_os _ _ _) (witShape os) (witOk os) (witPre os H enc) (witSize os H enc) (witLaid os)) ?_
  intro W base args ds gs before hval0 hW _ hsz hL hsh
  have hval : ∀ (j : Nat) t v, Tryz.f3.params[j]? = some t → args[j]? = some v → Value.okWide Tryz.prog W .any base t v := hval0
  have hW' := hW
  obtain ⟨p, q, hA0, hV, rfl, _, _⟩ := hW
  have hA : DataW.TrodAll enc Tryz.prog W 0 (fun _ => true) true Tryz.f3.params.toList args.toList ds p := hA0
  rw [Tryz.params3] at hA hval
  obtain ⟨v0, v1, d0, d1, p0, p1, rfl, rfl, rfl, h0, h1⟩ := trodAll_two hA
  obtain ⟨rfl, rfl⟩ := trodVars_none hV
  have hsz' : (DataW.weightsEach Tryz.prog [22, 23] [d0, d1]).all (· ≤ reachBytes) = true := by
    have := hsz
    rw [show Tryz.checked.prog = Tryz.prog from rfl, Tryz.params3] at this
    exact this
  have hw0 : ∀ n ∈ d0.weights Tryz.prog 22, n ≤ reachBytes := fun n hn => by
    have := List.all_eq_true.1 hsz' n (by simp [DataW.weightsEach, hn])
    simpa using this
  have hw1 : ∀ n ∈ d1.weights Tryz.prog 23, n ≤ reachBytes := fun n hn => by
    have := List.all_eq_true.1 hsz' n (by simp [DataW.weightsEach, hn])
    simpa using this
  obtain ⟨fu0, hf0⟩ := id h0
  obtain ⟨fu1, hf1⟩ := id h1
  obtain ⟨A, n, c, l, e0, hc, hr⟩ := Rx.comps_of_trod compTypes hf0 hw0
  obtain ⟨A', n', c', ll, e1, hc', hr'⟩ := Rx.lists_of_trod compTypes Tryz.underlying23 cells22 bytes22 hf1 hw1
  obtain rfl := one_cell e0 (okWide_slice Tryz.underlying22 (hval 0 22 v0 rfl rfl))
  obtain rfl := one_cell e1 (okWide_slice Tryz.underlying23 (hval 1 23 v1 rfl rfl))
  refine (fnNetMatch_c A n c A' n' c' l ll W.heap.size W hc hc' (Nat.le_refl _) hr hr').mono ?_
  rintro e W' ⟨v, rfl, ⟨b, rfl, rfl⟩, hb⟩
  have hlt : ∀ x ∈ p0 ++ p1, x.block < W.heap.size := hA0.lt
  have hb2 : Below W.heap.size W { W' with os := W.os } := ⟨rfl, hb.tape, hb.output, hb.size, hb.block⟩
  refine ⟨_, rfl, ⟨_, _, _, [], p0 ++ p1, [], hW', trodAll_mk1 (shut_bool Tryz.underlying4 _), ?_, rfl, hb2.frame _, fun h => by cases h⟩, hb.os ▸ Later.refl _⟩
  exact trodAll_mk2 (hb2.trod laidOut readable22 types22 h0 fun x hx => hlt x (by simp [hx])) (hb2.trod laidOut readable23 types23 h1 fun x hx => hlt x (by simp [hx]))

theorem holds : Rows.FnNetMatchSaid :=
  holds_of_wide_time 3 Tryz.f3 rfl rfl rfl rfl rfl rfl rfl ⟨rfl, rfl, rfl, rfl, rfl⟩ rfl rfl rfl rfl rfl named3 Tryz.func3 closed inst3 wrap3
    (fun os started H enc _ F => lifted os started H enc F)

theorem fnNetMatch_holds : Rows.FnNetMatchCardSaid :=
  Claim7.holds_tied_plain_at .later [] [.data, .data, .data, .sentinel, .sentinel, .sentinel, .pinned, .data, .sentinel, .data, .sentinel, .sentinel, .sentinel, .sentinel, .sentinel, .sentinel, .data, .data, .sentinel, .sentinel, .sentinel, .sentinel] true
    (true, "1746c496b2453f4e6db985d80afc1499441837c4bb4f218e868f48d6a59b2b5d") true holds (fun _ h => by cases h) wfText (fun _ h => by cases h) fnNetMatch_row_tie rfl ⟨rfl, rfl⟩ mainIs3 rfl
    (fun f fn hf hfn => by
      obtain rfl : f = 3 := Option.some.inj (named3.symm.trans hf) |>.symm
      obtain rfl : fn = Tryz.f3 := (Option.some.inj (Tryz.func3.symm.trans hfn)).symm
      exact ⟨looks3, fun j t ht => by
        rw [Tryz.params3] at ht
        have hm : t ∈ [22, 23] := by simpa using Array.mem_of_getElem? ht
        exact (show Tryz.prog.wantsStandIn t = false by simpa using List.all_eq_true.1 wants3 t hm)⟩)
    goes3
#print axioms fnNetMatch_holds
end Go.Proofs.YtdmnoagahjbjhaaGreatDoor
