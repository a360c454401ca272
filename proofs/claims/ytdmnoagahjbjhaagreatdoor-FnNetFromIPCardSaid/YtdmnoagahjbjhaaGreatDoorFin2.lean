/- FnNetFromIP answers true, whatever its argument holds; the argument reads afterwards as it did. The row's own condition: the listed variables hold what the program's text lays in them (the card ties that). -/
import Derived.Test.YtdmnoagahjbjhaaGreatDoorJ14
import Derived.Test.YtdmnoagahjbjhaaGreatDoorW2
import Derived.Test.YtdmnoagahjbjhaaGreatDoorL2
import Derived.Test.YtdmnoagahjbjhaaGreatDoorD4
import Derived.Test.YtdmnoagahjbjhaaGreatDoorUh
set_option linter.unusedVariables false
set_option linter.unusedSimpArgs false
open Go Go.ChangeShapes Go.WideShapes Go.ChangeAt Go.RowKit Go.Rx
namespace Go.Proofs.YtdmnoagahjbjhaaGreatDoor

theorem one_cell {v : Value} {a : Option Addr} {n c : Nat} (h : v.cells.toList = [.slice a n c]) (hv : ∃ a' m d, v = .slice a' m d) : v = .slice a n c := by
  obtain ⟨a', m, d, rfl⟩ := hv
  simpa [Value.cells] using h

theorem len_le_cap {H : Type} {enc : TypeId × Value → H} {w : World} {fuel : Nat} {cs : List Value} {x : DataW H × List MemPlace} {A : Option Addr} {n c : Nat} (h : DataW.trod enc Tryz.prog w 0 (fun _ => true) true fuel 31 cs = some x) (he : cs = [.slice A n c]) : n ≤ c := by
  rcases open_ints Tryz.underlying31 Tryz.underlying5 cells5 h with ⟨h0, _⟩ | ⟨a, len, cap, zs, h1, _, hle, _⟩
  · rw [he] at h0; cases h0; exact Nat.le_refl _
  · rw [he] at h1; cases h1; exact hle

set_option maxRecDepth 100000 in
theorem lifted (os : Os) (started : os.Started) (H : Type) (enc : TypeId × Value → H) :
    ReturnsInHanded {} Tryz.checked os 4 .any (fun w args => (Rows.fnNetFromIPSpec.pre enc Tryz.prog Tryz.f4 [] false w args ∧ laidMetH Tryz.prog Rows.fnNetFromIPRow.laid w) ∧ sizedMet enc Tryz.prog Tryz.f4 (OpenSpec.ofChange Rows.fnNetFromIPSpec) false w args)
      (Rows.fnNetFromIPSpec.post enc Tryz.prog Tryz.f4 false true false false) := by
  refine returns_listed (C := Tryz.checked) (X := fun w _ => laidMetH Tryz.prog Rows.fnNetFromIPRow.laid w) (fun _ _ _ hh h => h.of_heap hh) own started noInit4 Tryz.func4
    (witness_plain (enc := enc) (C := Tryz.checked) (X := fun w _ => laidMetH Tryz.prog Rows.fnNetFromIPRow.laid w) (World.laidAll Tryz.prog os Rows.fnNetFromIPRow.laid) #[.slice none 0 0] 8 (World.laidAll_os _ _ _) (witShape os) (witOk os) (witPre os H enc) (witSize os H enc) (witLaid os)) ?_
  intro W base args ds gs before hval0 hW _ hsz hL hsh
  have hval : ∀ (j : Nat) t v, Tryz.f4.params[j]? = some t → args[j]? = some v → Value.okWide Tryz.prog W .any base t v := hval0
  have hW' := hW
  obtain ⟨p, q, hA0, hV, rfl, _, _⟩ := hW
  have hA : DataW.TrodAll enc Tryz.prog W 0 (fun _ => true) true Tryz.f4.params.toList args.toList ds p := hA0
  rw [Tryz.params4] at hA hval
  obtain ⟨v0, d0, rfl, rfl, h0⟩ := trodAll_one hA
  obtain ⟨rfl, rfl⟩ := trodVars_none hV
  have hsz' : (DataW.weightsEach Tryz.prog [31] [d0]).all (· ≤ reachBytes) = true := by
    have := hsz
    rw [show Tryz.checked.prog = Tryz.prog from rfl, Tryz.params4] at this
    exact this
  have hw0 : ∀ n ∈ d0.weights Tryz.prog 31, n ≤ reachBytes := fun n hn => by
    have := List.all_eq_true.1 hsz' n (by simp [DataW.weightsEach, hn])
    simpa using this
  obtain ⟨fu0, hf0⟩ := id h0
  obtain ⟨A, n, c, l, e0, hb, hr⟩ := Rx.bts_of_trod Tryz.underlying31 Tryz.underlying5 cells5 bytes5 hf0 hw0
  have hcap := len_le_cap hf0 e0
  obtain rfl := one_cell e0 (okWide_slice Tryz.underlying31 (hval 0 31 v0 rfl rfl))
  refine (fnNetFromIP_c A n c l W hb hr hcap (tens_of hL hsh) (err_of hL hsh)).mono ?_
  rintro e W' ⟨v, rfl, ⟨b, rfl, rfl⟩, hb⟩
  have hlt : ∀ x ∈ p, x.block < W.heap.size := hA0.lt
  refine ⟨_, rfl, _, _, _, [], p, [], hW', trodAll_mk1 (shut_bool Tryz.underlying4 _), ?_, rfl, hb.frame _, fun h => by cases h⟩
  exact trodAll_mk1 (hb.trod laidOut readable31 types31 h0 fun x hx => hlt x hx)

theorem holds : Rows.FnNetFromIPSaid :=
  OpenClaim.holds_of_wide 4 Tryz.f4 rfl rfl rfl rfl rfl rfl rfl ⟨rfl, rfl, rfl, rfl, rfl⟩ rfl rfl rfl rfl rfl named4 Tryz.func4 closed inst4 wrap4
    (fun os started H enc _ => lifted os started H enc)

theorem fnNetFromIP_holds : Rows.FnNetFromIPCardSaid :=
  Claim7.holds_tied_plain_at .later [] [.data, .data, .data, .sentinel, .sentinel, .sentinel, .pinned, .data, .sentinel, .data, .sentinel, .sentinel, .sentinel, .sentinel, .sentinel, .sentinel, .data, .data, .sentinel, .sentinel, .sentinel, .sentinel, .sentinel] true
    (true, "1746c496b2453f4e6db985d80afc1499441837c4bb4f218e868f48d6a59b2b5d") true holds (fun _ h => by cases h) wfText (fun _ h => by cases h) fnNetFromIP_row_tie rfl ⟨rfl, rfl⟩ mainIs4 rfl
    (fun f fn hf hfn => by
      obtain rfl : f = 4 := Option.some.inj (named4.symm.trans hf) |>.symm
      obtain rfl : fn = Tryz.f4 := (Option.some.inj (Tryz.func4.symm.trans hfn)).symm
      exact ⟨looks4, fun j t ht => by
        rw [Tryz.params4] at ht
        have hm : t ∈ [31] := by simpa using Array.mem_of_getElem? ht
        exact (show Tryz.prog.wantsStandIn t = false by simpa using List.all_eq_true.1 wants4 t hm)⟩)
    goes4
#print axioms fnNetFromIP_holds
end Go.Proofs.YtdmnoagahjbjhaaGreatDoor
