/- The tie of FnNetFromIP: no place is met twice. -/
import Derived.Test.YtdmnoagahjbjhaaGreatDoorUa
set_option linter.unusedVariables false
set_option linter.unusedSimpArgs false
namespace Go.Proofs.YtdmnoagahjbjhaaGreatDoor
open Go
/-- Places that come in runs, each run in a block of its own. -/
def okRuns : Nat → Nat → List Nat → List MemPlace → Bool
  | _, _, _, [] => true
  | b, o, seen, .cell b' o' :: r => if Nat.beq b' b then Nat.beq o' o && okRuns b (o + 1) seen r else !(seen.any (Nat.beq b')) && okRuns b' (o' + 1) (b :: seen) r
  | _, _, _, .map _ :: _ => false
theorem okRuns_spec : ∀ (l : List MemPlace) (b o : Nat) (seen : List Nat), okRuns b o seen l = true →
    (∀ p ∈ l, ∃ b' o', p = .cell b' o' ∧ ((b' = b ∧ o ≤ o') ∨ (b' ≠ b ∧ b' ∉ seen))) ∧ l.Nodup
  | [], _, _, _, _ => ⟨by simp, List.nodup_nil⟩
  | .map _ :: _, _, _, _, h => by simp [okRuns] at h
  | .cell b' o' :: r, b, o, seen, h => by
    unfold okRuns at h
    by_cases hb : b' = b
    · subst hb
      rw [if_pos (by simp)] at h
      rw [Bool.and_eq_true] at h
      have ho : o' = o := Nat.eq_of_beq_eq_true h.1
      subst ho
      obtain ⟨h1, h2⟩ := okRuns_spec r _ _ _ h.2
      refine ⟨fun p hp => ?_, List.nodup_cons.2 ⟨fun hm => ?_, h2⟩⟩
      · rcases List.mem_cons.1 hp with rfl | hp
        · exact ⟨_, _, rfl, .inl ⟨rfl, Nat.le_refl _⟩⟩
        · obtain ⟨b2, o2, rfl, h3 | h3⟩ := h1 p hp
          · exact ⟨_, _, rfl, .inl ⟨h3.1, by omega⟩⟩
          · exact ⟨_, _, rfl, .inr h3⟩
      · obtain ⟨b2, o2, he, h3 | h3⟩ := h1 _ hm
        · injection he with e1 e2; omega
        · injection he with e1 e2; exact h3.1 e1.symm
    · rw [if_neg (by simpa using hb)] at h
      rw [Bool.and_eq_true] at h
      have hs : b' ∉ seen := by
        intro hm
        have h1 := h.1
        simp only [Bool.not_eq_true', List.any_eq_false] at h1
        exact h1 b' hm (by simp)
      obtain ⟨h1, h2⟩ := okRuns_spec r _ _ _ h.2
      refine ⟨fun p hp => ?_, List.nodup_cons.2 ⟨fun hm => ?_, h2⟩⟩
      · rcases List.mem_cons.1 hp with rfl | hp
        · exact ⟨_, _, rfl, .inr ⟨hb, hs⟩⟩
        · obtain ⟨b2, o2, rfl, h3 | h3⟩ := h1 p hp
          · rw [h3.1]; exact ⟨_, _, rfl, .inr ⟨hb, hs⟩⟩
          · simp only [List.mem_cons, not_or] at h3
            exact ⟨_, _, rfl, .inr h3.2⟩
      · obtain ⟨b2, o2, he, h3 | h3⟩ := h1 _ hm
        · injection he with e1 e2; omega
        · injection he with e1 e2; exact h3.1 e1.symm
/-- No place lies in that block. -/
def noBlock (b : Nat) : List MemPlace → Bool
  | [] => true
  | .cell b' _ :: r => !(Nat.beq b' b) && noBlock b r
  | .map _ :: r => noBlock b r
theorem noBlock_spec {b : Nat} : ∀ {l : List MemPlace}, noBlock b l = true → ∀ o, MemPlace.cell b o ∉ l
  | [], _, _, hm => by cases hm
  | .cell b' o' :: r, h, o, hm => by
    simp only [noBlock, Bool.and_eq_true, Bool.not_eq_true'] at h
    rcases List.mem_cons.1 hm with he | hm
    · injection he with e1 e2
      subst e1
      have := h.1
      simp at this
    · exact noBlock_spec h.2 o hm
  | .map _ :: r, h, o, hm => by
    simp only [noBlock] at h
    rcases List.mem_cons.1 hm with he | hm
    · cases he
    · exact noBlock_spec h o hm
theorem fUd : ∀ os tape, (DataW.laidRun Tryz.prog (varsWorld Tryz.prog 400 (varsId Tryz.prog) os tape).memory 8 (tieL.map (·.1))).map (fun x => okRuns 100000 0 [] x.2 && noBlock 100000 x.2) = some true := fun _ _ => by kernel_rfl
end Go.Proofs.YtdmnoagahjbjhaaGreatDoor
