/- Sizes once more: what zzFits6 and zzFits12 tell. -/
import Derived.Test.YtdmnoagahjbjhaaGreatDoorM17
import Derived.Test.YtdmnoagahjbjhaaGreatDoorRx5
import Derived.Test.YtdmnoagahjbjhaaGreatDoorMOpen
set_option linter.unusedVariables false
set_option linter.unusedSimpArgs false
set_option maxRecDepth 20000
namespace Go.Proofs.YtdmnoagahjbjhaaGreatDoor
open Go Go.Rx Go.RowKit


def Fits (l : List Comp) : Prop := l.length ≤ 2147483647 ∧ ∀ x ∈ l, x.val.length ≤ 2147483647

theorem zzFits6_s (A : Option Addr) (n c : Nat) (l : List Comp) (B : Nat) (w : World) (h : CompsAt w B A n l) (hB : B ≤ w.heap.size) (hn : (n : Int) < 2 ^ 63) : Calls Tryz.prog 5 #[.slice A n c] w (Ret (BoolQ fun b => b = true → Fits l) w) := by
  have hlen := h.1
  refine funF (hk := hk5) (n := 1000) (args := [.xs A n c]) ⟨trivial, trivial⟩ ?_
  refine holds_eq (t5 A n c w) ?_
  refine splitT (fun _ => retF (Fine.start _ _) fun β w' _ _ => ⟨_, rfl, fun h => Bool.noConfusion h⟩) (fun hbig => ?_)
  have hbig' : n ≤ 2147483647 := by
    have := of_decide_eq_false hbig
    omega
  refine loopG (Fine.start _ _) Lr (α := Nat) (fun i => [.xs A n c, .int .i64 n false, .int .i64 i false]) (fun i => n - i) (fun _ i _ => i ≤ n ∧ ∀ x ∈ l.take i, x.val.length ≤ 2147483647)
    (fun _ e lv _ => (e = .ret ∧ lv = [.bool false]) ∨ (e = .exit 0 ∧ lv = [] ∧ Fits l)) (fun _ => noHk) 1000 (by simp) (by simp [Lr]) (by simp [Lr]) (fun _ => ⟨trivial, trivial, trivial, trivial⟩) rfl rfl rfl
    (by simp) (by simp) (fun _ => ⟨trivial, trivial⟩) (fun _ => trivial) ?_ ?_ ?_
  · rintro w0 i w1 g _ ⟨hi, hall⟩ hb0 hbw
    refine holds_eq (r5 A n c i w1 g) ?_
    refine splitT (fun hlt => ?_) (fun hge => exitF (Fine.nil hb0) (by simp) fun β w' _ _ => .inr ⟨rfl, rfl, ?_⟩)
    rotate_left
    · have : ¬ i < n := by simpa using hge
      rw [List.take_of_length_le (by omega)] at hall
      exact ⟨by omega, hall⟩
    have hlt' : i < n := by simpa using hlt
    obtain ⟨ad, x, rfl, had, hx, hR⟩ := (h.below (hbw.mono hB) (Nat.le_refl _)).get hlt'
    obtain ⟨f1, f2, f3⟩ := hR.facts
    have f2l := f2.1
    refine needT (by omega) (needT rfl (needT (hR.canRead (Nat.le_trans hB hbw.size) (by simp)) ?_))
    refine splitT (fun _ => exitF (Fine.nil hb0) (by simp) fun β w' _ _ => .inl ⟨rfl, rfl⟩) (fun hno => nextF (Fine.nil hb0) fun β w' _ _ => ⟨i + 1, by omega, ?_, by omega, ?_⟩)
    · rw [next_i hlt' hn]; rfl
    · intro y hy
      rw [List.take_add_one, hx] at hy
      rcases List.mem_append.1 hy with hy | hy
      · exact hall y hy
      · simp at hy
        subst hy
        have h3 : ¬ ((2147483647 : Int) < ((slN w1 ((ad.add (i * 2)).add 1) : Nat) : Int)) := of_decide_eq_false hno
        omega
  · intro β w0 hst hb
    exact ⟨0, rfl, Nat.zero_le _, by simp⟩
  · rintro β w0 hst hb e lv w' (⟨rfl, rfl⟩ | ⟨rfl, rfl, hf⟩) hb0 hb1
    · exact .inl ⟨(), rfl, rfl, fun g bs hbs => retF (Fine.mk' hb1 hbs) fun β w' _ _ => ⟨_, rfl, fun h => Bool.noConfusion h⟩⟩
    · exact .inr ⟨(), rfl, rfl, fun g bs hbs => retF (Fine.mk' hb1 hbs) fun β w' _ _ => ⟨_, rfl, fun _ => hf⟩⟩

theorem zzFits12_s (A : Option Addr) (n c : Nat) (l : List (List Comp)) (B : Nat) (w : World) (h : ListsAt w B A n l) (hB : B ≤ w.heap.size) (hn : (n : Int) < 2 ^ 63) : Calls Tryz.prog 6 #[.slice A n c] w (Ret (BoolQ fun b => b = true → ∀ x ∈ l, Fits x) w) := by
  have hlen := h.1
  refine funF (hk := hk5) (n := 1000) (args := [.xs A n c]) ⟨trivial, trivial⟩ ?_
  refine holds_eq (t6 A n c w) ?_
  refine splitT (fun _ => retF (Fine.start _ _) fun β w' _ _ => ⟨_, rfl, fun h => Bool.noConfusion h⟩) (fun _ => ?_)
  refine loopG (Fine.start _ _) Lr (α := Nat) (fun i => [.xs A n c, .int .i64 n false, .int .i64 i false]) (fun i => n - i) (fun _ i _ => i ≤ n ∧ ∀ x ∈ l.take i, Fits x)
    (fun _ e lv _ => (e = .ret ∧ lv = [.bool false]) ∨ (e = .exit 0 ∧ lv = [] ∧ ∀ x ∈ l, Fits x)) (fun _ => hk6) 1000 (by simp) (by simp [Lr]) (by simp [Lr]) (fun _ => ⟨trivial, trivial, trivial, trivial⟩) rfl rfl rfl
    (by simp) (by simp) (fun _ => ⟨trivial, trivial⟩) (fun _ => trivial) ?_ ?_ ?_
  · rintro w0 i w1 g _ ⟨hi, hall⟩ hb0 hbw
    refine holds_eq (r6 A n c i w1 g) ?_
    refine splitT (fun hlt => ?_) (fun hge => exitF (Fine.nil hb0) (by simp) fun β w' _ _ => .inr ⟨rfl, rfl, ?_⟩)
    rotate_left
    · have : ¬ i < n := by simpa using hge
      rw [List.take_of_length_le (by omega)] at hall
      exact hall
    have hlt' : i < n := by simpa using hlt
    obtain ⟨ad, x, rfl, had, hx, hR⟩ := (h.below (hbw.mono hB) (Nat.le_refl _)).get hlt'
    refine needT (by omega) (needT rfl (needT (hR.canRead (Nat.le_trans hB hbw.size) (by simp)) ?_))
    obtain ⟨h1, h2⟩ := hR.facts
    have hB1 : B ≤ w1.heap.size := Nat.le_trans hB hbw.size
    refine boolCallR (fun b => b = true → Fits x) (Fine.at w1) rfl (fun β w2 hb2 _ _ => zzFits6_s _ _ _ _ B w2 (h1.below (hb2.mono hB1) (Nat.le_refl _)) (Nat.le_trans hB1 hb2.size) (Int.lt_of_lt_of_le h2 (by decide))) (fun b w2 bs hfx hb2 hbs => ?_)
    have hf : Fine w0 (SS.mk [] [] true w2 bs) := Fine.mk' (hb0.trans (hb2.mono hb0.size)) (fun b hb => Nat.le_trans hb0.size (hbs b hb))
    refine splitT (fun _ => exitF hf (by simp) fun β w' _ _ => .inl ⟨rfl, rfl⟩) (fun hb => nextF hf fun β w' _ _ => ⟨i + 1, by omega, ?_, by omega, ?_⟩)
    · rw [next_i hlt' hn]; rfl
    · intro y hy
      rw [List.take_add_one, hx] at hy
      rcases List.mem_append.1 hy with hy | hy
      · exact hall y hy
      · simp at hy
        subst hy
        exact hfx (by simpa using hb)
  · intro β w0 hst hb
    exact ⟨0, rfl, Nat.zero_le _, by simp⟩
  · rintro β w0 hst hb e lv w' (⟨rfl, rfl⟩ | ⟨rfl, rfl, hf⟩) hb0 hb1
    · exact .inl ⟨(), rfl, rfl, fun g bs hbs => retF (Fine.mk' hb1 hbs) fun β w' _ _ => ⟨_, rfl, fun h => Bool.noConfusion h⟩⟩
    · exact .inr ⟨(), rfl, rfl, fun g bs hbs => retF (Fine.mk' hb1 hbs) fun β w' _ _ => ⟨_, rfl, fun _ => hf⟩⟩

end Go.Proofs.YtdmnoagahjbjhaaGreatDoor
