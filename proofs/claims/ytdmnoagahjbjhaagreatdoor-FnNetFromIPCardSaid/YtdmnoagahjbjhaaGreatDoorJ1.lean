/- Joined texts: The operations' laws: operators, conversions, assertions, methods, append, copy; The operations' laws: make, append, copy, conversions, assertions, methods; The operations' laws: append, copy, methods; The operations' laws: copy, methods; then one operation, a region, code, a whole call; One operation, a region, code, a whole call: the executor is sound; Regions, code and whole calls: the executor is sound; Quiet regions, code and whole calls: the executor is sound; Regions in which what only reads is done early: sound for every order. -/
import Derived.Test.YtdmnoagahjbjhaaGreatDoorJ0
section
/- The operations' laws: operators, conversions, assertions, methods, append, copy. -/
set_option linter.unusedVariables false
set_option linter.unusedSimpArgs false
namespace Go.Rx

variable {Γ : Ctx} {β : Nat → Nat} {s : SS} {w : World}

/-! ### Equality -/

theorem plainObj_spec {i : Nat} (h : plainObj s i = true) (hs : St Γ β s w) : ∃ c e, w.heap[β i]? = some (.cells c e (0, 0)) := by
  unfold plainObj at h
  split at h
  · rename_i cs tot e lo hi ho
    simp only [Bool.and_eq_true, beq_iff_eq] at h
    obtain ⟨rfl, rfl⟩ := h
    obtain ⟨rest, h1, _⟩ := hs.at_ i _ ho
    exact ⟨_, _, h1⟩
  · rename_i k l e lo hi ho
    simp only [Bool.and_eq_true, beq_iff_eq] at h
    obtain ⟨rfl, rfl⟩ := h
    have h1 := hs.at_ i _ ho
    exact ⟨_, _, h1⟩
  · cases h

theorem run_sameAddr {P : Program} {a b o o' : Nat} {c c' : Array Value} {e e' : TypeId} (hne : a ≠ b) (ha : w.heap[a]? = some (.cells c e (0, 0))) (hb : w.heap[b]? = some (.cells c' e' (0, 0))) :
    (sameAddr ⟨a, o, none⟩ ⟨b, o', none⟩).run P w = .ok false w := by
  have fa : ∀ k sp, w.frozen? ⟨a, k, sp⟩ = false := fun k sp => by simp [World.frozen?, ha]
  have fb : ∀ k sp, w.frozen? ⟨b, k, sp⟩ = false := fun k sp => by simp [World.frozen?, hb]
  have sa : w.shape? a = some (e, c.size) := by simp [World.shape?, ha]
  have sb : w.shape? b = some (e', c'.size) := by simp [World.shape?, hb]
  have hne' : (a == b) = false := by simpa using hne
  simp [sameAddr, hne', fa, fb, noView, viewAt, sa, sb, mayBeOne, stringish]

theorem isNilPtr_spec {a : SV} (h : isNilPtr a = true) : a.den β = .pointer none := by
  unfold isNilPtr at h
  split at h
  · rfl
  · cases h

theorem isNilIface_spec {a : SV} (h : isNilIface a = true) : a.den β = .nilIface := by
  unfold isNilIface at h
  split at h
  · rfl
  · cases h

theorem isNilSlice_spec {a : SV} (h : isNilSlice a = true) : ∃ n c, a.den β = .slice none n c := by
  unfold isNilSlice at h
  split at h
  · exact ⟨_, _, rfl⟩
  · cases h

theorem equalIn_nil_xs {P : Program} {t e : TypeId} {d : Nat} {A : Option Addr} {n c n' c' : Nat} (hu : P.underlying t = some (.slice e)) :
    (Op.equalIn (d + 1) t (.slice none n c) (.slice A n' c')).run P w = .ok A.isNone w := by
  cases A <;> simp [Op.equalIn, run_underlying' hu]

theorem equalIn_xs_nil {P : Program} {t e : TypeId} {d : Nat} {A : Option Addr} {n c n' c' : Nat} (hu : P.underlying t = some (.slice e)) :
    (Op.equalIn (d + 1) t (.slice A n c) (.slice none n' c')).run P w = .ok A.isNone w := by
  cases A <;> simp [Op.equalIn, run_underlying' hu]

theorem xEqBase_sound {t : TypeId} {a b : SV} {K : Bool → Bool → T} (d : Nat) (h : (xEqBase Γ.P t a b s K).holds Γ) (hs : St Γ β s w) (ha : a.ok s.n) (hb : b.ok s.n) :
    ∃ r l, (Op.equalIn (d + 1) t (a.den β) (b.den β)).run Γ.P w = .ok r w ∧ (K r l).holds Γ := by
  unfold xEqBase at h
  split at h
  · rename_i hu
    split at h
    · exact ⟨_, _, by simp [Op.equalIn, run_underlying' hu, SV.den], h⟩
    · exact h.elim
  · rename_i k hu
    split at h
    · split at h
      · rename_i hk
        exact ⟨_, _, by simp [Op.equalIn, run_underlying' hu, SV.den, hk], h⟩
      · exact h.elim
    · exact h.elim
  · rename_i hu
    split at h
    · exact ⟨_, _, by simp [Op.equalIn, run_underlying' hu, SV.den], h⟩
    · exact h.elim
  · rename_i elem hu
    split at h
    · rename_i na
      split at h
      · rename_i nb
        exact ⟨_, _, by simp [Op.equalIn, run_underlying' hu, isNilPtr_spec na, isNilPtr_spec nb], h⟩
      · split at h
        · exact ⟨_, _, by simp [Op.equalIn, run_underlying' hu, isNilPtr_spec na, SV.den], h⟩
        · exact ⟨_, _, by simp [Op.equalIn, run_underlying' hu, isNilPtr_spec na, SV.den], h⟩
        · exact h.elim
    · split at h
      · split at h
        · rename_i nb
          exact ⟨_, _, by simp [Op.equalIn, run_underlying' hu, isNilPtr_spec nb, SV.den], h⟩
        · exact h.elim
      · rename_i i o _
        split at h
        · rename_i nb
          exact ⟨_, _, by simp [Op.equalIn, run_underlying' hu, isNilPtr_spec nb, SV.den], h⟩
        · split at h
          · rename_i j o' _
            split at h
            · rename_i inf hi
              split at h
              · exact h.elim
              · rename_i h0
                split at h
                · rename_i hij
                  subst hij
                  refine ⟨_, _, ?_, h⟩
                  simp only [Op.equalIn, Sem.run_bind, run_underlying' hu, Result.andThen_ok, SV.den, run_sizeOf hi, ne_eq, h0, not_false_eq_true, if_true, sameAddr]
                  simp
                  rw [Bool.eq_iff_iff]; simp
                · rename_i hij
                  split at h
                  · rename_i hp
                    rw [Bool.and_eq_true] at hp
                    obtain ⟨c, e, hca⟩ := plainObj_spec hp.1 hs
                    obtain ⟨c', e', hcb⟩ := plainObj_spec hp.2 hs
                    refine ⟨_, _, ?_, h⟩
                    have hne : β i ≠ β j := fun he => hij (hs.inj i j ha hb he)
                    simp only [Op.equalIn, Sem.run_bind, run_underlying' hu, Result.andThen_ok, SV.den, run_sizeOf hi, ne_eq, h0, not_false_eq_true, if_true]
                    exact run_sameAddr hne hca hcb
                  · exact h.elim
            · exact h.elim
          · exact h.elim
      · exact h.elim
  · rename_i e hu
    split at h
    · rename_i na
      obtain ⟨n, c, hna⟩ := isNilSlice_spec (β := β) na
      split at h
      · rename_i nb
        obtain ⟨n', c', hnb⟩ := isNilSlice_spec (β := β) nb
        exact ⟨_, _, by simp [Op.equalIn, run_underlying' hu, hna, hnb], h⟩
      · split at h
        · exact ⟨_, _, by simp [Op.equalIn, run_underlying' hu, hna, SV.den], h⟩
        · exact ⟨_, _, by rw [hna]; exact equalIn_nil_xs hu, h⟩
        · exact h.elim
    · split at h
      · split at h
        · rename_i nb
          obtain ⟨n', c', hnb⟩ := isNilSlice_spec (β := β) nb
          exact ⟨_, _, by simp [Op.equalIn, run_underlying' hu, hnb, SV.den], h⟩
        · exact h.elim
      · split at h
        · rename_i nb
          obtain ⟨n', c', hnb⟩ := isNilSlice_spec (β := β) nb
          exact ⟨_, _, by rw [hnb]; exact equalIn_xs_nil hu, h⟩
        · exact h.elim
      · exact h.elim
  · exact h.elim

theorem xEq_sound' {t : TypeId} {a b : SV} {K : Bool → Bool → T} (d : Nat) (h : (xEq Γ.P t a b s K).holds Γ) (hs : St Γ β s w) (ha : a.ok s.n) (hb : b.ok s.n) :
    ∃ r l, (Op.equalIn (d + 1 + 1) t (a.den β) (b.den β)).run Γ.P w = .ok r w ∧ (K r l).holds Γ := by
  unfold xEq at h
  split at h
  · rename_i ms hu
    split at h
    · rename_i na
      split at h
      · rename_i nb
        exact ⟨_, _, by simp [Op.equalIn, run_underlying' hu, isNilIface_spec na, isNilIface_spec nb], h⟩
      · split at h
        · exact ⟨_, _, by simp [Op.equalIn, run_underlying' hu, isNilIface_spec na, SV.den], h⟩
        · exact h.elim
    · split at h
      · rename_i ta va _
        split at h
        · rename_i nb
          exact ⟨_, _, by simp [Op.equalIn, run_underlying' hu, isNilIface_spec nb, SV.den], h⟩
        · split at h
          · rename_i tb vb _
            split at h
            · rename_i htt
              subst htt
              split at h
              · rename_i inf hi
                split at h
                · rename_i hc
                  obtain ⟨r, l, h1, h2⟩ := xEqBase_sound (β := β) d h hs ha hb
                  refine ⟨r, l, ?_, h2⟩
                  rw [Op.equalIn]
                  simp only [Sem.run_bind, run_underlying' hu, Result.andThen_ok, SV.den, ne_eq, not_true_eq_false, if_false, run_typeInfo hi, hc, Bool.not_true, Bool.false_eq_true]
                  exact h1
                · exact h.elim
              · exact h.elim
            · rename_i htt
              refine ⟨_, _, ?_, h⟩
              rw [Op.equalIn]
              simp only [Sem.run_bind, run_underlying' hu, Result.andThen_ok, SV.den, ne_eq, htt, not_false_eq_true, if_true, Sem.run_pure]
          · exact h.elim
      · exact h.elim
  · exact xEqBase_sound (β := β) (d + 1) h hs ha hb

theorem xEq_sound {t : TypeId} {a b : SV} {K : Bool → Bool → T} (h : (xEq Γ.P t a b s K).holds Γ) (hs : St Γ β s w) (ha : a.ok s.n) (hb : b.ok s.n) :
    ∃ r l, (Op.equal t (a.den β) (b.den β)).run Γ.P w = .ok r w ∧ (K r l).holds Γ := xEq_sound' 9998 h hs ha hb

/-! ### Operators -/

theorem isConstOp_spec {x : Operand} (h : isConstOp x = true) : ∃ v, x = .const v := by
  unfold isConstOp at h
  split at h
  · exact ⟨_, rfl⟩
  · cases h

theorem eqGuard_plain {P : Program} {op : BinOp} {t : TypeId} {x y : Operand} {a b : Value} (hagg : ∀ c c', ¬ (a = .agg c ∧ b = .agg c')) (hnil : a = .nilIface → b = .nilIface → (∃ v, x = .const v) ∨ (∃ v, y = .const v)) :
    (eqGuard op t x y a b).run P w = .ok () w := by
  have key : ∀ o : BinOp, (o = .eql ∨ o = .neq) → (eqGuard o t x y a b).run P w = .ok () w := by
    intro o ho
    cases a with
    | nilIface =>
      cases b with
      | nilIface => rcases hnil rfl rfl with ⟨v, rfl⟩ | ⟨v, rfl⟩ <;> rcases ho with rfl | rfl <;> first | rfl | (cases x <;> rfl)
      | _ => rcases ho with rfl | rfl <;> rfl
    | agg c =>
      cases b with
      | agg c' => exact (hagg c c' ⟨rfl, rfl⟩).elim
      | _ => rcases ho with rfl | rfl <;> rfl
    | _ => rcases ho with rfl | rfl <;> rfl
  cases op <;> first
    | exact key _ (.inl rfl)
    | exact key _ (.inr rfl)
    | rfl

/-- A value that '==' compares by the type. -/
def EqDen (v : Value) : Prop := (∃ b, v = .bool b) ∨ (∃ a, v = .pointer a) ∨ (∃ a n c, v = .slice a n c) ∨ (∃ t x, v = .iface t x) ∨ v = .nilIface

theorem eqForm_den {v : SV} (h : eqForm v = true) : EqDen (v.den β) := by
  unfold eqForm at h
  split at h <;> first
    | exact .inl ⟨_, rfl⟩
    | exact .inr (.inl ⟨_, rfl⟩)
    | exact .inr (.inr (.inl ⟨_, _, _, rfl⟩))
    | exact .inr (.inr (.inr (.inl ⟨_, _, rfl⟩)))
    | exact .inr (.inr (.inr (.inr rfl)))
    | cases h

theorem binOp_eql {t : TypeId} {a b : Value} (ha : EqDen a) (hb : EqDen b) : binOp .eql t a b = (do pure (.bool (← Op.equal t a b))) := by
  rcases ha with ⟨_, rfl⟩ | ⟨_, rfl⟩ | ⟨_, _, _, rfl⟩ | ⟨_, _, rfl⟩ | rfl <;> rcases hb with ⟨_, rfl⟩ | ⟨_, rfl⟩ | ⟨_, _, _, rfl⟩ | ⟨_, _, rfl⟩ | rfl <;> rfl

theorem binOp_neq {t : TypeId} {a b : Value} (ha : EqDen a) (hb : EqDen b) : binOp .neq t a b = (do pure (.bool (!(← Op.equal t a b)))) := by
  rcases ha with ⟨_, rfl⟩ | ⟨_, rfl⟩ | ⟨_, _, _, rfl⟩ | ⟨_, _, rfl⟩ | rfl <;> rcases hb with ⟨_, rfl⟩ | ⟨_, rfl⟩ | ⟨_, _, _, rfl⟩ | ⟨_, _, rfl⟩ | rfl <;> rfl

theorem xBin_sound {op : BinOp} {t : TypeId} {x y : Operand} {a b : SV} {K : SV → T} (h : (xBin Γ.P op t x y a b s K).holds Γ) (hs : St Γ β s w) (ha : a.ok s.n) (hb : b.ok s.n) :
    Same Γ β s w ((do eqGuard op t x y (a.den β) (b.den β); binOp op t (a.den β) (b.den β)).run Γ.P w) K := by
  unfold xBin at h
  split at h
  · rename_i k n ln k' m lm
    have hg : (eqGuard op t x y (.int k n) (.int k' m)).run Γ.P w = .ok () w :=
      eqGuard_plain (by simp) (by simp)
    simp only [Same, SV.den, Sem.run_bind, hg, Result.andThen_ok]
    split at h
    · split at h
      · split at h
        · rename_i h0
          exact ⟨_, by simp [binOp, Op.shift, show ¬ m < 0 by omega, SV.den], by trivial, h⟩
        · exact h.elim
      · obtain ⟨h0, h⟩ := h
        exact ⟨_, by simp [binOp, Op.shift, show ¬ m < 0 by omega, SV.den], by trivial, h⟩
    · split at h
      · split at h
        · rename_i h0
          exact ⟨_, by simp [binOp, Op.shift, show ¬ m < 0 by omega, SV.den], by trivial, h⟩
        · exact h.elim
      · obtain ⟨h0, h⟩ := h
        exact ⟨_, by simp [binOp, Op.shift, show ¬ m < 0 by omega, SV.den], by trivial, h⟩
    · split at h
      · rename_i hk
        subst hk
        split at h
        · exact ⟨_, by simp [binOp, Op.intArith, SV.den], by trivial, h⟩
        · exact ⟨_, by simp [binOp, Op.intArith, SV.den], by trivial, h⟩
        · exact ⟨_, by simp [binOp, Op.intArith, SV.den], by trivial, h⟩
        · split at h
          · split at h
            · exact h.elim
            · rename_i h0
              exact ⟨_, by simp [binOp, Op.intDiv, h0, SV.den], by trivial, h⟩
          · obtain ⟨h0, h⟩ := h
            exact ⟨_, by simp [binOp, Op.intDiv, h0, SV.den], by trivial, h⟩
        · split at h
          · split at h
            · exact h.elim
            · rename_i h0
              exact ⟨_, by simp [binOp, Op.intDiv, h0, SV.den], by trivial, h⟩
          · obtain ⟨h0, h⟩ := h
            exact ⟨_, by simp [binOp, Op.intDiv, h0, SV.den], by trivial, h⟩
        · exact ⟨_, by simp [binOp, Op.intBits, SV.den], by trivial, h⟩
        · exact ⟨_, by simp [binOp, Op.intBits, SV.den], by trivial, h⟩
        · exact ⟨_, by simp [binOp, Op.intBits, SV.den], by trivial, h⟩
        · exact ⟨_, by simp [binOp, Op.intBits, SV.den], by trivial, h⟩
        · exact ⟨_, by simp [binOp, Op.intCmp, SV.den], by trivial, h⟩
        · exact ⟨_, by simp [binOp, Op.intCmp, SV.den], by trivial, h⟩
        · exact ⟨_, by simp [binOp, Op.intCmp, SV.den], by trivial, h⟩
        · exact ⟨_, by simp [binOp, Op.intCmp, SV.den], by trivial, h⟩
        · exact ⟨_, by simp [binOp, Op.intCmp, SV.den], by trivial, h⟩
        · exact ⟨_, by simp [binOp, Op.intCmp, SV.den], by trivial, h⟩
        · exact h.elim
      · exact h.elim
  · rename_i u lu v lv
    have hg : (eqGuard op t x y (.string u) (.string v)).run Γ.P w = .ok () w :=
      eqGuard_plain (by simp) (by simp)
    simp only [Same, SV.den, Sem.run_bind, hg, Result.andThen_ok]
    split at h
    · exact ⟨_, by simp [binOp, Op.stringOp, SV.den], by trivial, h⟩
    · exact ⟨_, by simp [binOp, Op.stringOp, SV.den], by trivial, h⟩
    · exact ⟨_, by simp [binOp, Op.stringOp, SV.den], by trivial, h⟩
    · split at h
      · split at h
        · exact h.elim
        · rename_i h0
          exact ⟨_, by simp only [binOp, Op.stringOp, h0, if_false, Sem.run_pure, SV.den], by trivial, h⟩
      · obtain ⟨h0, h⟩ := h
        exact ⟨_, by simp only [binOp, Op.stringOp, show ¬ (((u.size + v.size : Nat) : Int) > IntKind.i64.max) by omega, if_false, Sem.run_pure, SV.den], by trivial, h⟩
    · exact h.elim
  · rename_i hni hns
    split at h
    · exact h.elim
    · rename_i hnn
      split at h
      rotate_left
      · exact h.elim
      rename_i hform
      rw [Bool.and_eq_true] at hform
      have main : (eqGuard op t x y (a.den β) (b.den β)).run Γ.P w = .ok () w := by
        refine eqGuard_plain ?_ ?_
        · rintro c c' ⟨e1, e2⟩
          have fa := eqForm_den (β := β) hform.1
          rw [e1] at fa
          rcases fa with ⟨_, h⟩ | ⟨_, h⟩ | ⟨_, _, _, h⟩ | ⟨_, _, h⟩ | h <;> cases h
        · intro e1 e2
          have i1 : isNilIface a = true := by
            cases a with
            | one v hv => cases v <;> simp_all [SV.den, isNilIface]
            | raw v => exact absurd hform.1 (by simp [eqForm])
            | _ => simp [SV.den] at e1
          have i2 : isNilIface b = true := by
            cases b with
            | one v hv => cases v <;> simp_all [SV.den, isNilIface]
            | raw v => exact absurd hform.2 (by simp [eqForm])
            | _ => simp [SV.den] at e2
          simp only [i1, i2, Bool.and_self, Bool.true_and, Bool.not_eq_true', Bool.not_eq_false, Bool.or_eq_true] at hnn
          rcases hnn with hx | hx
          · exact .inl (isConstOp_spec hx)
          · exact .inr (isConstOp_spec hx)
      have fa := eqForm_den (β := β) hform.1
      have fb := eqForm_den (β := β) hform.2
      split at h
      · obtain ⟨r, l, h1, h2⟩ := xEq_sound (β := β) h hs ha hb
        refine ⟨_, ?_, by trivial, h2⟩
        simp only [Sem.run_bind, main, Result.andThen_ok, binOp_eql fa fb, Sem.run_map, h1]
        rfl
      · obtain ⟨r, l, h1, h2⟩ := xEq_sound (β := β) h hs ha hb
        refine ⟨_, ?_, by trivial, h2⟩
        simp only [Sem.run_bind, main, Result.andThen_ok, binOp_neq fa fb, Sem.run_map, h1]
        rfl
      · exact h.elim

theorem xUn_sound {op : UnOp} {x : SV} {K : SV → T} (h : (xUn op x K).holds Γ) : Same Γ β s w ((Op.unary op (x.den β)).run Γ.P w) K := by
  unfold xUn at h
  split at h
  · exact ⟨_, rfl, by trivial, h⟩
  · exact ⟨_, by simp only [Op.unary, Op.intBits, Sem.run_pure, SV.den], by trivial, h⟩
  · exact ⟨_, rfl, by trivial, h⟩
  · exact h.elim

/-! ### What is appended, copied, converted -/

theorem intsAt_spec (k : IntKind) (l : List Int) : ∀ (n off : Nat), off + n ≤ l.length → denL β (intsAt k l off n) = ((l.drop off).take n).map (Value.int k) ∧ (intsAt k l off n).length = n ∧ (∀ m, okL m (intsAt k l off n))
  | 0, off, _ => by simp [intsAt, denL, okL]
  | n + 1, off, h => by
    obtain ⟨h1, h2, h3⟩ := intsAt_spec k l n (off + 1) (by omega)
    refine ⟨?_, by simp [intsAt, h2], fun m => ⟨trivial, h3 m⟩⟩
    have hlt : off < l.length := by omega
    rw [List.drop_eq_getElem_cons hlt, List.take_succ_cons, List.map_cons, ← h1]
    simp [intsAt, denL, SV.den, List.getD, hlt]

theorem xFirst_sound {n : Nat} {x : SV} {K : List SV → T} (h : (xFirst n x s K).holds Γ) (hs : St Γ β s w) :
    ∃ vs, vs.length = n ∧ okL s.n vs ∧ (K vs).holds Γ ∧ (∀ size m, n = m * size → ∀ w', Like w w' → (Builtin.firstCells size m (x.den β)).run Γ.P w' = .ok (denL β vs).toArray w') ∧
      (∀ size m, n = m * size → ∀ w', Like w w' → ∀ b o nn c, x.den β = .slice (some ⟨b, o, none⟩) nn c → (loadCells ⟨b, o, none⟩ n).run Γ.P w' = .ok (denL β vs).toArray w') := by
  unfold xFirst at h
  split at h
  · rename_i id off nn c ll lc
    split at h
    · rename_i cs tot e lo hi ho
      split at h
      · rename_i l hl
        have hlen := takeAt_length hl
        have key : ∀ w', Like w w' → (loadCells ⟨β id, off, none⟩ n).run Γ.P w' = .ok (denL β l).toArray w' := by
          intro w' hw
          have hs' := hs.like hw
          have := run_loadCells_list (P := Γ.P) w' ⟨β id, off, none⟩ (denL β l) (fun j v hv => by
            rw [add_plain]
            rw [denL_get] at hv
            cases hj : l[j]? with
            | none => rw [hj] at hv; cases hv
            | some x =>
              rw [hj] at hv
              simp only [Option.map_some, Option.some.injEq] at hv
              have hjlt := (List.getElem?_eq_some_iff.1 hj).1
              rw [takeAt_get hl j (by omega)] at hj
              rw [hs'.cell ho hj, hv])
          rwa [denL_length, hlen] at this
        refine ⟨l, hlen, takeAt_ok hl (hs.ok id _ ho), h, fun size m hm w' hw => ?_, fun size m hm w' hw b o nn' c' he => ?_⟩
        · simp only [SV.den, Builtin.firstCells, ← hm]
          exact key w' hw
        · simp only [SV.den, Value.slice.injEq, Option.some.injEq, Addr.mk.injEq] at he
          obtain ⟨⟨rfl, rfl, _⟩, _⟩ := he
          exact key w' hw
      · exact h.elim
    · rename_i k l e lo hi ho
      obtain ⟨hle, h⟩ := h
      obtain ⟨i1, i2, i3⟩ := intsAt_spec (β := β) k l n off hle
      have key : ∀ w', Like w w' → (loadCells ⟨β id, off, none⟩ n).run Γ.P w' = .ok (denL β (intsAt k l off n)).toArray w' := by
        intro w' hw
        have hs' := hs.like hw
        have := run_loadCells_list (P := Γ.P) w' ⟨β id, off, none⟩ (denL β (intsAt k l off n)) (fun j v hv => by
          rw [add_plain]
          have hjlt := (List.getElem?_eq_some_iff.1 hv).1
          rw [denL_length, i2] at hjlt
          rw [hs'.icell ho (show off + j < l.length by omega)]
          rw [i1] at hv
          simp only [List.getElem?_map, List.getElem?_take_of_lt hjlt, List.getElem?_drop] at hv
          rw [List.getElem?_eq_getElem (show off + j < l.length by omega)] at hv
          simp only [Option.map_some, Option.some.injEq] at hv
          rw [← hv]
          simp [List.getD, show off + j < l.length by omega])
        rwa [denL_length, i2] at this
      refine ⟨_, i2, i3 _, h, fun size m hm w' hw => ?_, fun size m hm w' hw b o nn' c' he => ?_⟩
      · simp only [SV.den, Builtin.firstCells, ← hm]
        exact key w' hw
      · simp only [SV.den, Value.slice.injEq, Option.some.injEq, Addr.mk.injEq] at he
        obtain ⟨⟨rfl, rfl, _⟩, _⟩ := he
        exact key w' hw
    · exact h.elim
  · split at h
    · rename_i hn
      subst hn
      refine ⟨[], rfl, trivial, h, fun size m hm w' hw => ?_, fun size m hm w' hw b o nn' c' he => ?_⟩
      · simp [SV.den, Builtin.firstCells, denL]
      · simp [SV.den] at he
    · exact h.elim
  · exact h.elim

end Go.Rx
end

section
/- The operations' laws: make, append, copy, conversions, assertions, methods. -/
set_option linter.unusedVariables false
set_option linter.unusedSimpArgs false
namespace Go.Rx

variable {Γ : Ctx} {β : Nat → Nat} {s : SS} {w : World}

/-! ### make -/

theorem wrap64_of {n : Int} (h0 : 0 ≤ n) (h1 : n < 2 ^ 63) : IntKind.i64.wrap n = n := by
  have e : n % 2 ^ 64 = n := Int.emod_eq_of_lt h0 (by omega)
  simp only [IntKind.wrap, IntKind.bits, IntKind.signed, e]
  rw [if_neg (by simp; omega)]

theorem run_makeSlice {P : Program} {t elem : TypeId} {inf : TypeInfo} {n c : Int} {k k' : IntKind} {z : Value} (hu : P.underlying t = some (.slice elem)) (hi : P.info? elem = some inf)
    (h0 : 0 ≤ n) (h1 : n ≤ c) (h2 : (inf.bytes : Int) * c ≤ 2 ^ 48) (h3 : c < 2 ^ 63) (hz : inf.zero = some z) (hsz : z.cells.size = inf.size) :
    (Instr.makeSlice t (.int k n) (.int k' c)).run P w = .ok (.slice (some ⟨w.heap.size, 0, none⟩) n.toNat c.toNat) (w.alloc (.cells (List.replicate c.toNat z.cells.toList).flatten.toArray elem)) := by
  have e1 := wrap64_of h0 (by omega : n < 2 ^ 63)
  have e2 := wrap64_of (by omega : 0 ≤ c) h3
  simp only [Instr.makeSlice, Sem.run_bind, run_underlying' hu, Result.andThen_ok, asInt, asIntOf, Sem.run_pure, run_typeInfo hi, e1, e2]
  have hc1 : ¬ ((inf.bytes : Int) * c > 2 ^ 48) := by omega
  have hn : ¬ n < 0 := by omega
  have hc0 : ¬ c < 0 := by omega
  have hnc : ¬ n > c := by omega
  simp only [hc0, hc1, hn, hnc, decide_false, Bool.or_false, Bool.false_eq_true, or_false, if_false, Sem.run_bind, run_askRoom, Result.andThen_ok, run_sizeOf hi]
  by_cases hcz : c.toNat * inf.size = 0
  · simp only [hcz, if_true, Sem.run_pure, Sem.run_bind, Result.andThen_ok, newRow, run_newObj]
    have : (List.replicate c.toNat z.cells.toList).flatten = [] := by
      apply List.eq_nil_of_length_eq_zero
      simp [List.length_flatten, hsz, hcz]
    have e0 : ∀ f : Nat → Value, (Array.range 0).map f = #[] := fun f => by apply Array.eq_empty_of_size_eq_zero; simp
    simp [this, e0]
  · simp only [hcz, if_false, Sem.run_bind, run_zeroValue hi hz, Result.andThen_ok, Sem.run_pure, newRow, run_newObj]
    have := zeros_eq z.cells.toList c.toNat
    simp only [Array.length_toList, hsz, Array.toArray_toList] at this
    rw [hsz, this]
    rfl

theorem zeroOk_spec {P : Program} {e : TypeId} {n : Nat} (h : zeroOk P e n = true) : ∃ i v, P.info? e = some i ∧ i.zero = some v ∧ v.cells.size = n := by
  unfold zeroOk at h
  split at h
  · rename_i z hz
    let Γ : Ctx := { P := P, β0 := id, n0 := 0, Q := fun _ _ _ => True }
    obtain ⟨i, v, hi, hv, hd, hk⟩ := zeroS_spec (Γ := Γ) hz
    refine ⟨i, v, hi, hv, ?_⟩
    rw [← hd id, SV.cells_den]
    simpa [denL_length] using h
  · cases h

theorem xMakeSlice_sound {t : TypeId} {len cap : SV} {K : SV → SS → T} (h : (xMakeSlice Γ.P t len cap s K).holds Γ) (hs : St Γ β s w) :
    Good Γ β s ((Instr.makeSlice t (len.den β) (cap.den β)).run Γ.P w) K := by
  unfold xMakeSlice at h
  split at h
  · rename_i elem hu
    split at h
    · rename_i inf hi
      split at h
      · rename_i k n ln k' c lc
        split at h
        · split at h
          · rename_i hc
            obtain ⟨h0, h1, h2, h3⟩ := hc
            split at h
            · rename_i z hz
              obtain ⟨i', v, hi', hv, hd, hk⟩ := zeroS_spec hz
              rw [hi] at hi'
              simp only [Option.some.injEq] at hi'
              subst hi'
              split at h
              · rename_i hsz
                split at h
                · rename_i hone
                  have hvc : v.cells = (denL β z.cells).toArray := by rw [← hd β, SV.cells_den]
                  have hrun := run_makeSlice (w := w) (k := k) (k' := k') (z := v) hu hi h0 h1 h2 h3 hv (by rw [hvc]; simp [denL_length, hsz])
                  refine ⟨_, _, upd β s.n w.heap.size, _, ?_, ⟨hs.alloc (o := .cells (rep c.toNat z.cells) (rep c.toNat z.cells).length elem 0 0) (ob := .cells (denL β (rep c.toNat z.cells)).toArray elem) ?_ (okL_mono (Nat.le_succ _) _ (rep_ok (SV.cells_ok (hk _)))), ?_, fun i hi => upd_lt hi⟩, ?_, h⟩
                  rotate_left
                  · refine ⟨[], ?_, by simp⟩
                    rw [List.append_nil, denL_agree (fun i hi => upd_lt hi) _ (rep_ok (SV.cells_ok (hk s.n)))]
                  · rw [SS.n_new]; exact Nat.le_succ _
                  · rw [SS.n_new]; exact Nat.lt_succ_self _
                  · simp only [SV.den, upd_at]
                    rw [hrun, hvc, rep_den]
                · exact h.elim
              · exact h.elim
            · exact h.elim
          · exact h.elim
        · split at h
          · rename_i kk z hz
            split at h
            · rename_i hz1
              obtain ⟨rfl, hsz⟩ := hz1
              obtain ⟨⟨h0, h1, h2, h3⟩, h⟩ := h
              have hrun := run_makeSlice (w := w) (k := k) (k' := k') hu hi h0 h1 h2 h3 hz (by simp [Value.cells, hsz])
              refine ⟨_, _, upd β s.n w.heap.size, _, ?_, ⟨hs.alloc (o := .ints kk (List.replicate c.toNat 0) elem 0 0) (ob := .cells ((List.replicate c.toNat 0).map (Value.int kk)).toArray elem) ?_ trivial, ?_, fun i hi => upd_lt hi⟩, ?_, h⟩
              rotate_left
              · rfl
              · rw [SS.n_new]; exact Nat.le_succ _
              · rw [SS.n_new]; exact Nat.lt_succ_self _
              · simp only [SV.den, upd_at]
                rw [hrun]
                simp [Value.cells]
            · exact h.elim
          · split at h
            · rename_i hz1
              simp only [Bool.and_eq_true, decide_eq_true_eq] at hz1
              obtain ⟨⟨_, rfl⟩, hzok⟩ := hz1
              obtain ⟨⟨h1, h2, h3⟩, h⟩ := h
              obtain ⟨i', z, hi', hz, hzs⟩ := zeroOk_spec hzok
              rw [hi] at hi'
              simp only [Option.some.injEq] at hi'
              subst hi'
              have hrun := run_makeSlice (w := w) (k := k) (k' := k') (z := z) hu hi (Int.le_refl 0) h1 h2 h3 hz hzs
              refine ⟨_, _, upd β s.n w.heap.size, _, ?_, ⟨hs.alloc (o := .vals [] (c.toNat * inf.size) elem 0 0) (ob := .cells (List.replicate c.toNat z.cells.toList).flatten.toArray elem) ?_ trivial, ?_, fun i hi => upd_lt hi⟩, ?_, h⟩
              rotate_left
              · exact ⟨(List.replicate c.toNat z.cells.toList).flatten, rfl, by simp [List.length_flatten, hzs]⟩
              · rw [SS.n_new]; exact Nat.le_succ _
              · rw [SS.n_new]; exact Nat.lt_succ_self _
              · simp only [SV.den, upd_at]
                rw [hrun]
                simp
            · exact h.elim
      · exact h.elim
    · exact h.elim
  · exact h.elim

/-! ### Assertions, conversions -/

theorem xAssert_sound {x : SV} {xt asserted : TypeId} {ok : Bool} {K : SV → T} (h : (xAssert Γ.P x asserted ok K).holds Γ) (hx : x.ok s.n) :
    Same Γ β s w ((Instr.typeAssert (x.den β) xt asserted ok).run Γ.P w) K := by
  unfold xAssert at h
  have hfail : ∀ (st dy : Option TypeId) (m : String), (assertFails Γ.P asserted ok K).holds Γ →
      ∃ v, (if ok = true then (do pure (.tuple #[← zeroValue asserted, .bool false])) else runtimePanic (.typeAssertion st dy asserted m) : Sem Value).run Γ.P w = .ok (v.den β) w ∧ v.ok s.n ∧ (K v).holds Γ := by
    intro st dy m hf
    unfold assertFails at hf
    split at hf
    · rename_i hok
      split at hf
      · rename_i z hz
        obtain ⟨i, v, hi, hv, hd, hk⟩ := zeroS_spec hz
        refine ⟨.tup [z, .bool false true], ?_, ⟨hk _, trivial, trivial⟩, hf⟩
        simp [hok, run_zeroValue hi hv, SV.den, denL, hd β]
      · exact hf.elim
    · exact hf.elim
  have hhold : ∀ v : SV, v.ok s.n → (assertHolds ok v K).holds Γ →
      ∃ r, (pure (if ok = true then .tuple #[v.den β, .bool true] else v.den β) : Sem Value).run Γ.P w = .ok (SV.den β r) w ∧ r.ok s.n ∧ (K r).holds Γ := by
    intro v hv hk
    unfold assertHolds at hk
    split at hk
    · rename_i hok
      exact ⟨.tup [v, .bool true true], by simp [hok, SV.den, denL], ⟨hv, trivial, trivial⟩, hk⟩
    · rename_i hok
      exact ⟨v, by simp [hok], hv, hk⟩
  split at h
  · rename_i want hu
    split at h
    · rename_i hn
      obtain ⟨v, h1, h2, h3⟩ := hfail none none "" h
      refine ⟨v, ?_, h2, h3⟩
      rw [isNilIface_spec hn]
      simp only [Instr.typeAssert, Sem.run_bind, run_underlying' hu, Result.andThen_ok]
      exact h1
    · split at h
      · rename_i t v _
        split at h
        · rename_i inf hi
          split at h
          · rename_i hm
            obtain ⟨r, h1, h2, h3⟩ := hhold (.ifc t v) hx h
            refine ⟨r, ?_, h2, h3⟩
            simp only [Instr.typeAssert, Sem.run_bind, run_underlying' hu, Result.andThen_ok, SV.den, run_typeInfo hi, hm]
            exact h1
          · rename_i m hm
            obtain ⟨r, h1, h2, h3⟩ := hfail none (some t) m h
            refine ⟨r, ?_, h2, h3⟩
            simp only [Instr.typeAssert, Sem.run_bind, run_underlying' hu, Result.andThen_ok, SV.den, run_typeInfo hi, hm]
            exact h1
        · exact h.elim
      · exact h.elim
  · rename_i d hd hu
    split at h
    · rename_i hn
      obtain ⟨v, h1, h2, h3⟩ := hfail (some xt) none "" h
      refine ⟨v, ?_, h2, h3⟩
      rw [isNilIface_spec hn]
      simp only [Instr.typeAssert, Sem.run_bind, run_underlying' hu, Result.andThen_ok]
      cases d <;> first | exact (hd _ rfl).elim | exact h1
    · split at h
      · rename_i t v _
        split at h
        · rename_i htt
          obtain ⟨r, h1, h2, h3⟩ := hhold v hx h
          refine ⟨r, ?_, h2, h3⟩
          simp only [Instr.typeAssert, Sem.run_bind, run_underlying' hu, Result.andThen_ok, SV.den]
          cases d <;> first | exact (hd _ rfl).elim | (simp only [htt, if_true]; exact h1)
        · rename_i htt
          obtain ⟨r, h1, h2, h3⟩ := hfail (some xt) (some t) "" h
          refine ⟨r, ?_, h2, h3⟩
          simp only [Instr.typeAssert, Sem.run_bind, run_underlying' hu, Result.andThen_ok, SV.den]
          cases d <;> first | exact (hd _ rfl).elim | (simp only [htt, if_false]; exact h1)
      · exact h.elim
  · exact h.elim

theorem intsOf_spec : ∀ (cs : List SV) (ns : List Int) (l : Bool), intsOf cs = some (ns, l) → denL β cs = ns.map (Value.int .u8)
  | [], ns, l, h => by
    simp only [intsOf, Option.some.injEq, Prod.mk.injEq] at h
    rw [← h.1]; rfl
  | c :: cs, ns, l, h => by
    unfold intsOf at h
    split at h
    · rename_i heq; cases heq
    · rename_i n lit r heq
      simp only [List.cons.injEq] at heq
      obtain ⟨rfl, rfl⟩ := heq
      split at h
      · rename_i ns' lr hr
        simp only [Option.some.injEq, Prod.mk.injEq] at h
        rw [← h.1]
        simp only [denL, SV.den, List.map_cons, intsOf_spec _ ns' lr hr]
      · cases h
    · cases h

theorem bytesS_den (l : List UInt8) (lit : Bool) : denL β (bytesS l lit) = l.map fun b => Value.int .u8 (b.toNat : Int) := by
  induction l with
  | nil => rfl
  | cons b bs ih => simp [bytesS, denL, SV.den, ih]

theorem bytesS_ok (l : List UInt8) (lit : Bool) (n : Nat) : okL n (bytesS l lit) := by
  induction l with
  | nil => trivial
  | cons b bs ih => exact ⟨trivial, ih⟩

theorem run_stringToBytes {P : Program} {e : TypeId} {u : ByteArray} : ∃ c, u.size ≤ c ∧ c = (Question.appendCap u.size 0 e).cut (w.tape w.drawn (.appendCap u.size 0 e)) ∧
    ∃ w', Like w w' ∧ (Conv.stringToBytes e u).run P w = .ok (.slice (some ⟨w.heap.size, 0, none⟩) u.size c)
      (w'.alloc (.cells (u.data.toList.map (fun (b : UInt8) => Value.int .u8 (b.toNat : Int)) ++ List.replicate (c - u.size) (Value.int .u8 0)).toArray e (c, c + 1))) := by
  refine ⟨_, ?_, rfl, { w with drawn := w.drawn + 1 }, ⟨rfl, rfl, rfl, rfl⟩, ?_⟩
  · simp only [Question.cut]; exact Nat.le_add_right _ _
  · generalize hc : (Question.appendCap u.size 0 e).cut (w.tape w.drawn (.appendCap u.size 0 e)) = c
    have hle : u.size ≤ c := by rw [← hc]; simp only [Question.cut]; exact Nat.le_add_right _ _
    simp only [Conv.stringToBytes, Sem.run_bind, run_choose, Question.forced, Bool.false_eq_true, if_false, hc, Result.andThen_ok, newRow, run_newObj, Sem.run_pure, markStringish, run_shape]
    have hsz : ((u.data.map fun b => Value.int IntKind.u8 (b.toNat : Int)) ++ Array.replicate (c - u.size) (Value.int IntKind.u8 0)).size = c := by
      simp; have : u.data.size = u.size := rfl; omega
    have hs1 : World.shape? { w with drawn := w.drawn + 1, heap := w.heap.push (.cells ((u.data.map fun b => Value.int IntKind.u8 (b.toNat : Int)) ++ Array.replicate (c - u.size) (Value.int IntKind.u8 0)) e) } w.heap.size = some (e, c) := by
      simp [World.shape?, hsz]
    simp only [hs1, run_freeze, Result.andThen_ok]
    congr 1
    simp only [World.freeze, World.alloc]
    simp only [Nat.one_ne_zero, if_false]
    congr 1
    apply Array.ext_getElem?
    intro i
    simp only [Array.getElem?_modify, Array.getElem?_push]
    by_cases hi : i = w.heap.size
    · subst hi
      simp
    · simp [hi, Ne.symm hi]

theorem bytesOf_mk (ns : List Int) : bytesOf ns = ⟨(ns.map fun n => UInt8.ofNat n.toNat).toArray⟩ := by
  have key : ∀ (ns : List Int) (r : ByteArray), ns.foldl (fun r n => r.push (UInt8.ofNat n.toNat)) r = ⟨r.data ++ (ns.map fun n => UInt8.ofNat n.toNat).toArray⟩ := by
    intro ns
    induction ns with
    | nil => intro r; simp
    | cons n ns ih =>
      intro r
      simp only [List.foldl_cons, ih, List.map_cons]
      congr 1
      simp [ByteArray.push]
  have := key ns ByteArray.empty
  unfold bytesOf
  rw [this]
  congr 1
  simp [ByteArray.empty, ByteArray.emptyWithCapacity]
  rfl

theorem intAt_of {w : World} {a : Addr} {k : IntKind} {n : Int} (h : w.cell? a = some (.int k n)) : intAt w a = n := by simp [intAt, h]

/-- The bytes of a slice that is not tracked, as cells. -/
theorem ext_cells {A : Option Addr} {n : Nat} (o : Old β s w) (hc : canBytes s.w0 s.pre A n) : ∀ a, A = some a → ∀ j v, (valsAt s.w0 A n)[j]? = some v → w.cell? (a.add j) = some v := by
  rintro a rfl j v hj
  unfold valsAt at hj
  have hlt := (List.getElem?_eq_some_iff.1 hj).1
  simp only [List.length_map, List.length_range] at hlt
  rcases hc with h0 | ⟨a', ha, hb, hp, hi⟩
  · omega
  · simp only [Option.some.injEq] at ha
    subst ha
    obtain ⟨b, hb'⟩ := hi j hlt
    rw [o.cell (by rw [add_block]; exact hb) (by rw [add_block]; exact hp), hb']
    simp [hlt, intAt_of hb'] at hj
    rw [← hj]

theorem ext_string {A : Option Addr} {n cap : Nat} (o : Old β s w) (hc : canBytes s.w0 s.pre A n) :
    (Conv.bytesToString (.slice A n cap)).run Γ.P w = .ok (.string (bytesAt s.w0 A n)) w := by
  cases A with
  | none =>
    rcases hc with rfl | ⟨a, h, _⟩
    · simp [Conv.bytesToString, bytesAt]; rfl
    · cases h
  | some a =>
    have hl := run_loadCells_list (P := Γ.P) w a (valsAt s.w0 (some a) n) (ext_cells o hc a rfl)
    have hlen : (valsAt s.w0 (some a) n).length = n := by simp [valsAt]
    rw [hlen] at hl
    have e1 : valsAt s.w0 (some a) n = ((List.range n).map fun i => intAt s.w0 (a.add i)).map (Value.int .u8) := by simp [valsAt]
    rw [e1] at hl
    rw [run_bytesToString w a n cap _ hl]
    have := bytesOf_mk ((List.range n).map fun i => intAt s.w0 (a.add i))
    unfold bytesOf at this
    rw [this]
    simp [bytesAt]

theorem byteVals_map {l : List Value} (h : byteVals l) : l = (l.map valInt).map (Value.int .u8) := by
  induction l with
  | nil => rfl
  | cons v vs ih =>
    obtain ⟨b, hb⟩ := h v (by simp)
    simp only [List.map_cons]
    rw [← ih fun u hu => h u (by simp [hu])]
    rw [hb]; rfl

theorem St.vcell (h : St Γ β s w) {id tot lo hi : Nat} {l : List Value} {e : TypeId} (ho : s.objs[id]? = some (.vals l tot e lo hi)) {off : Nat} {v : Value} (hv : l[off]? = some v) :
    w.cell? ⟨β id, off, none⟩ = some v := by
  obtain ⟨rest, h1, _⟩ := h.at_ id _ ho
  have hlt := (List.getElem?_eq_some_iff.1 hv).1
  simp only [World.cell?, h1]
  simp [List.getElem?_append_left hlt, hv]

theorem vals_load {id tot lo hi off len : Nat} {l : List Value} {e : TypeId} (hs : St Γ β s w) (ho : s.objs[id]? = some (.vals l tot e lo hi)) (hle : off + len ≤ l.length) :
    (loadCells ⟨β id, off, none⟩ len).run Γ.P w = .ok ((l.drop off).take len).toArray w := by
  have := run_loadCells_list (P := Γ.P) w ⟨β id, off, none⟩ ((l.drop off).take len) (fun j v hv => by
    rw [add_plain]
    have hjlt := (List.getElem?_eq_some_iff.1 hv).1
    simp only [List.length_take, List.length_drop] at hjlt
    rw [List.getElem?_take_of_lt (show j < len by omega), List.getElem?_drop] at hv
    exact hs.vcell ho hv)
  have e1 : ((l.drop off).take len).length = len := by simp; omega
  rwa [e1] at this

theorem xConvert_sound {src dst : TypeId} {x : SV} {K : SV → SS → T} (h : (xConvert Γ.P src dst x s K).holds Γ) (hs : St Γ β s w) :
    Good Γ β s ((convert src dst (x.den β)).run Γ.P w) K := by
  unfold xConvert at h
  split at h
  · rename_i ds k hsrc hdst
    split at h
    · refine Same.good hs ⟨_, ?_, by trivial, h⟩
      cases ds <;> simp [convert, run_underlying' hsrc, run_underlying' hdst, SV.den, Conv.intToInt]
    · exact h.elim
  · rename_i ds hsrc hdst
    split at h
    · refine Same.good hs ⟨_, ?_, by trivial, h⟩
      cases ds <;> simp [convert, run_underlying' hsrc, run_underlying' hdst, SV.den]
    · rename_i id off len cap ll lc
      split at h
      · rename_i e
        split at h
        · rename_i he
          split at h
          · obtain ⟨vs, f1, f2, f3, f4, f5⟩ := xFirst_sound h hs
            split at f3
            · rename_i ns lit hns
              refine Same.good hs ⟨_, ?_, by trivial, f3⟩
              have hl := f5 1 len (by omega) w ⟨rfl, rfl, rfl, rfl⟩ (β id) off len cap rfl
              rw [intsOf_spec _ _ _ hns] at hl
              simp only [SV.den]
              rw [run_convert_bytes_string w src dst e _ _ _ hsrc he hdst]
              exact run_bytesToString w _ len cap ns hl
            · exact f3.elim
          · split at h
            · rename_i l e' lo hi ho
              obtain ⟨hle, h⟩ := h
              refine Same.good hs ⟨_, ?_, by trivial, h⟩
              simp only [SV.den]
              rw [run_convert_bytes_string w src dst e _ _ _ hsrc he hdst]
              refine run_bytesToString w _ len cap _ ?_
              have hx : (xFirst len (.slc id off len cap ll lc) s fun _ => T.leaf .normal [] s).holds { Γ with Q := fun _ _ _ => True } := by
                simp only [xFirst, ho]
                exact ⟨hle, fun _ _ _ _ => True.intro⟩
              obtain ⟨i1, i2, i3⟩ := intsAt_spec (β := β) .u8 l len off hle
              have := run_loadCells_list (P := Γ.P) w ⟨β id, off, none⟩ (((l.drop off).take len).map (Value.int .u8)) (fun j v hv => by
                rw [add_plain]
                have hjlt := (List.getElem?_eq_some_iff.1 hv).1
                simp only [List.length_map, List.length_take, List.length_drop] at hjlt
                rw [hs.icell ho (show off + j < l.length by omega)]
                simp only [List.getElem?_map, List.getElem?_take_of_lt (show j < len by omega), List.getElem?_drop] at hv
                rw [List.getElem?_eq_getElem (show off + j < l.length by omega)] at hv
                simp only [Option.map_some, Option.some.injEq] at hv
                rw [← hv]
                simp [List.getD, show off + j < l.length by omega])
              have e1 : (((l.drop off).take len).map (Value.int .u8)).length = len := by simp; omega
              rwa [e1] at this
            · rename_i l e' tot lo hi ho
              obtain ⟨⟨hle, hbv⟩, h⟩ := h
              refine Same.good hs ⟨_, ?_, by trivial, h⟩
              simp only [SV.den]
              rw [run_convert_bytes_string w src dst e _ _ _ hsrc he hdst]
              refine run_bytesToString w _ len cap _ ?_
              have := vals_load (Γ := Γ) hs ho hle
              rwa [byteVals_map hbv] at this
            · exact h.elim
        · exact h.elim
      · exact h.elim
    · rename_i A nn cc
      split at h
      · rename_i hext
        split at h
        · rename_i e
          split at h
          · rename_i he
            obtain ⟨hcb, h⟩ := h
            refine Same.good hs ⟨_, ?_, by trivial, h⟩
            simp only [SV.den]
            rw [run_convert_bytes_string w src dst e _ _ _ hsrc he hdst]
            exact ext_string (hs.old hext) hcb
          · exact h.elim
        · exact h.elim
      · exact h.elim
    · rename_i nn cc _
      split at h
      · rename_i e
        split at h
        · rename_i he
          refine Same.good hs ⟨_, ?_, by trivial, h⟩
          simp only [SV.den]
          rw [run_convert_bytes_string w src dst e _ _ _ hsrc he hdst]
          simp [Conv.bytesToString]
        · exact h.elim
      · exact h.elim
    · exact h.elim
  · rename_i ds e hsrc hdst
    split at h
    · rename_i u l
      split at h
      · rename_i he
        obtain ⟨c, c1, c2, w', c3, c4⟩ := run_stringToBytes (w := w) (P := Γ.P) (e := e) (u := u)
        have hrun : (convert src dst (SV.den β (.str u l))).run Γ.P w = (Conv.stringToBytes e u).run Γ.P w := by
          cases ds <;> simp [convert, run_underlying' hsrc, run_underlying' hdst, run_underlying' he, SV.den]
        have h := h (w.tape w.drawn (.appendCap u.size 0 e))
        rw [← c2] at h
        have hs' := hs.like c3
        have hsz : w'.heap.size = w.heap.size := by rw [c3.heap]
        refine ⟨_, _, upd β s.n w'.heap.size, _, ?_, ⟨hs'.alloc (ob := .cells (u.data.toList.map (fun (b : UInt8) => Value.int .u8 (b.toNat : Int)) ++ List.replicate (c - u.size) (Value.int .u8 0)).toArray e (c, c + 1)) ?_ ?_, ?_, fun i hi => upd_lt hi⟩, ?_, h⟩
        · rw [hrun, c4]
          simp only [SV.den, upd_at, hsz]
        · cases l
          · simp only [Bool.false_eq_true, if_false, SObj.At]
            congr 2
            simp
          · simp only [if_true]
            refine ⟨List.replicate (c - u.size) (.int .u8 0), by rw [bytesS_den], ?_⟩
            have : (bytesS u.data.toList true).length = u.size := by rw [← denL_length β, bytesS_den]; simp
            rw [this, List.length_replicate]; omega
        · cases l
          · trivial
          · exact bytesS_ok _ _ _
        · rw [SS.n_new]; exact Nat.le_succ _
        · rw [SS.n_new]; exact Nat.lt_succ_self _
      · exact h.elim
    · exact h.elim
  · exact h.elim

end Go.Rx
end

section
/- The operations' laws: append, copy, methods. -/
set_option linter.unusedVariables false
set_option linter.unusedSimpArgs false
namespace Go.Rx

variable {Γ : Ctx} {β : Nat → Nat} {s : SS} {w : World}

theorem lenS_run {y : SV} {n : Nat} {l : Bool} (h : lenS y = some (n, l)) : (Builtin.lenOf (y.den β)).run Γ.P w = .ok n w := by
  unfold lenS at h
  split at h
  · simp only [Option.some.injEq, Prod.mk.injEq] at h; obtain ⟨rfl, rfl⟩ := h; rfl
  · simp only [Option.some.injEq, Prod.mk.injEq] at h; obtain ⟨rfl, rfl⟩ := h; rfl
  · cases h

theorem zeroCells_eq (z : Array Value) (n : Nat) : Builtin.zeroCells z n = (List.replicate n z.toList).flatten.toArray := by
  have := zeros_eq z.toList n
  simpa [Builtin.zeroCells] using this

theorem kindOf_spec {z : Option Value} {k : IntKind} (h : kindOf z = some k) : z = some (.int k 0) := by
  unfold kindOf at h
  split at h
  · split at h
    · rename_i hn
      simp only [Option.some.injEq] at h
      subst h; subst hn; rfl
    · cases h
  · cases h

/-- append, where there is room. -/
theorem run_append_room {P : Program} {t t2 ty elem : TypeId} {e2 : TypeId} {inf : TypeInfo} {base : Option Addr} {len cap n : Nat} {y : Value} {new : List Value} {w' : World}
    (hu : P.underlying t = some (.slice elem)) (hu2 : P.underlying t2 = some (.slice e2)) (hi : P.info? elem = some inf) (hl : (Builtin.lenOf y).run P w = .ok n w)
    (hroom : len + n ≤ cap) (hf : (Builtin.firstCells inf.size n y).run P w = .ok new.toArray w)
    (hst : ∀ a, base = some a → (storeCells (a.add (len * inf.size)) new).run P w = .ok () w') (hnone : base = none → w' = w) :
    (Builtin.append_ #[t, t2] ty #[.slice base len cap, y]).run P w = .ok (.slice base (len + n) cap) w' := by
  simp only [Builtin.append_, List.getElem?_toArray, List.getElem?_cons_zero, List.getElem?_cons_succ, Sem.run_bind, run_underlying' hu, run_underlying' hu2, Result.andThen_ok, run_sizeOf hi, Sem.run_pure, Bool.false_eq_true, if_false, hl, hroom, if_true, hf, Bool.not_false]
  cases base with
  | none => simp [hnone rfl]
  | some a =>
    have := hst a rfl
    simp [this]

theorem run_append_grow {P : Program} {t t2 ty elem : TypeId} {e2 : TypeId} {inf : TypeInfo} {base : Option Addr} {len cap n : Nat} {y : Value} {old new : List Value} {z : Value}
    (hu : P.underlying t = some (.slice elem)) (hu2 : P.underlying t2 = some (.slice e2)) (hi : P.info? elem = some inf) (hl : ∀ w', Like w w' → (Builtin.lenOf y).run P w' = .ok n w')
    (hroom : ¬ len + n ≤ cap) (hmax : ((len + n : Nat) : Int) ≤ IntKind.i64.max) (hbytes : Builtin.nextslicecap (len + n) cap * inf.bytes ≤ 2 ^ 48)
    (hf : ∀ w', Like w w' → (Builtin.firstCells inf.size n y).run P w' = .ok new.toArray w') (ho : ∀ w', Like w w' → (Builtin.firstCells inf.size len (.slice base len cap)).run P w' = .ok old.toArray w')
    (hz : inf.zero = some z) :
    ∃ w', Like w w' ∧ (Builtin.append_ #[t, t2] ty #[.slice base len cap, y]).run P w =
      .ok (.slice (some ⟨w.heap.size, 0, none⟩) (len + n) ((Question.appendCap (len + n) cap elem).cut (w.tape w.drawn (.appendCap (len + n) cap elem))))
        (w'.alloc (.cells (old ++ new ++ (List.replicate ((Question.appendCap (len + n) cap elem).cut (w.tape w.drawn (.appendCap (len + n) cap elem)) - (len + n)) z.cells.toList).flatten).toArray elem)) := by
  generalize hc : (Question.appendCap (len + n) cap elem).cut (w.tape w.drawn (.appendCap (len + n) cap elem)) = c
  have hlk : Like w { w with drawn := w.drawn + 1 } := ⟨rfl, rfl, rfl, rfl⟩
  refine ⟨{ w with drawn := w.drawn + 1 }, hlk, ?_⟩
  have h1 : ¬ (((len + n : Nat) : Int) > IntKind.i64.max) := by omega
  have h2 : ¬ (Builtin.nextslicecap (len + n) cap * inf.bytes > 2 ^ 48) := by omega
  simp only [Builtin.append_, List.getElem?_toArray, List.getElem?_cons_zero, List.getElem?_cons_succ, Sem.run_bind, run_underlying' hu, run_underlying' hu2, Result.andThen_ok, run_sizeOf hi, Sem.run_pure, Bool.false_eq_true, if_false,
    hl w ⟨rfl, rfl, rfl, rfl⟩, hroom, run_typeInfo hi, h1, false_and, h2, run_choose, Question.forced, hc, run_askRoom, ho _ hlk, hf _ hlk, Bool.not_false, if_true, run_zeroValue hi hz, newRow, run_newObj, zeroCells_eq]
  congr 2
  simp

/-- Values written right behind the known ones. -/
theorem push_vals {id tot lo hi : Nat} {e : TypeId} {l vs : List Value} (hs : St Γ β s w) (ho : s.objs[id]? = some (.vals l tot e lo hi))
    (hf : thawed lo hi l.length vs.length = true) (hroom : l.length + vs.length ≤ tot) (h1 : ∀ v ∈ vs, v.oneCell' = true) :
    ∃ w', (storeCells ⟨β id, l.length, none⟩ vs).run Γ.P w = .ok () w' ∧ St Γ β (s.set id (.vals (l ++ vs) tot e lo hi)) w' := by
  obtain ⟨rest, hb, htot⟩ := hs.at_ id _ ho
  have := thawed_spec hf
  obtain ⟨w', r1, r2, r3⟩ := run_storeCells (P := Γ.P) (β id) l.length e lo hi vs 0 w (l ++ rest) hb h1 (by rw [List.length_append]; omega) (by omega)
  refine ⟨w', r1, hs.put ho r3 ?_ trivial⟩
  refine ⟨rest.drop vs.length, ?_, by rw [List.length_append, List.length_drop]; omega⟩
  rw [r2, Nat.add_zero]
  have key : ∀ (a vs rest : List Value), vs.length ≤ rest.length → setMany (a ++ rest) a.length vs = a ++ vs ++ rest.drop vs.length := by
    intro a vs
    induction vs generalizing a with
    | nil => intro rest _; simp [setMany]
    | cons v vs ih =>
      intro rest hr
      cases rest with
      | nil => simp at hr
      | cons r rest =>
        simp only [List.length_cons] at hr
        simp only [setMany]
        have e1 : (a ++ r :: rest).set a.length v = (a ++ [v]) ++ rest := by
          rw [List.set_append_right _ _ (Nat.le_refl _)]; simp
        have e2 : a.length + 1 = (a ++ [v]).length := by simp
        rw [e1, e2, ih (a ++ [v]) rest (by omega)]
        simp
  rw [key l vs rest (by omega)]

theorem only_self (w : World) (b : Nat) : Only w w b := ⟨rfl, fun _ _ => rfl, rfl, rfl, rfl⟩

theorem St.asVals (hs : St Γ β s w) {id tot lo hi : Nat} {cs : List SV} {l : List Value} {e : TypeId} (ho : s.objs[id]? = some (.cells cs tot e lo hi)) (hc : closedL cs = some l) :
    St Γ β (s.set id (.vals l tot e lo hi)) w := by
  obtain ⟨rest, hb, htot⟩ := hs.at_ id _ ho
  obtain ⟨h1, h2⟩ := closedL_spec hc β
  refine hs.put ho (only_self w _) (o' := .vals l tot e lo hi) ⟨rest, by rw [hb, h1], ?_⟩ trivial
  rw [← h1, denL_length]; exact htot

theorem appendVals_sound {t t2 ty elem e2 : TypeId} {inf : TypeInfo} {id off len n cap tot lo hi : Nat} {l new : List Value} {e : TypeId} {y : Value} {z : Value} {K : SV → SS → T}
    (h : (appendVals s elem inf id off len n cap l tot e lo hi new K).holds Γ) (hs : St Γ β s w) (ho : s.objs[id]? = some (.vals l tot e lo hi))
    (hu : Γ.P.underlying t = some (.slice elem)) (hu2 : Γ.P.underlying t2 = some (.slice e2)) (hi' : Γ.P.info? elem = some inf) (hz : inf.zero = some z) (hzs : z.cells.size = inf.size)
    (hl : ∀ w', Like w w' → (Builtin.lenOf y).run Γ.P w' = .ok n w') (hf : ∀ w', Like w w' → (Builtin.firstCells inf.size n y).run Γ.P w' = .ok new.toArray w')
    (hnew : new.length = n * inf.size) (h1 : ∀ v ∈ new, v.oneCell' = true) (hid : id < s.n) :
    Good Γ β s ((Builtin.append_ #[t, t2] ty #[.slice (some ⟨β id, off, none⟩) len cap, y]).run Γ.P w) K := by
  unfold appendVals at h
  obtain ⟨g1, g2⟩ := h
  by_cases hroom : len + n ≤ cap
  · obtain ⟨⟨hoff, htot, hfz⟩, hh⟩ := g1 (by simpa using hroom)
    obtain ⟨w', r1, r2⟩ := push_vals hs ho hfz htot h1
    refine ⟨_, _, β, w', ?_, ⟨r2, by rw [SS.n_set]; exact Nat.le_refl _, fun _ _ => rfl⟩, by rw [SS.n_set]; exact hid, hh⟩
    simp only [SV.den]
    refine run_append_room hu hu2 hi' (hl w ⟨rfl, rfl, rfl, rfl⟩) hroom (hf w ⟨rfl, rfl, rfl, rfl⟩) (fun a ha => ?_) (fun hn => by cases hn)
    simp only [Option.some.injEq] at ha
    subst ha
    rw [add_plain, hoff]; exact r1
  · obtain ⟨⟨hle, hb, hm⟩, hh⟩ := g2 (by simpa using hroom)
    have hold' : ∀ w', Like w w' → (Builtin.firstCells inf.size len (.slice (some ⟨β id, off, none⟩) len cap)).run Γ.P w' = .ok ((l.drop off).take (len * inf.size)).toArray w' := by
      intro w' hw
      have := vals_load (Γ := Γ) (hs.like hw) ho hle
      simpa [Builtin.firstCells] using this
    obtain ⟨w', l1, l2⟩ := run_append_grow (ty := ty) (base := some ⟨β id, off, none⟩) (cap := cap) hu hu2 hi' hl hroom hm hb hf hold' hz
    have hh := hh (w.tape w.drawn (.appendCap (len + n) cap elem))
    generalize hc : (Question.appendCap (len + n) cap elem).cut (w.tape w.drawn (.appendCap (len + n) cap elem)) = c at l2 hh
    have hcle : len + n ≤ c := by rw [← hc]; simp only [Question.cut]; exact Nat.le_add_right _ _
    have hs' := hs.like l1
    have hsz : w'.heap.size = w.heap.size := by rw [l1.heap]
    refine ⟨_, _, upd β s.n w'.heap.size, _, ?_, ⟨hs'.alloc (o := .vals ((l.drop off).take (len * inf.size) ++ new) (c * inf.size) elem 0 0) (ob := .cells ((l.drop off).take (len * inf.size) ++ new ++ (List.replicate (c - (len + n)) z.cells.toList).flatten).toArray elem) ?_ trivial, ?_, fun i hi => upd_lt hi⟩, ?_, hh⟩
    rotate_left
    · refine ⟨(List.replicate (c - (len + n)) z.cells.toList).flatten, rfl, ?_⟩
      have e1 : ((l.drop off).take (len * inf.size)).length = len * inf.size := by simp; omega
      rw [List.length_append, e1, hnew]
      simp [List.length_flatten, hzs]
      rw [← Nat.add_mul, ← Nat.add_mul]
      congr 1
      omega
    · rw [SS.n_new]; exact Nat.le_succ _
    · rw [SS.n_new]; exact Nat.lt_succ_self _
    · simp only [SV.den, upd_at, hsz]
      exact l2

theorem valsAt_one (w : World) (A : Option Addr) (n : Nat) : ∀ v ∈ valsAt w A n, v.oneCell' = true := by
  intro v hv
  simp only [valsAt, List.mem_map] at hv
  obtain ⟨_, _, rfl⟩ := hv
  rfl

theorem appendExt_sound {t t2 ty elem e2 : TypeId} {inf : TypeInfo} {x : SV} {A : Option Addr} {n c : Nat} {K : SV → SS → T}
    (h : (appendExt s elem inf x A n K).holds Γ) (hs : St Γ β s w) (hx : x.ok s.n)
    (hu : Γ.P.underlying t = some (.slice elem)) (hu2 : Γ.P.underlying t2 = some (.slice e2)) (hi' : Γ.P.info? elem = some inf) :
    Good Γ β s ((Builtin.append_ #[t, t2] ty #[x.den β, .slice A n c]).run Γ.P w) K := by
  unfold appendExt at h
  split at h
  · rename_i hcond
    simp only [Bool.and_eq_true, beq_iff_eq] at hcond
    obtain ⟨⟨⟨hext, hsz⟩, _⟩, hk⟩ := hcond
    obtain ⟨hcb, h⟩ := h
    have hz := kindOf_spec hk
    have hlen : (valsAt s.w0 A n).length = n := by simp [valsAt]
    have hl : ∀ w', Like w w' → (Builtin.lenOf (.slice A n c)).run Γ.P w' = .ok n w' := fun w' _ => rfl
    have hf : ∀ w', Like w w' → (Builtin.firstCells inf.size n (.slice A n c)).run Γ.P w' = .ok (valsAt s.w0 A n).toArray w' := by
      intro w' hw
      have o := (hs.like hw).old hext
      cases A with
      | none =>
        rcases hcb with rfl | ⟨a, h, _⟩
        · simp [Builtin.firstCells, valsAt]
        · cases h
      | some a =>
        have := run_loadCells_list (P := Γ.P) w' a (valsAt s.w0 (some a) n) (ext_cells o hcb a rfl)
        rw [hlen] at this
        simp only [Builtin.firstCells, hsz, Nat.mul_one]
        exact this
    split at h
    · rename_i id off len cap ll lc
      split at h
      · rename_i cs tot e lo hi ho
        split at h
        · rename_i l hc
          split at h
          · have hs2 := hs.asVals ho hc
            have hid : id < (s.set id (.vals l tot e lo hi)).n := by rw [SS.n_set]; exact hx
            obtain ⟨v, s', β', w', r1, r2, r3, r4⟩ := appendVals_sound (ty := ty) h hs2 (by simp only [SS.set]; exact List.getElem?_set_self (lt_of_get ho)) hu hu2 hi' hz (by simp [Value.cells, hsz]) hl hf (by rw [hlen, hsz, Nat.mul_one]) (valsAt_one _ _ _) hid
            exact ⟨v, s', β', w', r1, ⟨r2.st, by have := r2.le; rw [SS.n_set] at this; exact this, fun i hi => r2.agree i (by rw [SS.n_set]; exact hi)⟩, r3, r4⟩
          · exact h.elim
        · exact h.elim
      · rename_i l tot e lo hi ho
        exact appendVals_sound h hs ho hu hu2 hi' hz (by simp [Value.cells, hsz]) hl hf (by rw [hlen, hsz, Nat.mul_one]) (valsAt_one _ _ _) hx
      · exact h.elim
    · exact h.elim
  · exact h.elim

set_option maxHeartbeats 1000000 in
theorem xAppend_sound {ty : TypeId} {ts : List TypeId} {x y : SV} {rest : List SV} {K : SV → SS → T} (h : (xAppend Γ.P ts x y s K).holds Γ) (hs : St Γ β s w) (hx : x.ok s.n) (hrest : rest = []) :
    Good Γ β s ((Builtin.append_ ts.toArray ty (denL β (x :: y :: rest)).toArray).run Γ.P w) K := by
  subst hrest
  unfold xAppend at h
  split at h
  · rename_i t t2
    split at h
    · rename_i elem e2 hu hu2
      split at h
      · rename_i inf n hi hlen
        obtain ⟨new, f1, f2, f3, f4, f5⟩ := xFirst_sound h hs
        have hl : ∀ w', Like w w' → (Builtin.lenOf (y.den β)).run Γ.P w' = .ok n w' := fun w' _ => lenS_run hlen
        have hf := fun w' hw => f4 inf.size n rfl w' hw
        simp only [denL]
        split at f3
        · rename_i hone
          split at f3
          · rename_i id off len cap ll lc
            split at f3
            · rename_i cs tot e lo hi' ho
              split at f3
              · -- the two ways
                have hin : (appendIn s id off len n cap lc inf.size cs tot e lo hi' new K).holds Γ → len + n ≤ cap → Good Γ β s ((Builtin.append_ #[t, t2] ty #[SV.den β (.slc id off len cap ll lc), y.den β]).run Γ.P w) K := by
                  intro hh hroom
                  unfold appendIn at hh
                  split at hh
                  · rename_i cs' hp
                    split at hh
                    · rename_i hfz
                      obtain ⟨w', r1, r2⟩ := put_cells hs ho hp hfz hone f2
                      refine ⟨_, _, β, w', ?_, ⟨r2, by rw [SS.n_set]; exact Nat.le_refl _, fun _ _ => rfl⟩, by rw [SS.n_set]; exact hx, hh⟩
                      simp only [SV.den]
                      refine run_append_room hu hu2 hi (hl w ⟨rfl, rfl, rfl, rfl⟩) hroom (hf w ⟨rfl, rfl, rfl, rfl⟩) (fun a ha => ?_) (fun hn => by cases hn)
                      simp only [Option.some.injEq] at ha
                      subst ha
                      rw [add_plain]; exact r1
                    · exact hh.elim
                  · split at hh
                    · rename_i hoff
                      split at hh
                      · rename_i hfz
                        obtain ⟨htot, hh⟩ := hh
                        rw [hoff] at hfz
                        obtain ⟨w', r1, r2⟩ := push_cells hs ho hfz htot hone f2
                        refine ⟨_, _, β, w', ?_, ⟨r2, by rw [SS.n_set]; exact Nat.le_refl _, fun _ _ => rfl⟩, by rw [SS.n_set]; exact hx, hh⟩
                        simp only [SV.den]
                        refine run_append_room hu hu2 hi (hl w ⟨rfl, rfl, rfl, rfl⟩) hroom (hf w ⟨rfl, rfl, rfl, rfl⟩) (fun a ha => ?_) (fun hn => by cases hn)
                        simp only [Option.some.injEq] at ha
                        subst ha
                        rw [add_plain, hoff]; exact r1
                      · exact hh.elim
                    · exact hh.elim
                have hgr : (appendGrow Γ.P s elem inf off len n cap cs new K).holds Γ → ¬ len + n ≤ cap → Good Γ β s ((Builtin.append_ #[t, t2] ty #[SV.den β (.slc id off len cap ll lc), y.den β]).run Γ.P w) K := by
                  intro hh hroom
                  unfold appendGrow at hh
                  split at hh
                  · rename_i old hold
                    split at hh
                    · exact hh.elim
                    · rename_i hzok
                      obtain ⟨hb, hm, hh⟩ := hh
                      obtain ⟨i', z, hi2, hz, hzs⟩ := zeroOk_spec (by simpa using hzok)
                      rw [hi] at hi2
                      simp only [Option.some.injEq] at hi2
                      subst hi2
                      have hold' : ∀ w', Like w w' → (Builtin.firstCells inf.size len (.slice (some ⟨β id, off, none⟩) len cap)).run Γ.P w' = .ok (denL β old).toArray w' := by
                        intro w' hw
                        have hlen' := takeAt_length hold
                        have hsl := hs.like hw
                        have := run_loadCells_list (P := Γ.P) w' ⟨β id, off, none⟩ (denL β old) (fun j v hv => by
                          rw [add_plain]
                          rw [denL_get] at hv
                          cases hj : old[j]? with
                          | none => rw [hj] at hv; cases hv
                          | some x =>
                            rw [hj] at hv
                            simp only [Option.map_some, Option.some.injEq] at hv
                            have hjlt := (List.getElem?_eq_some_iff.1 hj).1
                            rw [takeAt_get hold j (by omega)] at hj
                            rw [hsl.cell ho hj, hv])
                        rw [denL_length, hlen'] at this
                        simpa [Builtin.firstCells] using this
                      obtain ⟨w', l1, l2⟩ := run_append_grow (ty := ty) (base := some ⟨β id, off, none⟩) (cap := cap) hu hu2 hi hl hroom hm hb hf hold' hz
                      have hh := hh (w.tape w.drawn (.appendCap (len + n) cap elem))
                      generalize hc : (Question.appendCap (len + n) cap elem).cut (w.tape w.drawn (.appendCap (len + n) cap elem)) = c at l2 hh
                      have hcle : len + n ≤ c := by rw [← hc]; simp only [Question.cut]; exact Nat.le_add_right _ _
                      have hs' := hs.like l1
                      have hsz : w'.heap.size = w.heap.size := by rw [l1.heap]
                      have okn : okL s.n (old ++ new) := okL_append (takeAt_ok hold (hs.ok id _ ho)) f2
                      refine ⟨_, _, upd β s.n w'.heap.size, _, ?_, ⟨hs'.alloc (o := .cells (old ++ new) (c * inf.size) elem 0 0) (ob := .cells (denL β old ++ denL β new ++ (List.replicate (c - (len + n)) z.cells.toList).flatten).toArray elem) ?_ (okL_mono (Nat.le_succ _) _ okn), ?_, fun i hi => upd_lt hi⟩, ?_, hh⟩
                      rotate_left
                      · refine ⟨(List.replicate (c - (len + n)) z.cells.toList).flatten, ?_, ?_⟩
                        · rw [denL_agree (fun i hi => upd_lt hi) _ okn, denL_append]
                        · have hlo := takeAt_length hold
                          simp [List.length_flatten, hzs, hlo, f1]
                          rw [← Nat.add_mul, ← Nat.add_mul]
                          congr 1
                          omega
                      · rw [SS.n_new]; exact Nat.le_succ _
                      · rw [SS.n_new]; exact Nat.lt_succ_self _
                      · simp only [SV.den, upd_at, hsz]
                        exact l2
                  · exact hh.elim
                split at f3
                · split at f3
                  · rename_i hroom
                    exact hin f3 hroom
                  · rename_i hroom
                    exact hgr f3 hroom
                · obtain ⟨g1, g2⟩ := f3
                  by_cases hroom : len + n ≤ cap
                  · exact hin (g1 (by simpa using hroom)) hroom
                  · exact hgr (g2 (by simpa using hroom)) hroom
              · exact f3.elim
            · rename_i k l e lo hi' ho
              split at f3
              · rename_i k' v lit
                split at f3
                · rename_i hk
                  obtain ⟨rfl, hsz1, rfl⟩ := hk
                  obtain ⟨g1, g2⟩ := f3
                  by_cases hroom : len + 1 ≤ cap
                  · obtain ⟨hlt, hfz, hh⟩ := g1 (by simpa using hroom)
                    have hb := hs.at_ id _ ho
                    simp only [SObj.At] at hb
                    have := thawed_spec hfz
                    obtain ⟨w', r1, r2, r3⟩ := run_storeCells (P := Γ.P) (β id) (off + len) e lo hi' [.int k v] 0 w (l.map (Value.int k)) hb (by simp [Value.oneCell']) (by simp; omega) (by simp; omega)
                    refine ⟨_, _, β, w', ?_, ⟨hs.put ho r3 (o' := .ints k (l.set (off + len) v) e lo hi') ?_ trivial, by rw [SS.n_set]; exact Nat.le_refl _, fun _ _ => rfl⟩, by rw [SS.n_set]; exact hx, hh⟩
                    · simp only [SV.den]
                      refine run_append_room hu hu2 hi (hl w ⟨rfl, rfl, rfl, rfl⟩) hroom (hf w ⟨rfl, rfl, rfl, rfl⟩) (fun a ha => ?_) (fun hn => by cases hn)
                      simp only [Option.some.injEq] at ha
                      subst ha
                      rw [add_plain, hsz1, Nat.mul_one]
                      exact r1
                    · simp only [SObj.At, r2, Nat.add_zero, setMany]
                      simp [List.map_set]
                  · obtain ⟨hb, hm, hle, hh⟩ := g2 (by simpa using hroom)
                    split at hh
                    · rename_i hkz
                      have hz := kindOf_spec hkz
                      have hold' : ∀ w', Like w w' → (Builtin.firstCells inf.size len (.slice (some ⟨β id, off, none⟩) len cap)).run Γ.P w' = .ok (((l.drop off).take len).map (Value.int k)).toArray w' := by
                        intro w' hw
                        have hsl := hs.like hw
                        have := run_loadCells_list (P := Γ.P) w' ⟨β id, off, none⟩ (((l.drop off).take len).map (Value.int k)) (fun j v hv => by
                          rw [add_plain]
                          have hjlt := (List.getElem?_eq_some_iff.1 hv).1
                          simp only [List.length_map, List.length_take, List.length_drop] at hjlt
                          rw [hsl.icell ho (show off + j < l.length by omega)]
                          simp only [List.getElem?_map, List.getElem?_take_of_lt (show j < len by omega), List.getElem?_drop] at hv
                          rw [List.getElem?_eq_getElem (show off + j < l.length by omega)] at hv
                          simp only [Option.map_some, Option.some.injEq] at hv
                          rw [← hv]
                          simp [List.getD, show off + j < l.length by omega])
                        have e1 : (((l.drop off).take len).map (Value.int k)).length = len := by simp; omega
                        rw [e1] at this
                        simpa [Builtin.firstCells, hsz1] using this
                      obtain ⟨w', l1, l2⟩ := run_append_grow (ty := ty) (base := some ⟨β id, off, none⟩) (cap := cap) hu hu2 hi hl hroom hm hb hf hold' hz
                      have hh := hh (w.tape w.drawn (.appendCap (len + 1) cap elem))
                      generalize hc : (Question.appendCap (len + 1) cap elem).cut (w.tape w.drawn (.appendCap (len + 1) cap elem)) = c at l2 hh
                      have hs' := hs.like l1
                      have hszw : w'.heap.size = w.heap.size := by rw [l1.heap]
                      refine ⟨_, _, upd β s.n w'.heap.size, _, ?_, ⟨hs'.alloc (o := .ints k ((l.drop off).take len ++ v :: List.replicate (c - (len + 1)) 0) elem 0 0) (ob := .cells (((l.drop off).take len).map (Value.int k) ++ denL β [.int k v lit] ++ (List.replicate (c - (len + 1)) (Value.int k 0).cells.toList).flatten).toArray elem) ?_ trivial, ?_, fun i hi => upd_lt hi⟩, ?_, hh⟩
                      rotate_left
                      · simp [SObj.At, denL, SV.den, Value.cells]
                      · rw [SS.n_new]; exact Nat.le_succ _
                      · rw [SS.n_new]; exact Nat.lt_succ_self _
                      · simp only [SV.den, upd_at, hszw]
                        exact l2
                    · exact hh.elim
                · exact f3.elim
              · exact f3.elim
            · rename_i l tot e lo hi' ho
              split at f3
              · rename_i nv hnv
                obtain ⟨c1, c2⟩ := closedL_spec hnv β
                split at f3
                · exact f3.elim
                · rename_i hzok
                  obtain ⟨i', z, hi2, hz, hzs⟩ := zeroOk_spec (by simpa using hzok)
                  rw [hi] at hi2
                  simp only [Option.some.injEq] at hi2
                  subst hi2
                  rw [← c1] at f3
                  have := appendVals_sound (t := t) (t2 := t2) (ty := ty) (y := y.den β) f3 hs ho hu hu2 hi hz hzs hl hf (by rw [denL_length]; exact f1) (fun v hv => by
                    rw [denL_map] at hv
                    obtain ⟨u, hu', rfl⟩ := List.mem_map.1 hv
                    exact SV.isOne_den (List.all_eq_true.1 hone u hu') β) hx
                  simpa only [SV.den] using this
              · exact f3.elim
            · exact f3.elim
          · rename_i len cap _
            split at f3
            · rename_i hlc
              obtain ⟨rfl, rfl⟩ := hlc
              split at f3
              · rename_i hn
                subst hn
                refine ⟨_, _, β, w, ?_, Ext.refl hs, hx, f3⟩
                simp only [SV.den]
                exact run_append_room hu hu2 hi (hl w ⟨rfl, rfl, rfl, rfl⟩) (Nat.le_refl _) (hf w ⟨rfl, rfl, rfl, rfl⟩) (fun a ha => by cases ha) (fun _ => rfl)
              · rename_i hn
                split at f3
                · exact f3.elim
                · rename_i hzok
                  obtain ⟨hb, hm, hh⟩ := f3
                  obtain ⟨i', z, hi2, hz, hzs⟩ := zeroOk_spec (by simpa using hzok)
                  rw [hi] at hi2
                  simp only [Option.some.injEq] at hi2
                  subst hi2
                  have hold' : ∀ w', Like w w' → (Builtin.firstCells inf.size 0 (.slice none 0 0)).run Γ.P w' = .ok ([] : List Value).toArray w' := by
                    intro w' hw
                    simp [Builtin.firstCells]
                  obtain ⟨w', l1, l2⟩ := run_append_grow (ty := ty) (base := none) (len := 0) (cap := 0) hu hu2 hi hl (by omega) (by simpa using hm) (by simpa using hb) hf hold' hz
                  have hh := hh (w.tape w.drawn (.appendCap n 0 elem))
                  rw [Nat.zero_add] at l2
                  generalize hc : (Question.appendCap n 0 elem).cut (w.tape w.drawn (.appendCap n 0 elem)) = c at l2 hh
                  have hcle : n ≤ c := by rw [← hc]; simp only [Question.cut]; exact Nat.le_add_right _ _
                  have hs' := hs.like l1
                  have hszw : w'.heap.size = w.heap.size := by rw [l1.heap]
                  refine ⟨_, _, upd β s.n w'.heap.size, _, ?_, ⟨hs'.alloc (o := .cells new (c * inf.size) elem 0 0) (ob := .cells ([] ++ denL β new ++ (List.replicate (c - n) z.cells.toList).flatten).toArray elem) ?_ (okL_mono (Nat.le_succ _) _ f2), ?_, fun i hi => upd_lt hi⟩, ?_, hh⟩
                  rotate_left
                  · refine ⟨(List.replicate (c - n) z.cells.toList).flatten, ?_, ?_⟩
                    · rw [denL_agree (fun i hi => upd_lt hi) _ f2]
                      simp
                    · simp [List.length_flatten, hzs, f1]
                      rw [← Nat.add_mul]
                      congr 1
                      omega
                  · rw [SS.n_new]; exact Nat.le_succ _
                  · rw [SS.n_new]; exact Nat.lt_succ_self _
                  · simp only [SV.den, upd_at, hszw]
                    exact l2
            · exact f3.elim
          · exact f3.elim
        · exact f3.elim
      · rename_i inf hi _
        split at h
        · rename_i A n c _
          have := appendExt_sound (ty := ty) (t := t) (t2 := t2) (c := c) h hs hx hu hu2 hi
          simpa only [denL, SV.den] using this
        · exact h.elim
      · exact h.elim
    · exact h.elim
  · exact h.elim

end Go.Rx
end

section
/- The operations' laws: copy, methods; then one operation, a region, code, a whole call. -/
set_option linter.unusedVariables false
set_option linter.unusedSimpArgs false
namespace Go.Rx

variable {Γ : Ctx} {β : Nat → Nat} {s : SS} {w : World}

theorem xCopy_sound {ty : TypeId} {ts : List TypeId} {x y : SV} {rest : List SV} {K : SV → SS → T} (h : (xCopy Γ.P ts x y s K).holds Γ) (hs : St Γ β s w) :
    Good Γ β s ((Builtin.copy_ ts.toArray ty (denL β (x :: y :: rest)).toArray).run Γ.P w) K := by
  unfold xCopy at h
  split at h
  · rename_i t more
    split at h
    · rename_i elem hu
      split at h
      · rename_i inf id off len cap lc m lm hi hlen
        have hl : (Builtin.lenOf (y.den β)).run Γ.P w = .ok m w := lenS_run hlen
        have key : ∀ n, Nat.min m len = n → (copyGo s id off inf.size n y K).holds Γ →
            Good Γ β s ((Builtin.copy_ (t :: more).toArray ty (denL β (SV.slc id off len cap true lc :: y :: rest)).toArray).run Γ.P w) K := by
          intro n hn hh
          unfold copyGo at hh
          obtain ⟨new, f1, f2, f3, f4, f5⟩ := xFirst_sound hh hs
          have hf := f4 inf.size n rfl w ⟨rfl, rfl, rfl, rfl⟩
          split at f3
          · rename_i hone
            split at f3
            · rename_i cs tot e lo hi' ho
              split at f3
              · rename_i cs' hp
                split at f3
                · rename_i hfz
                  obtain ⟨w', r1, r2⟩ := put_cells hs ho hp hfz hone f2
                  refine ⟨_, _, β, w', ?_, ⟨r2, by rw [SS.n_set]; exact Nat.le_refl _, fun _ _ => rfl⟩, by trivial, f3⟩
                  simp only [Builtin.copy_, denL, SV.den, List.getElem?_toArray, List.getElem?_cons_zero, List.getElem?_cons_succ, Sem.run_bind, run_underlying' hu, Result.andThen_ok, Sem.run_pure, hl, hn, run_sizeOf hi, hf, r1, goInt]
                · exact f3.elim
              · exact f3.elim
            · exact f3.elim
          · exact f3.elim
        split at h
        · exact key _ rfl h
        · obtain ⟨hle, h⟩ := h
          exact key _ (Nat.min_eq_right hle) h
      · exact h.elim
    · exact h.elim
  · exact h.elim

/-! ### Methods -/

def SPlace.den (β : Nat → Nat) : SPlace → Place
  | .val v => .val (v.den β)
  | .var id off => .var ⟨β id, off, none⟩

def SPlace.ok (n : Nat) : SPlace → Prop
  | .val v => v.ok n
  | .var id _ => id < n

theorem xGet_sound {t : TypeId} {x : SPlace} {K : SV → T} (h : (xGet Γ.P t x s K).holds Γ) (hs : St Γ β s w) (hx : x.ok s.n) :
    Same Γ β s w (((x.den β).get t).run Γ.P w) K := by
  cases x with
  | val v => exact ⟨v, rfl, hx, h⟩
  | var id off => exact xLoad_var h hs

theorem xFollow_sound : ∀ (path : List FieldStep) (t : TypeId) (x : SPlace) (K : TypeId → SPlace → T), (xFollow Γ.P path t x s K).holds Γ → St Γ β s w → x.ok s.n →
    ∃ xt x', (follow path t (x.den β)).run Γ.P w = .ok (xt, x'.den β) w ∧ x'.ok s.n ∧ (K xt x').holds Γ
  | [], t, x, K, h, hs, hx => ⟨t, x, rfl, hx, h⟩
  | st :: rest, t, x, K, h, hs, hx => by
    unfold xFollow at h
    split at h
    · rename_i fields hu
      split at h
      · rename_i f hf
        split at h
        · rename_i fi hfi
          split at h
          · exact h.elim
          · rename_i h0
            split at h
            · rename_i hd
              obtain ⟨v, g1, g2, g3⟩ := xGet_sound h hs hx
              dsimp only at g3
              split at g3
              · rename_i id off
                obtain ⟨xt, x', r1, r2, r3⟩ := xFollow_sound rest f.type (.var id (off + f.offset)) K g3 hs g2
                refine ⟨xt, x', ?_, r2, r3⟩
                simp only [follow, Sem.run_bind, run_underlying' hu, Result.andThen_ok, hf, hd, if_true, g1, SV.den, asAddr, Sem.run_pure, run_fieldPlace hfi h0]
                exact r1
              · exact g3.elim
            · rename_i hd
              have hd' : st.deref = false := by simpa using hd
              split at h
              · rename_i id off
                obtain ⟨xt, x', r1, r2, r3⟩ := xFollow_sound rest f.type (.var id (off + f.offset)) K h hs hx
                refine ⟨xt, x', ?_, r2, r3⟩
                simp only [follow, Sem.run_bind, run_underlying' hu, Result.andThen_ok, hf, hd', Bool.false_eq_true, if_false, SPlace.den, run_fieldPlace hfi h0]
                exact r1
              · rename_i cs
                split at h
                · rename_i v hv
                  obtain ⟨p1, p2⟩ := partS_run (β := β) (w := w) hv
                  obtain ⟨xt, x', r1, r2, r3⟩ := xFollow_sound rest f.type (.val v) K h hs (p2 _ hx)
                  refine ⟨xt, x', ?_, r2, r3⟩
                  simp only [follow, Sem.run_bind, run_underlying' hu, Result.andThen_ok, hf, hd', Bool.false_eq_true, if_false, SPlace.den, SV.den, p1]
                  exact r1
                · exact h.elim
              · exact h.elim
        · exact h.elim
      · exact h.elim
    · exact h.elim

theorem run_wrapNil {P : Program} {xt : TypeId} {a : Addr} {u v : String} : (Builtin.ssaWrapNilChk_ #[xt] xt #[.pointer (some a), strVal u, strVal v]).run P w = .ok (.pointer (some a)) w := rfl

theorem xRecv_sound {xt : TypeId} {x : SPlace} {pr : Bool} {K : SV → T} (h : (xRecv Γ.P xt x pr s K).holds Γ) (hs : St Γ β s w) (hx : x.ok s.n) (wrapper : Option String) :
    Same Γ β s w ((receiverAt xt (x.den β) pr wrapper).run Γ.P w) K := by
  unfold xRecv at h
  split at h
  · rename_i elem hu
    split at h
    · rename_i hp
      subst hp
      obtain ⟨v, g1, g2, g3⟩ := xGet_sound h hs hx
      refine ⟨v, ?_, g2, g3⟩
      simp only [receiverAt, Sem.run_bind, run_underlying' hu, Result.andThen_ok]
      exact g1
    · rename_i hp
      have hp' : pr = false := by simpa using hp
      subst hp'
      obtain ⟨v, g1, g2, g3⟩ := xGet_sound h hs hx
      dsimp only at g3
      split at g3
      · rename_i id off
        obtain ⟨v', l1, l2, l3⟩ := xLoad_var g3 hs
        refine ⟨v', ?_, l2, l3⟩
        cases wrapper with
        | none =>
          simp only [receiverAt, Sem.run_bind, run_underlying' hu, Result.andThen_ok, g1, SV.den, Sem.run_pure, asAddr]
          exact l1
        | some nm =>
          simp only [receiverAt, Sem.run_bind, run_underlying' hu, Result.andThen_ok, g1, SV.den, run_wrapNil, asAddr, Sem.run_pure]
          exact l1
      · rename_i a
        obtain ⟨v', l1, l2, l3⟩ := xExt_sound (t := elem) (a := a) (K := K) g3 hs
        refine ⟨v', ?_, l2, l3⟩
        cases wrapper with
        | none =>
          simp only [receiverAt, Sem.run_bind, run_underlying' hu, Result.andThen_ok, g1, SV.den, Sem.run_pure, asAddr]
          exact l1
        | some nm =>
          simp only [receiverAt, Sem.run_bind, run_underlying' hu, Result.andThen_ok, g1, SV.den, run_wrapNil, asAddr, Sem.run_pure]
          exact l1
      · exact g3.elim
  · rename_i d hd hu
    split at h
    · rename_i hp
      subst hp
      split at h
      · rename_i id off
        refine ⟨.ptr id off, ?_, hx, h⟩
        simp only [receiverAt, Sem.run_bind, run_underlying' hu, Result.andThen_ok, SPlace.den]
        cases d <;> first | exact (hd _ rfl).elim | rfl
      · exact h.elim
    · rename_i hp
      have hp' : pr = false := by simpa using hp
      subst hp'
      obtain ⟨v, g1, g2, g3⟩ := xGet_sound h hs hx
      refine ⟨v, ?_, g2, g3⟩
      simp only [receiverAt, Sem.run_bind, run_underlying' hu, Result.andThen_ok]
      cases d <;> first | exact (hd _ rfl).elim | exact g1
  · exact h.elim

theorem xMethod_sound {t : TypeId} {v : SV} {name : String} {K : FuncId → SV → T} (h : (xMethod Γ.P t v name s K).holds Γ) (hs : St Γ β s w) (hv : v.ok s.n) (fuel : Nat) :
    ∃ f r, (method (fuel + 1) t (v.den β) name).run Γ.P w = .ok (f, r.den β) w ∧ r.ok s.n ∧ (K f r).holds Γ := by
  unfold xMethod at h
  split at h
  · rename_i i hi
    split at h
    · rename_i m hm
      split at h
      · rename_i f pr hf
        obtain ⟨xt, x', r1, r2, r3⟩ := xFollow_sound m.path.toList t (.val v) _ h hs hv
        obtain ⟨r, g1, g2, g3⟩ := xRecv_sound r3 hs r2 (if m.path.isEmpty then some ((name.splitOn ".").getLastD name) else none)
        refine ⟨f, r, ?_, g2, g3⟩
        have r1' : (follow m.path.toList t (.val (v.den β))).run Γ.P w = .ok (xt, x'.den β) w := r1
        simp only [method, Sem.run_bind, run_typeInfo hi, Result.andThen_ok, hm, r1', hf, g1, Sem.run_pure]
      · exact h.elim
    · exact h.elim
  · exact h.elim

theorem aheadOk_spec {t : TypeId} {v : SV} {name : String} (h : aheadOk Γ.P t v name = true) (fuel : Nat) :
    (nilAhead (fuel + 1) t (v.den β) name).run Γ.P w = .ok (some false) w := by
  unfold aheadOk at h
  split at h
  · rename_i i hi
    split at h
    · rename_i m hm
      split at h
      · rename_i hp
        have hp' : m.path.toList = [] := by simpa using hp
        split at h
        · rename_i f hf
          simp only [nilAhead, Sem.run_bind, run_typeInfo hi, Result.andThen_ok, hm, hp', followBlind, Sem.run_pure, hf]
        · rename_i f hf
          split at h
          · rename_i e hu
            split at h
            · simp only [nilAhead, Sem.run_bind, run_typeInfo hi, Result.andThen_ok, hm, hp', followBlind, Sem.run_pure, hf, run_underlying' hu, SV.den]
            · cases h
          · rename_i d hd hu
            simp only [nilAhead, Sem.run_bind, run_typeInfo hi, Result.andThen_ok, hm, hp', followBlind, Sem.run_pure, hf, run_underlying' hu]
            cases d <;> first | exact (hd _ rfl).elim | rfl
          · cases h
        · cases h
      · cases h
    · cases h
  · cases h

theorem xNilCheck_sound {x : SV} {o : Oper} {K : SV → T} (h : (xNilCheck Γ.P x K).holds Γ) (hx : x.ok s.n) (y : Operand) (ρ : Operand → Value) (hop : o.op = .nilCheck y) (hρ : ρ y = x.den β) :
    ∃ v, (execOp ρ o).run Γ.P w = .ok (.value (v.den β)) w ∧ v.ok s.n ∧ (K v).holds Γ := by
  unfold xNilCheck at h
  split at h
  · exact ⟨_, by simp [execOp, hop, hρ, SV.den], hx, h⟩
  · exact ⟨_, by simp [execOp, hop, hρ, SV.den], hx, h⟩
  · exact ⟨_, by simp [execOp, hop, hρ, SV.den], hx, h⟩
  · rename_i name first cap
    split at h
    · rename_i t v more
      split at h
      · rename_i ha
        refine ⟨_, ?_, hx, h⟩
        have hn := aheadOk_spec (Γ := Γ) (β := β) (w := w) ha (Γ.P.types.size + (Made.depth - 1))
        have e1 : Γ.P.types.size + (Made.depth - 1) + 1 = Γ.P.types.size + Made.depth := by
          have : 0 < Made.depth := by decide
          omega
        rw [e1] at hn
        simp only [execOp, hop, hρ, SV.den, denL, List.getElem?_toArray, List.getElem?_cons_zero, Sem.run_bind, run_program, Result.andThen_ok, hn]
        simp
      · exact h.elim
    · exact h.elim
  · exact ⟨_, by simp [execOp, hop, hρ, SV.den], hx, h⟩
  · exact ⟨_, by simp [execOp, hop, hρ, SV.den], hx, h⟩
  · exact ⟨_, by simp [execOp, hop, hρ, SV.den], hx, h⟩
  · exact h.elim

/-! ### Operands -/

theorem ev_sound {a : List SV} {x : Operand} {v : SV} (h : ev s a x = some v) (hs : St Γ β s w) (ha : okL s.n a) : (actS β a).eval x = v.den β ∧ v.ok s.n := by
  cases x with
  | tmp t =>
    simp only [ev, Option.some.injEq] at h
    subst h
    simp only [Act.eval, actS, List.getD_eq_getElem?_getD]
    cases ht : a[t]? with
    | none => simp [denL_get, ht, undefS, SV.den, denL, undef, SV.ok, okL]
    | some v => simp [denL_get, ht, okL_get ha ht]
  | const c => exact ⟨(SV.ofValue_den h β).symm, SV.ofValue_ok h _⟩
  | global g =>
    simp only [ev] at h
    split at h
    · rename_i id hid
      simp only [Option.some.injEq] at h
      subst h
      have hm : (g, id) ∈ s.gl := by
        have := List.lookup_eq_some_iff.1 hid
        obtain ⟨l1, l2, hl, _⟩ := this
        rw [hl]; simp
      obtain ⟨h1, h2⟩ := hs.gl _ hm
      exact ⟨by simp only [Act.eval, SV.den]; rw [h2], h1⟩
    · simp only [Option.some.injEq] at h
      subst h
      exact ⟨rfl, trivial⟩
  | func f =>
    simp only [ev, Option.some.injEq] at h
    subst h
    exact ⟨by simp [Act.eval, SV.den, denL], trivial, trivial⟩

theorem evL_sound {a : List SV} : ∀ (xs : List Operand) (vs : List SV), evL s a xs = some vs → St Γ β s w → okL s.n a → xs.map (actS β a).eval = denL β vs ∧ okL s.n vs
  | [], vs, h, _, _ => by simp [evL] at h; subst h; exact ⟨rfl, trivial⟩
  | x :: xs, vs, h, hs, ha => by
    simp only [evL] at h
    split at h
    · rename_i v vs' hv hvs
      simp only [Option.some.injEq] at h
      subst h
      obtain ⟨h1, h2⟩ := ev_sound hv hs ha
      obtain ⟨h3, h4⟩ := evL_sound xs vs' hvs hs ha
      exact ⟨by simp only [List.map_cons, denL, h1, h3], h2, h4⟩
    · cases h

theorem evP_sound {a : List SV} : ∀ (xs : List (Nat × Operand)) (vs : List (Nat × SV)), evP s a xs = some vs → St Γ β s w → okL s.n a →
    xs.map (fun p => (p.1, (actS β a).eval p.2)) = vs.map (fun p => (p.1, p.2.den β)) ∧ ∀ p ∈ vs, p.2.ok s.n
  | [], vs, h, _, _ => by simp [evP] at h; subst h; simp
  | (i, x) :: xs, vs, h, hs, ha => by
    simp only [evP] at h
    split at h
    · rename_i v vs' hv hvs
      simp only [Option.some.injEq] at h
      subst h
      obtain ⟨h1, h2⟩ := ev_sound hv hs ha
      obtain ⟨h3, h4⟩ := evP_sound xs vs' hvs hs ha
      refine ⟨by simp only [List.map_cons, h1, h3], fun p hp => ?_⟩
      rcases List.mem_cons.1 hp with rfl | hp
      · exact h2
      · exact h4 p hp
    · cases h

theorem evO_sound {a : List SV} {x : Option Operand} {v : Option SV} (h : evO s a x = some v) (hs : St Γ β s w) (ha : okL s.n a) : x.map (actS β a).eval = v.map (SV.den β) := by
  cases x with
  | none => simp [evO] at h; subst h; rfl
  | some x =>
    simp only [evO] at h
    cases hx : ev s a x with
    | none => rw [hx] at h; cases h
    | some y =>
      rw [hx] at h
      simp only [Option.map_some, Option.some.injEq] at h
      subst h
      simp [(ev_sound hx hs ha).1]

theorem with1_sound {a : List SV} {x : Operand} {K : SV → T} (h : (with1 s a x K).holds Γ) (hs : St Γ β s w) (ha : okL s.n a) : ∃ v, (actS β a).eval x = v.den β ∧ v.ok s.n ∧ (K v).holds Γ := by
  unfold with1 at h
  split at h
  · rename_i v hv
    obtain ⟨h1, h2⟩ := ev_sound hv hs ha
    exact ⟨v, h1, h2, h⟩
  · exact h.elim

theorem with2_sound {a : List SV} {x y : Operand} {K : SV → SV → T} (h : (with2 s a x y K).holds Γ) (hs : St Γ β s w) (ha : okL s.n a) :
    ∃ u v, (actS β a).eval x = u.den β ∧ (actS β a).eval y = v.den β ∧ u.ok s.n ∧ v.ok s.n ∧ (K u v).holds Γ := by
  obtain ⟨u, h1, h2, h⟩ := with1_sound h hs ha
  obtain ⟨v, h3, h4, h⟩ := with1_sound h hs ha
  exact ⟨u, v, h1, h3, h2, h4, h⟩

end Go.Rx
end

section
/- One operation, a region, code, a whole call: the executor is sound. -/
set_option linter.unusedVariables false
set_option linter.unusedSimpArgs false
namespace Go.Rx

variable {Γ : Ctx} {β : Nat → Nat} {s : SS} {w : World}

def CallSound (Γ : Ctx) (call : XCall) : Prop := ∀ f args s K β w, (call f args s K).holds Γ → St Γ β s w → okL s.n args →
  Calls Γ.P f (denL β args).toArray w fun e w' => ∃ v s' β', e = .returned (v.den β') ∧ Ext Γ β s β' s' w' ∧ v.ok s'.n ∧ (K v s').holds Γ

theorem actS_put {a : List SV} {β' : Nat → Nat} {s' : SS} {w' : World} (he : Ext Γ β s β' s' w') (ha : okL s.n a) (dst : Option Nat) (v : SV) :
    (actS β a).put dst (v.den β') = actS β' (putS a dst v) := by
  have e1 : denL β' a = denL β a := denL_agree he.agree a ha
  cases dst with
  | none => simp only [Act.put, putS, actS, e1]
  | some d =>
    simp only [Act.put, putS, actS, denL_set, e1]
    congr 1
    simp

theorem putS_ok {a : List SV} {n : Nat} (ha : okL n a) {v : SV} (hv : v.ok n) (dst : Option Nat) : okL n (putS a dst v) := by
  cases dst with
  | none => exact ha
  | some d => exact okL_set ha hv d

theorem putS_length (a : List SV) (dst : Option Nat) (v : SV) : (putS a dst v).length = a.length := by
  cases dst <;> simp [putS]

theorem wp_good {o : Oper} {a : List SV} {x : Sem Value} {K : SV → SS → T} {next : Act → World → Prop} {Q : Exit → Act → World → Prop}
    (he : execOp (actS β a).eval o = (do pure (Next.value (← x)))) (hg : Good Γ β s (x.run Γ.P w) K)
    (hnext : ∀ v s' β' w', Ext Γ β s β' s' w' → v.ok s'.n → (K v s').holds Γ → next ((actS β a).put o.dst (v.den β')) w') : o.wp Γ.P (actS β a) w next Q := by
  obtain ⟨v, s', β', w', h1, h2, h3, h4⟩ := hg
  unfold Oper.wp
  rw [he]
  simp only [Sem.run_bind, h1, Result.andThen_ok, Sem.run_pure]
  exact hnext v s' β' w' h2 h3 h4

theorem callFunc_run {f : FuncId} {args : Array Value} (h : entersOk Γ.P f = true) : (callFunc f args).run Γ.P w = .ok (.enter f args) w := by
  unfold entersOk at h
  split at h
  · rename_i fn hf
    rw [Bool.and_eq_true] at h
    have h1 : (fn.name == "runtime.NumGoroutine") = false := by
      have := h.1
      simp only [bne, Bool.not_eq_true'] at this
      exact this
    have h2 : fn.body.isNone = false := by
      cases hb : fn.body with
      | none => rw [hb] at h; simp at h
      | some b => rfl
    simp only [callFunc, Sem.run_bind, run_program, Result.andThen_ok, hf, h1, h2, Bool.false_eq_true, if_false, Sem.run_pure]
  · cases h

theorem xTarget_sound {call : XCall} (hc : CallSound Γ call) {f : Fn} {args cap : List SV} {K : SV → SS → T} (h : (xTarget Γ.P call f args cap s K).holds Γ) (hs : St Γ β s w)
    (hargs : okL s.n args) (hcap : okL s.n cap) {o : Oper} {a : List SV} {next : Act → World → Prop} {Q : Exit → Act → World → Prop}
    (he : (execOp (actS β a).eval o).run Γ.P w = (invoke (.fn f (denL β cap).toArray) (denL β args).toArray).run Γ.P w)
    (hnext : ∀ v s' β' w', Ext Γ β s β' s' w' → v.ok s'.n → (K v s').holds Γ → next ((actS β a).put o.dst (v.den β')) w') : o.wp Γ.P (actS β a) w next Q := by
  unfold xTarget at h
  split at h
  · rename_i g
    split at h
    · rename_i hen
      have h1 := hc g (args ++ cap) s K β w h hs (okL_append hargs hcap)
      unfold Oper.wp
      rw [he]
      have : (invoke (.fn (.func g) (denL β cap).toArray) (denL β args).toArray).run Γ.P w = .ok (.enter g (denL β (args ++ cap)).toArray) w := by
        simp only [invoke]
        rw [callFunc_run hen, denL_append]
        simp
      rw [this, Oper.upon_enter]
      refine h1.mono ?_
      rintro e w' ⟨v, s', β', rfl, h2, h3, h4⟩
      exact hnext v s' β' w' h2 h3 h4
    · exact h.elim
  · rename_i name
    split at h
    · rename_i t v rest
      obtain ⟨g, r, m1, m2, m3⟩ := xMethod_sound h hs hargs.1 (Γ.P.types.size + (Made.depth - 1))
      have e1 : Γ.P.types.size + (Made.depth - 1) + 1 = Γ.P.types.size + Made.depth := by
        have : 0 < Made.depth := by decide
        omega
      rw [e1] at m1
      split at m3
      · rename_i hen
        have h1 := hc g (r :: rest) s K β w m3 hs ⟨m2, hargs.2⟩
        unfold Oper.wp
        rw [he]
        have : (invoke (.fn (.method name) (denL β cap).toArray) (denL β (.ifc t v :: rest)).toArray).run Γ.P w = .ok (.enter g (denL β (r :: rest)).toArray) w := by
          simp only [invoke, denL, SV.den, List.getElem?_toArray, List.getElem?_cons_zero, callMethod, Sem.run_bind, run_program, Result.andThen_ok, m1]
          rw [callFunc_run hen]
          congr 2
          simp
        rw [this, Oper.upon_enter]
        refine h1.mono ?_
        rintro e w' ⟨v, s', β', rfl, h2, h3, h4⟩
        exact hnext v s' β' w' h2 h3 h4
      · exact m3.elim
    · exact h.elim
  · exact h.elim

theorem map_toArray_eval {xs : Array Operand} {a : List SV} {vs : List SV} (h : evL s a xs.toList = some vs) (hs : St Γ β s w) (ha : okL s.n a) : xs.map (actS β a).eval = (denL β vs).toArray := by
  obtain ⟨h1, _⟩ := evL_sound _ _ h hs ha
  apply Array.ext'
  simp [h1]

set_option maxHeartbeats 2000000 in
theorem xOp_sound {call : XCall} (hc : CallSound Γ call) {o : Oper} {a : List SV} {K : SV → SS → T} (h : (xOp Γ.P call o a s K).holds Γ) (hs : St Γ β s w) (ha : okL s.n a)
    {next : Act → World → Prop} {Q : Exit → Act → World → Prop}
    (hnext : ∀ v s' β' w', Ext Γ β s β' s' w' → v.ok s'.n → (K v s').holds Γ → next ((actS β a).put o.dst (v.den β')) w') : o.wp Γ.P (actS β a) w next Q := by
  unfold xOp at h
  split at h
  · -- move
    rename_i x hop
    obtain ⟨v, h1, h2, h3⟩ := with1_sound h hs ha
    unfold Oper.wp
    simp only [execOp, hop, Sem.run_pure, h1]
    exact hnext v s β w (Ext.refl hs) h2 h3
  · rename_i x hop
    obtain ⟨v, h1, h2, h3⟩ := with1_sound h hs ha
    unfold Oper.wp
    simp only [execOp, hop, Sem.run_pure, h1]
    exact hnext v s β w (Ext.refl hs) h2 h3
  · -- pick
    rename_i c x y hop
    obtain ⟨b, h1, h2, h3⟩ := with1_sound h hs ha
    obtain ⟨u, v, h4, h5, h6, h7, h8⟩ := with2_sound h3 hs ha
    split at h8
    · rename_i t lit
      have hrun : (execOp (actS β a).eval o).run Γ.P w = .ok (.value (if t then u.den β else v.den β)) w := by
        simp only [execOp, hop, h1, h4, h5, SV.den, asBool, Sem.run_bind, Sem.run_pure, Result.andThen_ok]
      unfold Oper.wp
      rw [hrun]
      have key : (if t = true then K u s else K v s).holds Γ := by
        split at h8
        · exact h8
        · obtain ⟨k1, k2⟩ := h8
          cases t
          · simpa using k2 rfl
          · simpa using k1 rfl
      cases t
      · exact hnext v s β w (Ext.refl hs) h7 (by simpa using key)
      · exact hnext u s β w (Ext.refl hs) h6 (by simpa using key)
    · exact h8.elim
  · -- alloc
    rename_i e hop
    exact wp_good (by simp only [execOp, hop]) (xAlloc_sound h hs) hnext
  · -- box
    rename_i e x hop
    obtain ⟨v, h1, h2, h3⟩ := with1_sound h hs ha
    refine wp_good (x := Instr.box e (v.den β)) (by simp only [execOp, hop, h1]) ?_ hnext
    rw [run_box]
    exact xNew_sound h3 hs (SV.cells_ok h2)
  · -- build
    rename_i t parts hop
    split at h
    · rename_i ps hps
      obtain ⟨p1, p2⟩ := evP_sound _ _ hps hs ha
      refine wp_good (x := Instr.build t (ps.map fun p => (p.1, p.2.den β)).toArray) ?_ (Same.good hs (xBuild_sound h p2)) hnext
      have : (parts.map fun (i, x) => (i, (actS β a).eval x)) = (ps.map fun p => (p.1, p.2.den β)).toArray := by
        apply Array.ext'
        simp only [Array.toList_map]
        exact p1
      simp only [execOp, hop, this]
    · exact h.elim
  · -- buildSlice
    rename_i t len parts hop
    split at h
    · rename_i ps hps
      obtain ⟨p1, p2⟩ := evP_sound _ _ hps hs ha
      refine wp_good (x := Instr.buildSlice t len (ps.map fun p => (p.1, p.2.den β)).toArray) ?_ (xBuildSlice_sound h hs p2) hnext
      have : (parts.map fun (i, x) => (i, (actS β a).eval x)) = (ps.map fun p => (p.1, p.2.den β)).toArray := by
        apply Array.ext'
        simp only [Array.toList_map]
        exact p1
      simp only [execOp, hop, this]
    · exact h.elim
  · -- load
    rename_i t x hop
    obtain ⟨v, h1, h2, h3⟩ := with1_sound h hs ha
    exact wp_good (x := Instr.loadAt t (v.den β)) (by simp only [execOp, hop, h1]) (Same.good hs (xLoad_sound h3 hs)) hnext
  · -- store
    rename_i t x y hop
    obtain ⟨u, v, h4, h5, h6, h7, h8⟩ := with2_sound h hs ha
    obtain ⟨s', w', r1, r2, r3⟩ := xStore_sound h8 hs h7
    unfold Oper.wp
    have hrun : (execOp (actS β a).eval o).run Γ.P w = .ok .skip w' := by
      simp only [execOp, hop, h4, h5, Sem.run_bind, r1, Result.andThen_ok, Sem.run_pure]
    rw [hrun, Oper.upon_skip]
    have := hnext undefS s' β w' r2 trivial r3
    simpa [undefS, SV.den, denL, undef] using this
  · -- nilCheck
    rename_i x hop
    obtain ⟨v, h1, h2, h3⟩ := with1_sound h hs ha
    obtain ⟨r, r1, r2, r3⟩ := xNilCheck_sound (w := w) (β := β) h3 h2 x (actS β a).eval hop h1
    unfold Oper.wp
    rw [r1]
    exact hnext r s β w (Ext.refl hs) r2 r3
  · -- binOp
    rename_i op t x y yt hop
    obtain ⟨u, v, h4, h5, h6, h7, h8⟩ := with2_sound h hs ha
    exact wp_good (x := do eqGuard op t x y (u.den β) (v.den β); binOp op t (u.den β) (v.den β)) (by simp only [execOp, hop, h4, h5]) (Same.good hs (xBin_sound h8 hs h6 h7)) hnext
  · -- unOp
    rename_i op t x hop
    obtain ⟨v, h1, h2, h3⟩ := with1_sound h hs ha
    exact wp_good (x := Op.unary op (v.den β)) (by simp only [execOp, hop, h1]) (Same.good hs (xUn_sound h3)) hnext
  · -- convert
    rename_i src dst x hop
    obtain ⟨v, h1, h2, h3⟩ := with1_sound h hs ha
    exact wp_good (x := convert src dst (v.den β)) (by simp only [execOp, hop, h1]) (xConvert_sound h3 hs) hnext
  · -- makeInterface
    rename_i t x hop
    obtain ⟨v, h1, h2, h3⟩ := with1_sound h hs ha
    split at h3
    · exact h3.elim
    · rename_i d hd hu
      refine wp_good (x := Instr.makeInterface t (v.den β)) (by simp only [execOp, hop, h1]) (Same.good hs ⟨.ifc t v, ?_, h2, h3⟩) hnext
      simp only [Instr.makeInterface, Sem.run_bind, run_underlying' hu, Result.andThen_ok, SV.den]
      cases d <;> first | exact (hd _ rfl).elim | rfl
    · exact h3.elim
  · -- makeFunc
    rename_i f first cap hop
    split at h
    · rename_i u v hu hv
      have e1 := map_toArray_eval hu hs ha
      have e2 := map_toArray_eval hv hs ha
      refine wp_good (x := Instr.makeFunc f (denL β u).toArray (denL β v).toArray) (by simp only [execOp, hop, e1, e2]) (Same.good hs ⟨.fn f u v, ?_, ⟨(evL_sound _ _ hu hs ha).2, (evL_sound _ _ hv hs ha).2⟩, h⟩) hnext
      simp [Instr.makeFunc, SV.den]
    · exact h.elim
  · -- makeSlice
    rename_i t l c hop
    obtain ⟨u, v, h4, h5, h6, h7, h8⟩ := with2_sound h hs ha
    exact wp_good (x := Instr.makeSlice t (u.den β) (v.den β)) (by simp only [execOp, hop, h4, h5]) (xMakeSlice_sound h8 hs) hnext
  · -- slice
    rename_i t x lo hi mx hop
    obtain ⟨v, h1, h2, h3⟩ := with1_sound h hs ha
    split at h3
    · rename_i l hh m hl hhh hm
      have e1 := evO_sound hl hs ha
      have e2 := evO_sound hhh hs ha
      have e3 := evO_sound hm hs ha
      exact wp_good (x := Instr.sliceAt t (v.den β) (l.map (SV.den β)) (hh.map (SV.den β)) (m.map (SV.den β))) (by simp only [execOp, hop, h1, e1, e2, e3]) (Same.good hs (xSlice_sound h3 h2)) hnext
    · exact h3.elim
  · -- fieldAddr
    rename_i t x f hop
    obtain ⟨v, h1, h2, h3⟩ := with1_sound h hs ha
    exact wp_good (x := Instr.fieldAt t (v.den β) f) (by simp only [execOp, hop, h1]) (Same.good hs (xFieldAddr_sound h3 h2)) hnext
  · -- field
    rename_i t x f hop
    obtain ⟨v, h1, h2, h3⟩ := with1_sound h hs ha
    exact wp_good (x := Instr.field t (v.den β) f) (by simp only [execOp, hop, h1]) (Same.good hs (xField_sound h3 h2)) hnext
  · -- indexAddr
    rename_i t x i hop
    obtain ⟨u, v, h4, h5, h6, h7, h8⟩ := with2_sound h hs ha
    exact wp_good (x := Instr.indexAt t (u.den β) (v.den β)) (by simp only [execOp, hop, h4, h5]) (Same.good hs (xIndexAddr_sound h8 h6)) hnext
  · -- index
    rename_i t x i hop
    obtain ⟨u, v, h4, h5, h6, h7, h8⟩ := with2_sound h hs ha
    exact wp_good (x := Instr.index t (u.den β) (v.den β)) (by simp only [execOp, hop, h4, h5]) (Same.good hs (xIndex_sound h8 h6)) hnext
  · -- typeAssert
    rename_i x xt as ok hop
    obtain ⟨v, h1, h2, h3⟩ := with1_sound h hs ha
    exact wp_good (x := Instr.typeAssert (v.den β) xt as ok) (by simp only [execOp, hop, h1]) (Same.good hs (xAssert_sound h3 h2)) hnext
  · -- extract
    rename_i x i hop
    obtain ⟨v, h1, h2, h3⟩ := with1_sound h hs ha
    split at h3
    · rename_i vs
      split at h3
      · rename_i r hr
        refine wp_good (x := Instr.extract (SV.den β (.tup vs)) i) (by simp only [execOp, hop, h1]) (Same.good hs ⟨r, ?_, okL_get h2 hr, h3⟩) hnext
        simp [Instr.extract, SV.den, denL_get, hr]
      · exact h3.elim
    · exact h3.elim
  · -- call
    rename_i c hop
    split at h
    · rename_i args hargs
      have e1 := map_toArray_eval hargs hs ha
      have okargs := (evL_sound _ _ hargs hs ha).2
      split at h
      · rename_i b hcal
        have hex : ∀ (w : World), (execOp (actS β a).eval o).run Γ.P w = (builtin b c.argTypes o.type (c.args.map fun | .const _ => true | _ => false) (denL β args).toArray).run Γ.P w := by
          intro w
          simp only [execOp, hop, resolve, hcal, e1, Sem.run_bind, Sem.run_pure, Result.andThen_ok, invoke]
          rfl
        have fin : ∀ x : Sem Value, (builtin b c.argTypes o.type (c.args.map fun | .const _ => true | _ => false) (denL β args).toArray) = (do pure (Next.value (← x))) → Good Γ β s (x.run Γ.P w) K → o.wp Γ.P (actS β a) w next Q := by
          intro x hx hg
          obtain ⟨v, s', β', w', h1, h2, h3, h4⟩ := hg
          unfold Oper.wp
          rw [hex, hx]
          simp only [Sem.run_bind, h1, Result.andThen_ok, Sem.run_pure]
          exact hnext v s' β' w' h2 h3 h4
        unfold xBuiltin at h
        split at h
        · split at h
          · rename_i t ts x xs hts
            refine fin (Builtin.len_ c.argTypes o.type (denL β (x :: xs)).toArray) (by simp only [builtin]) (Same.good hs ?_)
            have : c.argTypes = (t :: ts).toArray := by apply Array.ext'; rw [hts]
            rw [this]
            exact xLen_sound h
          · exact h.elim
        · split at h
          · rename_i t ts x xs hts
            refine fin (Builtin.cap_ c.argTypes o.type (denL β (x :: xs)).toArray) (by simp only [builtin]) (Same.good hs ?_)
            have : c.argTypes = (t :: ts).toArray := by apply Array.ext'; rw [hts]
            rw [this]
            exact xCap_sound h
          · exact h.elim
        · split at h
          · rename_i x y
            refine fin (Builtin.append_ c.argTypes o.type (denL β [x, y]).toArray) (by simp only [builtin]) ?_
            have := xAppend_sound (ty := o.type) h hs okargs.1 rfl
            simpa using this
          · exact h.elim
        · split at h
          · rename_i x y rest
            refine fin (Builtin.copy_ c.argTypes o.type (denL β (x :: y :: rest)).toArray) (by simp only [builtin]) ?_
            have := xCopy_sound (ty := o.type) (rest := rest) h hs
            simpa using this
          · exact h.elim
        · exact h.elim
      · rename_i r m hcal
        obtain ⟨v, h1, h2, h3⟩ := with1_sound h hs ha
        refine xTarget_sound hc h3 hs ⟨h2, okargs⟩ trivial ?_ hnext
        simp only [execOp, hop, resolve, hcal, e1, h1, Sem.run_bind, Sem.run_pure, Result.andThen_ok, denL]
        congr 2
        simp
      · rename_i f hcal
        obtain ⟨v, h1, h2, h3⟩ := with1_sound h hs ha
        split at h3
        · rename_i g first cap
          refine xTarget_sound hc h3 hs (okL_append h2.1 okargs) h2.2 ?_ hnext
          simp only [execOp, hop, resolve, hcal, e1, h1, SV.den, Deferred.ofValue, Sem.run_bind, Sem.run_pure, Result.andThen_ok, denL_append]
          congr 2
          simp
        · exact h3.elim
    · exact h.elim
  · exact h.elim

end Go.Rx
end

section
/- Regions, code and whole calls: the executor is sound. -/
set_option linter.unusedVariables false
set_option linter.unusedSimpArgs false
namespace Go.Rx

variable {Γ : Ctx} {β : Nat → Nat} {s : SS} {w : World}

/-- What is owed behind a region. -/
def PostN (Γ : Ctx) (β : Nat → Nat) (s : SS) (n : Nat) (K : List SV → SS → T) (e : Exit) (a' : Act) (w' : World) : Prop :=
  e = .normal ∧ ∃ vs s' β', a' = actS β' vs ∧ Ext Γ β s β' s' w' ∧ okL s'.n vs ∧ vs.length = n ∧ (K vs s').holds Γ

theorem wantedS_spec {ops : Array Oper} {a : List SV} {o : Oper} {b lit : Bool} (h : wantedS ops a o = some (b, lit)) : Region.wanted o (yielded ops (actS β a).tmps) = b := by
  unfold wantedS at h
  unfold Region.wanted
  split at h
  · rename_i hg
    simp only [Option.some.injEq, Prod.mk.injEq] at h
    rw [hg]; exact h.1
  · rename_i j want hg
    rw [hg]
    simp only [yielded, actS]
    split at h
    · rename_i hd
      simp only [Option.some.injEq, Prod.mk.injEq] at h
      simp only [hd, Option.bind_none]
      rw [← h.1]
      simp
    · rename_i d hd
      simp only [hd, Option.bind_some, List.getElem?_toArray, denL_get]
      split at h
      · rename_i t lit' ht
        simp only [Option.some.injEq, Prod.mk.injEq] at h
        simp only [ht, Option.map_some, SV.den]
        rw [← h.1]
        rfl
      · rename_i vs ht
        simp only [Option.some.injEq, Prod.mk.injEq] at h
        simp only [ht, Option.map_some, SV.den]
        rw [← h.1]
        simp
      · cases h

theorem wantS_sure {ops : Array Oper} {a : List SV} {o : Oper} {b : Bool} (h : wantS ops a o = .sure b) : wantedS ops a o = some (b, true) := by
  unfold wantS at h
  unfold wantedS
  cases hg : o.guard with
  | none => rw [hg] at h; cases h; rfl
  | some gw =>
    obtain ⟨j, want⟩ := gw
    rw [hg] at h
    dsimp only at h ⊢
    cases hd : (ops[j]?).bind (fun x => x.dst) with
    | none => rw [hd] at h; cases h; rfl
    | some d =>
      rw [hd] at h
      dsimp only at h ⊢
      split at h
      · rename_i t lit ht
        split at h
        · rename_i hl
          cases h
          rw [hl]
        · cases h
      · rename_i vs ht
        cases h
        rfl
      · cases h

theorem wantS_ask {ops : Array Oper} {a : List SV} {o : Oper} {d : Nat} {b want : Bool} (h : wantS ops a o = .ask d b want) :
    wantedS ops a o = some (b == want, false) ∧ a[d]? = some (.bool b false) := by
  unfold wantS at h
  unfold wantedS
  cases hg : o.guard with
  | none => rw [hg] at h; cases h
  | some gw =>
    obtain ⟨j, want'⟩ := gw
    rw [hg] at h
    dsimp only at h ⊢
    cases hd : (ops[j]?).bind (fun x => x.dst) with
    | none => rw [hd] at h; cases h
    | some d' =>
      rw [hd] at h
      dsimp only at h ⊢
      split at h
      · rename_i t lit ht
        split at h
        · cases h
        · rename_i hl
          have hl' : lit = false := by simpa using hl
          subst hl'
          injection h with h1 h2 h3
          subst h1; subst h2; subst h3
          exact ⟨rfl, ht⟩
      · cases h
      · cases h

theorem know_den {a : List SV} {d : Nat} {b l : Bool} (h : a[d]? = some (.bool b l)) : denL β (know a d b) = denL β a := by
  unfold know
  rw [denL_set]
  apply List.ext_getElem?
  intro i
  by_cases hi : d = i
  · subst hi
    have hlt : d < (denL β a).length := by rw [denL_length]; exact (List.getElem?_eq_some_iff.1 h).1
    rw [List.getElem?_set_self hlt, denL_get, h]
    rfl
  · rw [List.getElem?_set_ne hi]

theorem know_act {a : List SV} {d : Nat} {b l : Bool} (h : a[d]? = some (.bool b l)) : actS β (know a d b) = actS β a := by
  unfold actS
  rw [know_den h]

theorem know_ok {a : List SV} {n : Nat} (h : okL n a) (d : Nat) (b : Bool) : okL n (know a d b) := okL_set h (v := .bool b true) trivial d

theorem know_length (a : List SV) (d : Nat) (b : Bool) : (know a d b).length = a.length := by simp [know]

/-- What a guard parts. -/
theorem byWant_holds {ops : Array Oper} {a : List SV} {o : Oper} {yes no : List SV → T} (h : (byWant (wantS ops a o) a yes no).holds Γ) (n : Nat) (ha : okL n a) :
    ∃ a', actS β a' = actS β a ∧ okL n a' ∧ a'.length = a.length ∧
      ((Region.wanted o (yielded ops (actS β a).tmps) = true ∧ (yes a').holds Γ) ∨ (Region.wanted o (yielded ops (actS β a).tmps) = false ∧ (no a').holds Γ)) := by
  unfold byWant at h
  split at h
  · exact h.elim
  · rename_i hw
    exact ⟨a, rfl, ha, rfl, .inl ⟨wantedS_spec (β := β) (wantS_sure hw), h⟩⟩
  · rename_i hw
    exact ⟨a, rfl, ha, rfl, .inr ⟨wantedS_spec (β := β) (wantS_sure hw), h⟩⟩
  · rename_i d b want hw
    obtain ⟨h1, h2⟩ := wantS_ask hw
    have h3 := wantedS_spec (β := β) h1
    refine ⟨know a d b, know_act h2, know_ok ha d b, know_length a d b, ?_⟩
    split at h
    · rename_i hwt
      subst hwt
      obtain ⟨k1, k2⟩ := h
      cases b
      · exact .inr ⟨by simpa using h3, k2 rfl⟩
      · exact .inl ⟨by simpa using h3, k1 rfl⟩
    · rename_i hwt
      have hwt' : want = false := by simpa using hwt
      subst hwt'
      obtain ⟨k1, k2⟩ := h
      cases b
      · exact .inl ⟨by simpa using h3, k2 rfl⟩
      · exact .inr ⟨by simpa using h3, k1 rfl⟩

theorem put_undef {a : List SV} (hs : St Γ β s w) (ha : okL s.n a) (dst : Option Nat) : (actS β a).put dst undef = actS β (putS a dst undefS) := by
  have := actS_put (Ext.refl hs) ha dst undefS
  simpa [undefS, SV.den, denL, undef] using this

theorem PostN.ext {n : Nat} {K : List SV → SS → T} {β' : Nat → Nat} {s' : SS} {w' : World} (he : Ext Γ β s β' s' w') {e : Exit} {a' : Act} {w'' : World} (h : PostN Γ β' s' n K e a' w'') : PostN Γ β s n K e a' w'' := by
  obtain ⟨h0, vs, s2, β2, h1, h2, h3, h4, h5⟩ := h
  exact ⟨h0, vs, s2, β2, h1, he.trans h2, h3, h4, h5⟩

theorem wpList_mono {P : Program} {ops : Array Oper} {Q Q' : Exit → Act → World → Prop} (hq : ∀ e a w, Q e a w → Q' e a w) : ∀ (l : List Oper) (a : Act) (w : World), wpList P ops Q l a w → wpList P ops Q' l a w
  | [], a, w, h => hq _ _ _ h
  | o :: rest, a, w, h => by
    unfold wpList at *
    split
    · rename_i hw
      rw [if_pos hw] at h
      rcases h with h | ⟨h1, a0, w0, h2⟩
      · left
        refine Oper.wp_mono (Q := Q') (fun a w => wpList_mono hq rest a w) ?_
        unfold Oper.wp at *
        generalize (execOp a.eval o).run P w = r at *
        cases r with
        | ok n w' =>
          cases n <;> simp only [Oper.upon] at h ⊢ <;> first
            | exact h
            | exact h.elim
            | exact Calls.mono h (fun e w'' he => by
                cases e with
                | returned v => exact he
                | panicked c => exact hq _ _ _ he
                | outgrown => obtain ⟨a0, w0, h2⟩ := he; exact ⟨a0, w0, hq _ _ _ h2⟩)
        | halt x w' => cases x <;> simp only [Oper.upon] at h ⊢ <;> first | exact hq _ _ _ h | exact h.elim | exact h
      · right; exact ⟨h1, a0, w0, hq _ _ _ h2⟩
    · rename_i hw
      rw [if_neg hw] at h
      exact wpList_mono hq rest _ _ h

theorem xList_sound {call : XCall} (hc : CallSound Γ call) {ops : Array Oper} : ∀ (l : List Oper) (a : List SV) (K : List SV → SS → T) (s : SS) (β : Nat → Nat) (w : World),
    (xList Γ.P call ops l a K s).holds Γ → St Γ β s w → okL s.n a → wpList Γ.P ops (PostN Γ β s a.length K) l (actS β a) w
  | [], a, K, s, β, w, h, hs, ha => ⟨rfl, a, s, β, rfl, Ext.refl hs, ha, rfl, h⟩
  | o :: rest, a, K, s, β, w, h, hs, ha => by
    unfold xList at h
    obtain ⟨a', e1, oka, la, hcase⟩ := byWant_holds (β := β) h s.n ha
    rw [← e1]
    rw [← e1] at hcase
    rcases hcase with ⟨hw', hh⟩ | ⟨hw', hh⟩
    · unfold wpList
      rw [if_pos hw']
      left
      refine xOp_sound hc hh hs oka ?_
      intro v s' β' w' he hv hk
      rw [actS_put he oka]
      have := xList_sound hc rest (putS a' o.dst v) K s' β' w' hk he.st (putS_ok (okL_mono he.le a' oka) hv _)
      rw [putS_length, la] at this
      exact wpList_mono (fun e a w hp => PostN.ext he hp) _ _ _ this
    · unfold wpList
      rw [if_neg (by rw [hw']; simp), put_undef hs oka]
      have := xList_sound hc rest (putS a' o.dst undefS) K s β w hh hs (putS_ok oka (v := undefS) trivial _)
      rw [putS_length, la] at this
      exact this

/-! ### Regions that draw their order -/

theorem pureVal_spec {a : List SV} {o : Oper} {v : SV} (h : pureVal Γ.P s a o = some v) (hs : St Γ β s w) (ha : okL s.n a) :
    (∀ w', (execOp (actS β a).eval o).run Γ.P w' = .ok (.value (v.den β)) w') ∧ v.ok s.n := by
  unfold pureVal at h
  split at h
  · rename_i x hop
    obtain ⟨h1, h2⟩ := ev_sound h hs ha
    exact ⟨fun w' => by simp only [execOp, hop, h1, Sem.run_pure], h2⟩
  · rename_i x hop
    obtain ⟨h1, h2⟩ := ev_sound h hs ha
    exact ⟨fun w' => by simp only [execOp, hop, h1, Sem.run_pure], h2⟩
  · rename_i x hop
    split at h
    · rename_i id off hev
      simp only [Option.some.injEq] at h
      subst h
      obtain ⟨h1, h2⟩ := ev_sound hev hs ha
      exact ⟨fun w' => by simp only [execOp, hop, h1, SV.den, Sem.run_pure], h2⟩
    · cases h
  · rename_i t x f hop
    split at h
    · rename_i id off hev
      obtain ⟨h1, h2⟩ := ev_sound hev hs ha
      split at h
      · rename_i fields hu
        split at h
        · rename_i fd hfd
          split at h
          · rename_i i hi
            split at h
            · cases h
            · rename_i h0
              simp only [Option.some.injEq] at h
              subst h
              refine ⟨fun w' => ?_, h2⟩
              simp [execOp, hop, h1, SV.den, Instr.fieldAt, run_underlying' hu, hfd, Instr.sureAddr, run_fieldPlace hi h0]
          · cases h
        · cases h
      · cases h
    · cases h
  · rename_i x i hop
    split at h
    · rename_i vs hev
      obtain ⟨h1, h2⟩ := ev_sound hev hs ha
      refine ⟨fun w' => ?_, okL_get h2 h⟩
      simp [execOp, hop, h1, SV.den, Instr.extract, denL_get, h]
    · cases h
  · rename_i t x hop
    split at h
    · cases h
    · rename_i u d hd hev hu
      simp only [Option.some.injEq] at h
      subst h
      obtain ⟨h1, h2⟩ := ev_sound hev hs ha
      refine ⟨fun w' => ?_, h2⟩
      simp only [execOp, hop, h1, Instr.makeInterface, Sem.run_bind, run_underlying' hu, Result.andThen_ok, SV.den]
      cases d <;> first | exact (hd _ rfl).elim | rfl
    · cases h
  · cases h

theorem holds_foldr {l : List Nat} {f : Nat → T} {t : T} (h : (l.foldr (fun i t => T.both (f i) t) t).holds Γ) : t.holds Γ ∧ ∀ i ∈ l, (f i).holds Γ := by
  induction l with
  | nil => exact ⟨h, by simp⟩
  | cons i l ih =>
    simp only [List.foldr_cons] at h
    obtain ⟨h1, h2⟩ := h
    obtain ⟨h3, h4⟩ := ih h2
    refine ⟨h3, fun j hj => ?_⟩
    rcases List.mem_cons.1 hj with rfl | hj
    · exact h1
    · exact h4 j hj

theorem wpAny_mono {P : Program} {md : Region.Mode} {ops : Array Oper} {Q Q' : Exit → Act → World → Prop} (hq : ∀ e a w, Q e a w → Q' e a w) : ∀ (fuel : Nat) (listed : Array Bool) (a : Act) (w : World),
    wpAny P md ops Q fuel listed a w → wpAny P md ops Q' fuel listed a w := by
  have hop : ∀ (i : Nat) (K K' : Act → World → Prop), (∀ a w, K a w → K' a w) → ∀ a w, wpOp P ops Q i K a w → wpOp P ops Q' i K' a w := by
    intro i K K' hK a w h
    have h := wpOp_mono hK h
    unfold wpOp at *
    split
    · rename_i ho; simp only [ho] at h; exact h
    · rename_i o ho
      simp only [ho] at h
      split
      · rename_i hw
        rw [if_pos hw] at h
        rcases h with h | ⟨h1, a0, w0, h2⟩
        · left
          unfold Oper.wp at *
          generalize (execOp a.eval o).run P w = r at *
          cases r with
          | ok n w' =>
            cases n <;> simp only [Oper.upon] at h ⊢ <;> first
              | exact h
              | exact h.elim
              | exact Calls.mono h (fun e w'' he => by
                  cases e with
                  | returned v => exact he
                  | panicked c => exact hq _ _ _ he
                  | outgrown => obtain ⟨a0, w0, h2⟩ := he; exact ⟨a0, w0, hq _ _ _ h2⟩)
          | halt x w' => cases x <;> simp only [Oper.upon] at h ⊢ <;> first | exact hq _ _ _ h | exact h.elim | exact h
        · right; exact ⟨h1, a0, w0, hq _ _ _ h2⟩
      · rename_i hw
        rw [if_neg hw] at h
        exact h
  intro fuel
  induction fuel with
  | zero => intro listed a w h; exact ⟨h.1, hq _ _ _ h.2⟩
  | succ fuel ih =>
    intro listed a w h
    exact ⟨fun h0 => hq _ _ _ (h.1 h0), fun i hi => hop i _ _ (fun a w hk => ih _ a w hk) a w (h.2 i hi)⟩

theorem xAny_sound {call : XCall} (hc : CallSound Γ call) {ops : Array Oper} (hsel : Region.noSelect ops = true) : ∀ (n : Nat) (listed : List Bool) (a : List SV) (K : List SV → SS → T) (s : SS) (β : Nat → Nat) (w : World),
    (xAny Γ.P call ops n listed a K s).holds Γ → St Γ β s w → okL s.n a → wpAny Γ.P .any ops (PostN Γ β s a.length K) n listed.toArray (actS β a) w
  | 0, listed, a, K, s, β, w, h, hs, ha => by
    unfold xAny at h
    split at h
    · rename_i hr
      exact ⟨hr, rfl, a, s, β, rfl, Ext.refl hs, ha, rfl, h⟩
    · exact h.elim
  | n + 1, listed, a, K, s, β, w, h, hs, ha => by
    unfold xAny at h
    simp only at h
    split at h
    · rename_i hr
      exact wpAny_done hr ⟨rfl, a, s, β, rfl, Ext.refl hs, ha, rfl, h⟩ _
    · rename_i r more hr
      split at h
      · rename_i i dst v hfind
        obtain ⟨l1, i', l2, hl, hi', _⟩ := List.findSome?_eq_some_iff.1 hfind
        split at hi'
        · rename_i o ho
          split at hi'
          · rename_i hcond
            rw [Bool.and_eq_true] at hcond
            cases hp : pureVal Γ.P s a o with
            | none => rw [hp] at hi'; cases hi'
            | some v' =>
              rw [hp] at hi'
              simp only [Option.map_some, Option.some.injEq, Prod.mk.injEq] at hi'
              obtain ⟨rfl, rfl, rfl⟩ := hi'
              obtain ⟨p1, p2⟩ := pureVal_spec hp hs ha
              have hmem : i' ∈ Region.ready .any ops listed.toArray := by rw [hr, hl]; simp
              have hg : o.guard = none := by simpa using hcond.1
              refine wpAny_take (v := v'.den β) ho hsel hcond.2 (by simpa using hmem) (fun c a w hq => by cases hq.1) (.inl ⟨by simp [Region.wanted, hg], p1⟩) ?_
              rw [actS_put (Ext.refl hs) ha]
              have := xAny_sound hc hsel n (listed.set i' true) (putS a o.dst v') K s β w h hs (putS_ok ha p2 _)
              rw [putS_length] at this
              simpa using this
          · cases hi'
        · cases hi'
      · obtain ⟨h1, h2⟩ := holds_foldr h
        have hall : ∀ i ∈ r :: more, _ := fun i hi => (List.mem_cons.1 hi).elim (fun e => e ▸ h1) (fun hm => h2 i hm)
        refine wpAny_all hr (by simp) fun i hi => ?_
        have h := hall i hi
        unfold wpOp
        split at h
        · exact h.elim
        · rename_i o ho
          simp only [ho]
          obtain ⟨a', e1, oka, la, hcase⟩ := byWant_holds (β := β) h s.n ha
          rw [← e1]
          rw [← e1] at hcase
          rcases hcase with ⟨hw', hh⟩ | ⟨hw', hh⟩
          · rw [if_pos hw']
            left
            refine xOp_sound hc hh hs oka ?_
            intro v s' β' w' he hv hk
            rw [actS_put he oka]
            have := xAny_sound hc hsel n (listed.set i true) (putS a' o.dst v) K s' β' w' hk he.st (putS_ok (okL_mono he.le a' oka) hv _)
            rw [putS_length, la] at this
            have := wpAny_mono (fun e a w hp => PostN.ext he hp) _ _ _ _ this
            simpa using this
          · rw [if_neg (by rw [hw']; simp), put_undef hs oka]
            have := xAny_sound hc hsel n (listed.set i true) (putS a' o.dst undefS) K s β w hh hs (putS_ok oka (v := undefS) trivial _)
            rw [putS_length, la] at this
            simpa using this

end Go.Rx
end

section
/- Quiet regions, code and whole calls: the executor is sound. -/
set_option linter.unusedVariables false
set_option linter.unusedSimpArgs false
namespace Go.Rx

variable {Γ : Ctx} {β : Nat → Nat} {s : SS} {w : World}

theorem same_exec {o : Oper} {a : List SV} {x : Sem Value} {K : SV → T} (he : execOp (actS β a).eval o = (do pure (Next.value (← x)))) (hg : Same Γ β s w (x.run Γ.P w) K) :
    ∃ v, (execOp (actS β a).eval o).run Γ.P w = .ok (.value (v.den β)) w ∧ v.ok s.n ∧ (K v).holds Γ := by
  obtain ⟨v, h1, h2, h3⟩ := hg
  exact ⟨v, by rw [he]; simp only [Sem.run_bind, h1, Result.andThen_ok, Sem.run_pure], h2, h3⟩

set_option maxHeartbeats 2000000 in
theorem xOp_quiet {call : XCall} {o : Oper} {a : List SV} {K : SV → SS → T} (hq : quietOp o = true) (h : (xOp Γ.P call o a s K).holds Γ) (hs : St Γ β s w) (ha : okL s.n a) :
    ∃ v, (execOp (actS β a).eval o).run Γ.P w = .ok (.value (v.den β)) w ∧ v.ok s.n ∧ (K v s).holds Γ := by
  unfold xOp at h
  unfold quietOp at hq
  split at h
  · rename_i x hop
    obtain ⟨v, h1, h2, h3⟩ := with1_sound h hs ha
    exact ⟨v, by simp only [execOp, hop, Sem.run_pure, h1], h2, h3⟩
  · rename_i x hop
    obtain ⟨v, h1, h2, h3⟩ := with1_sound h hs ha
    exact ⟨v, by simp only [execOp, hop, Sem.run_pure, h1], h2, h3⟩
  · rename_i hop; simp [hop] at hq
  · rename_i hop; simp [hop] at hq
  · rename_i hop; simp [hop] at hq
  · rename_i t parts hop
    split at h
    · rename_i ps hps
      obtain ⟨p1, p2⟩ := evP_sound _ _ hps hs ha
      refine same_exec (x := Instr.build t (ps.map fun p => (p.1, p.2.den β)).toArray) ?_ (xBuild_sound h p2)
      have : (parts.map fun (i, x) => (i, (actS β a).eval x)) = (ps.map fun p => (p.1, p.2.den β)).toArray := by
        apply Array.ext'
        simp only [Array.toList_map]
        exact p1
      simp only [execOp, hop, this]
    · exact h.elim
  · rename_i hop; simp [hop] at hq
  · rename_i t x hop
    obtain ⟨v, h1, h2, h3⟩ := with1_sound h hs ha
    exact same_exec (x := Instr.loadAt t (v.den β)) (by simp only [execOp, hop, h1]) (xLoad_sound h3 hs)
  · rename_i hop; simp [hop] at hq
  · rename_i x hop
    obtain ⟨v, h1, h2, h3⟩ := with1_sound h hs ha
    exact xNilCheck_sound (w := w) (β := β) h3 h2 x (actS β a).eval hop h1
  · rename_i op t x y yt hop
    obtain ⟨u, v, h4, h5, h6, h7, h8⟩ := with2_sound h hs ha
    exact same_exec (x := do eqGuard op t x y (u.den β) (v.den β); binOp op t (u.den β) (v.den β)) (by simp only [execOp, hop, h4, h5]) (xBin_sound h8 hs h6 h7)
  · rename_i op t x hop
    obtain ⟨v, h1, h2, h3⟩ := with1_sound h hs ha
    exact same_exec (x := Op.unary op (v.den β)) (by simp only [execOp, hop, h1]) (xUn_sound h3)
  · rename_i hop; simp [hop] at hq
  · rename_i t x hop
    obtain ⟨v, h1, h2, h3⟩ := with1_sound h hs ha
    split at h3
    · exact h3.elim
    · rename_i d hd hu
      refine same_exec (x := Instr.makeInterface t (v.den β)) (by simp only [execOp, hop, h1]) ⟨.ifc t v, ?_, h2, h3⟩
      simp only [Instr.makeInterface, Sem.run_bind, run_underlying' hu, Result.andThen_ok, SV.den]
      cases d <;> first | exact (hd _ rfl).elim | rfl
    · exact h3.elim
  · rename_i f first cap hop
    split at h
    · rename_i u v hu hv
      have e1 := map_toArray_eval hu hs ha
      have e2 := map_toArray_eval hv hs ha
      refine same_exec (x := Instr.makeFunc f (denL β u).toArray (denL β v).toArray) (by simp only [execOp, hop, e1, e2]) ⟨.fn f u v, ?_, ⟨(evL_sound _ _ hu hs ha).2, (evL_sound _ _ hv hs ha).2⟩, h⟩
      simp [Instr.makeFunc, SV.den]
    · exact h.elim
  · rename_i hop; simp [hop] at hq
  · rename_i t x lo hi mx hop
    obtain ⟨v, h1, h2, h3⟩ := with1_sound h hs ha
    split at h3
    · rename_i l hh m hl hhh hm
      have e1 := evO_sound hl hs ha
      have e2 := evO_sound hhh hs ha
      have e3 := evO_sound hm hs ha
      exact same_exec (x := Instr.sliceAt t (v.den β) (l.map (SV.den β)) (hh.map (SV.den β)) (m.map (SV.den β))) (by simp only [execOp, hop, h1, e1, e2, e3]) (xSlice_sound h3 h2)
    · exact h3.elim
  · rename_i t x f hop
    obtain ⟨v, h1, h2, h3⟩ := with1_sound h hs ha
    exact same_exec (x := Instr.fieldAt t (v.den β) f) (by simp only [execOp, hop, h1]) (xFieldAddr_sound h3 h2)
  · rename_i t x f hop
    obtain ⟨v, h1, h2, h3⟩ := with1_sound h hs ha
    exact same_exec (x := Instr.field t (v.den β) f) (by simp only [execOp, hop, h1]) (xField_sound h3 h2)
  · rename_i t x i hop
    obtain ⟨u, v, h4, h5, h6, h7, h8⟩ := with2_sound h hs ha
    exact same_exec (x := Instr.indexAt t (u.den β) (v.den β)) (by simp only [execOp, hop, h4, h5]) (xIndexAddr_sound h8 h6)
  · rename_i t x i hop
    obtain ⟨u, v, h4, h5, h6, h7, h8⟩ := with2_sound h hs ha
    exact same_exec (x := Instr.index t (u.den β) (v.den β)) (by simp only [execOp, hop, h4, h5]) (xIndex_sound h8 h6)
  · rename_i x xt as ok hop
    obtain ⟨v, h1, h2, h3⟩ := with1_sound h hs ha
    exact same_exec (x := Instr.typeAssert (v.den β) xt as ok) (by simp only [execOp, hop, h1]) (xAssert_sound h3 h2)
  · rename_i x i hop
    obtain ⟨v, h1, h2, h3⟩ := with1_sound h hs ha
    split at h3
    · rename_i vs
      split at h3
      · rename_i r hr
        refine same_exec (x := Instr.extract (SV.den β (.tup vs)) i) (by simp only [execOp, hop, h1]) ⟨r, ?_, okL_get h2 hr, h3⟩
        simp [Instr.extract, SV.den, denL_get, hr]
      · exact h3.elim
    · exact h3.elim
  · rename_i c hop
    simp only [hop] at hq
    split at h
    · rename_i args hargs
      have e1 := map_toArray_eval hargs hs ha
      split at h
      · rename_i b hcal
        have hex : (execOp (actS β a).eval o).run Γ.P w = (builtin b c.argTypes o.type (c.args.map fun | .const _ => true | _ => false) (denL β args).toArray).run Γ.P w := by
          simp only [execOp, hop, resolve, hcal, e1, Sem.run_bind, Sem.run_pure, Result.andThen_ok, invoke]
          rfl
        have fin : ∀ x : Sem Value, (builtin b c.argTypes o.type (c.args.map fun | .const _ => true | _ => false) (denL β args).toArray) = (do pure (Next.value (← x))) → Same Γ β s w (x.run Γ.P w) (fun v => K v s) →
            ∃ v, (execOp (actS β a).eval o).run Γ.P w = .ok (.value (v.den β)) w ∧ v.ok s.n ∧ (K v s).holds Γ := by
          intro x hx hg
          obtain ⟨v, h1, h2, h3⟩ := hg
          refine ⟨v, ?_, h2, h3⟩
          rw [hex, hx]
          simp only [Sem.run_bind, h1, Result.andThen_ok, Sem.run_pure]
        unfold xBuiltin at h
        split at h
        · split at h
          · rename_i t ts x xs hts
            refine fin (Builtin.len_ c.argTypes o.type (denL β (x :: xs)).toArray) (by simp only [builtin]) ?_
            have : c.argTypes = (t :: ts).toArray := by apply Array.ext'; rw [hts]
            rw [this]
            exact xLen_sound h
          · exact h.elim
        · split at h
          · rename_i t ts x xs hts
            refine fin (Builtin.cap_ c.argTypes o.type (denL β (x :: xs)).toArray) (by simp only [builtin]) ?_
            have : c.argTypes = (t :: ts).toArray := by apply Array.ext'; rw [hts]
            rw [this]
            exact xCap_sound h
          · exact h.elim
        · simp [hcal] at hq
        · simp [hcal] at hq
        · exact h.elim
      · rename_i r m hcal; simp [hcal] at hq
      · rename_i f hcal; simp [hcal] at hq
    · exact h.elim
  · exact h.elim

theorem like_drew : Like w { w with drawn := w.drawn + 1 } := ⟨rfl, rfl, rfl, rfl⟩

theorem Ext.like {β' : Nat → Nat} {s' : SS} {w' w'' : World} (h : Ext Γ β s β' s' w') (hl : Like w' w'') : Ext Γ β s β' s' w'' := ⟨h.st.like hl, h.le, h.agree⟩

end Go.Rx
end

section
/- Regions in which what only reads is done early: sound for every order. -/
set_option linter.unusedVariables false
set_option linter.unusedSimpArgs false
namespace Go.Rx

variable {Γ : Ctx} {β : Nat → Nat} {s : SS} {w : World}

theorem xConvert_same {src dst : TypeId} {x : SV} {K : SV → SS → T} (hd : (∃ k, Γ.P.underlying dst = some (.int k)) ∨ Γ.P.underlying dst = some .string) (h : (xConvert Γ.P src dst x s K).holds Γ) (hs : St Γ β s w) :
    Same Γ β s w ((convert src dst (x.den β)).run Γ.P w) fun v => K v s := by
  unfold xConvert at h
  split at h
  · rename_i ds k hsrc hdst
    split at h
    · refine ⟨_, ?_, by trivial, h⟩
      cases ds <;> simp [convert, run_underlying' hsrc, run_underlying' hdst, SV.den, Conv.intToInt]
    · exact h.elim
  · rename_i ds hsrc hdst
    split at h
    · refine ⟨_, ?_, by trivial, h⟩
      cases ds <;> simp [convert, run_underlying' hsrc, run_underlying' hdst, SV.den]
    · rename_i id off len cap ll lc
      split at h
      · rename_i e
        split at h
        · rename_i he
          split at h
          · obtain ⟨vs, f1, f2, f3, f4, f5⟩ := xFirst_sound h hs
            split at f3
            · rename_i ns lit hns
              refine ⟨_, ?_, by trivial, f3⟩
              have hl := f5 1 len (by omega) w ⟨rfl, rfl, rfl, rfl⟩ (β id) off len cap rfl
              rw [intsOf_spec _ _ _ hns] at hl
              simp only [SV.den]
              rw [run_convert_bytes_string w src dst e _ _ _ hsrc he hdst]
              exact run_bytesToString w _ len cap ns hl
            · exact f3.elim
          · split at h
            · rename_i l e' lo hi ho
              obtain ⟨hle, h⟩ := h
              refine ⟨_, ?_, by trivial, h⟩
              simp only [SV.den]
              rw [run_convert_bytes_string w src dst e _ _ _ hsrc he hdst]
              refine run_bytesToString w _ len cap _ ?_
              have hx : (xFirst len (.slc id off len cap ll lc) s fun _ => T.leaf .normal [] s).holds { Γ with Q := fun _ _ _ => True } := by
                simp only [xFirst, ho]
                exact ⟨hle, fun _ _ _ _ => True.intro⟩
              obtain ⟨i1, i2, i3⟩ := intsAt_spec (β := β) .u8 l len off hle
              have := run_loadCells_list (P := Γ.P) w ⟨β id, off, none⟩ (((l.drop off).take len).map (Value.int .u8)) (fun j v hv => by
                rw [add_plain]
                have hjlt := (List.getElem?_eq_some_iff.1 hv).1
                simp only [List.length_map, List.length_take, List.length_drop] at hjlt
                rw [hs.icell ho (show off + j < l.length by omega)]
                simp only [List.getElem?_map, List.getElem?_take_of_lt (show j < len by omega), List.getElem?_drop] at hv
                rw [List.getElem?_eq_getElem (show off + j < l.length by omega)] at hv
                simp only [Option.map_some, Option.some.injEq] at hv
                rw [← hv]
                simp [List.getD, show off + j < l.length by omega])
              have e1 : (((l.drop off).take len).map (Value.int .u8)).length = len := by simp; omega
              rwa [e1] at this
            · rename_i l e' tot lo hi ho
              obtain ⟨⟨hle, hbv⟩, h⟩ := h
              refine ⟨_, ?_, by trivial, h⟩
              simp only [SV.den]
              rw [run_convert_bytes_string w src dst e _ _ _ hsrc he hdst]
              refine run_bytesToString w _ len cap _ ?_
              have := vals_load (Γ := Γ) hs ho hle
              rwa [byteVals_map hbv] at this
            · exact h.elim
        · exact h.elim
      · exact h.elim
    · rename_i A nn cc
      split at h
      · rename_i hext
        split at h
        · rename_i e
          split at h
          · rename_i he
            obtain ⟨hcb, h⟩ := h
            refine ⟨_, ?_, by trivial, h⟩
            simp only [SV.den]
            rw [run_convert_bytes_string w src dst e _ _ _ hsrc he hdst]
            exact ext_string (hs.old hext) hcb
          · exact h.elim
        · exact h.elim
      · exact h.elim
    · rename_i nn cc _
      split at h
      · rename_i e
        split at h
        · rename_i he
          refine ⟨_, ?_, by trivial, h⟩
          simp only [SV.den]
          rw [run_convert_bytes_string w src dst e _ _ _ hsrc he hdst]
          simp [Conv.bytesToString]
        · exact h.elim
      · exact h.elim
    · exact h.elim
  · rename_i ds e hsrc hdst
    rcases hd with ⟨k, hk⟩ | hk <;> (rw [hk] at hdst; cases hdst)
  · exact h.elim

theorem needs_holds : ∀ {ps : List Prop} {t : T}, (needs ps t).holds Γ → (∀ p, p ∈ ps → p) ∧ t.holds Γ
  | [], t, h => ⟨by simp, h⟩
  | p :: ps, t, h => by
    obtain ⟨h1, h2⟩ := h
    obtain ⟨h3, h4⟩ := needs_holds h2
    refine ⟨fun q hq => ?_, h4⟩
    rcases List.mem_cons.1 hq with rfl | hq
    · exact h1
    · exact h3 q hq

theorem xOp_calm {call : XCall} {o : Oper} {a : List SV} {K : SV → SS → T} (hq : calmOp Γ.P o = true) (h : (xOp Γ.P call o a s K).holds Γ) (hs : St Γ β s w) (ha : okL s.n a) :
    ∃ v, (execOp (actS β a).eval o).run Γ.P w = .ok (.value (v.den β)) w ∧ v.ok s.n ∧ (K v s).holds Γ := by
  unfold calmOp at hq
  rw [Bool.or_eq_true] at hq
  rcases hq with hq | hq
  · exact xOp_quiet hq h hs ha
  · split at hq
    · rename_i src dst x hop
      unfold xOp at h
      simp only [hop] at h
      obtain ⟨v, h1, h2, h3⟩ := with1_sound h hs ha
      have hd : (∃ k, Γ.P.underlying dst = some (.int k)) ∨ Γ.P.underlying dst = some .string := by
        split at hq
        · rename_i k hk; exact .inl ⟨k, hk⟩
        · rename_i hk; exact .inr hk
        · cases hq
      exact same_exec (x := convert src dst (v.den β)) (by simp only [execOp, hop, h1]) (xConvert_same hd h3 hs)
    · cases hq

theorem asked_holds {Γ' : Ctx} {v : SV} {n : Nat} (h0 : Γ'.n0 = n) (hv : v.ok n) (hQ : Γ'.Q = fun _ vs _ => vs = [v.den Γ'.β0]) :
    ∀ (t : T) (ps : List Prop), askedVal t = some (v, ps) → (∀ p, p ∈ ps → p) → t.holds Γ' := by
  intro t
  induction t with
  | leaf e vs s2 =>
    intro ps h hp
    match vs, h with
    | [], h => simp [askedVal] at h
    | [v'], h =>
      simp only [askedVal, Option.some.injEq, Prod.mk.injEq] at h
      obtain ⟨rfl, rfl⟩ := h
      intro β'' w'' hst _
      rw [hQ]
      simp only [denL, List.cons.injEq, and_true]
      exact SV.den_agree (fun i hi => hst.base i (by omega)) _ hv
    | _ :: _ :: _, h => simp [askedVal] at h
  | need p t ih =>
    intro ps h hp
    simp only [askedVal] at h
    split at h
    · rename_i v' ps' heq
      simp only [Option.some.injEq, Prod.mk.injEq] at h
      obtain ⟨rfl, rfl⟩ := h
      exact ⟨hp p (by simp), ih ps' heq (fun q hq => hp q (by simp [hq]))⟩
    · cases h
  | bad _ => intro ps h; simp [askedVal] at h
  | split _ _ _ _ _ => intro ps h; simp [askedVal] at h
  | choose _ _ _ => intro ps h; simp [askedVal] at h
  | both _ _ _ _ => intro ps h; simp [askedVal] at h
  | call _ _ _ _ _ _ _ => intro ps h; simp [askedVal] at h
  | loop _ _ _ _ _ _ _ _ _ _ _ => intro ps h; simp [askedVal] at h

/-- The frame in which nothing is owed but a value. -/
def oneCtx (P : Program) (β : Nat → Nat) (n : Nat) (v : Value) : Ctx := { P := P, β0 := β, n0 := n, Q := fun _ vs _ => vs = [v] }

theorem calm_at {a : List SV} {o : Oper} {v : SV} {ps : List Prop} (h : calmVal Γ.P s a o = some (v, ps)) (hp : ∀ p, p ∈ ps → p) (ha : okL s.n a)
    (hs' : St (oneCtx Γ.P β s.n (v.den β)) β s w) :
    (execOp (actS β a).eval o).run Γ.P w = .ok (.value (v.den β)) w ∧ v.ok s.n := by
  unfold calmVal at h
  split at h
  · rename_i hq
    split at h
    · rename_i v' ps' heq
      split at h
      · rename_i hok
        simp only [Option.some.injEq, Prod.mk.injEq] at h
        obtain ⟨rfl, rfl⟩ := h
        have okv := SV.okb_ok _ hok
        have hh : (xOp (oneCtx Γ.P β s.n (v'.den β)).P (fun _ _ _ _ => .bad "") o a s (fun v s' => .leaf .normal [v] s')).holds (oneCtx Γ.P β s.n (v'.den β)) :=
          asked_holds (Γ' := oneCtx Γ.P β s.n (v'.den β)) (n := s.n) rfl okv rfl _ _ heq hp
        obtain ⟨u, r1, r2, r3⟩ := xOp_calm (Γ := oneCtx Γ.P β s.n (v'.den β)) hq hh hs' ha
        have r4 : denL β [u] = [v'.den β] := r3 β w hs' ⟨r2, trivial⟩
        simp only [denL, List.cons.injEq, and_true] at r4
        exact ⟨by rw [← r4]; exact r1, okv⟩
      · cases h
    · cases h
  · cases h

theorem calmVal_spec {a : List SV} {o : Oper} {v : SV} {ps : List Prop} (h : calmVal Γ.P s a o = some (v, ps)) (hp : ∀ p, p ∈ ps → p) (hs : St Γ β s w) (ha : okL s.n a) :
    (execOp (actS β a).eval o).run Γ.P w = .ok (.value (v.den β)) w ∧ v.ok s.n :=
  calm_at h hp ha ⟨hs.lt, hs.inj, hs.at_, hs.ok, hs.gl, hs.old, fun _ _ => rfl, Nat.le_refl _⟩

theorem blank_n : s.blank.n = s.n := by simp [SS.blank, SS.n]

theorem calmVal_blank {a : List SV} {o : Oper} {v : SV} {ps : List Prop} (h : calmVal Γ.P s.blank a o = some (v, ps)) (hp : ∀ p, p ∈ ps → p) (hs : St Γ β s w) (ha : okL s.n a) :
    v.ok s.n ∧ ∀ w2 : World, (∀ i, i < s.n → β i < w2.heap.size) → (execOp (actS β a).eval o).run Γ.P w2 = .ok (.value (v.den β)) w2 := by
  have key : ∀ w2 : World, (∀ i, i < s.n → β i < w2.heap.size) → (execOp (actS β a).eval o).run Γ.P w2 = .ok (.value (v.den β)) w2 ∧ v.ok s.n := by
    intro w2 h2
    have hb := blank_n (s := s)
    have hu : ∀ (i : Nat) (ob : SObj), s.blank.objs[i]? = some ob → ob = .unk := by
      intro i ob hi
      simp only [SS.blank, List.getElem?_map, Option.map_eq_some_iff] at hi
      obtain ⟨_, _, rfl⟩ := hi
      rfl
    have := calm_at (Γ := Γ) (β := β) (w := w2) h hp (by rw [hb]; exact ha)
      ⟨by rw [hb]; exact h2, by rw [hb]; exact hs.inj, fun i ob hi => by rw [hu i ob hi]; trivial, fun i ob hi => by rw [hu i ob hi]; trivial,
        by rw [hb]; exact hs.gl, fun he => by simp [SS.blank] at he, fun _ _ => rfl, Nat.le_refl _⟩
    rw [hb] at this
    exact this
  exact ⟨(key w hs.lt).2, fun w2 h2 => (key w2 h2).1⟩

mutual
theorem sameV_spec : ∀ (v v' : SV) (ps : List Prop), sameV v v' = some ps → (∀ p, p ∈ ps → p) → v.den β = v'.den β
  | .int k n l, v', ps, h, hp => by
    cases v' <;> simp only [sameV] at h <;> try (cases h; done)
    split at h
    · rename_i hk
      subst hk
      split at h
      · split at h
        · rename_i hn; subst hn; simp [SV.den]
        · cases h
      · simp only [Option.some.injEq] at h
        subst h
        have := hp _ (List.mem_singleton.2 rfl)
        simp [SV.den, this]
    · cases h
  | .bool b l, v', ps, h, hp => by
    cases v' <;> simp only [sameV] at h <;> try (cases h; done)
    split at h
    · split at h
      · rename_i hn; subst hn; simp [SV.den]
      · cases h
    · simp only [Option.some.injEq] at h
      subst h
      have := hp _ (List.mem_singleton.2 rfl)
      simp [SV.den, this]
  | .str u l, v', ps, h, hp => by
    cases v' <;> simp only [sameV] at h <;> try (cases h; done)
    split at h
    · split at h
      · rename_i u' l' _ hn
        have : u = u' := by
          cases u with
          | mk d =>
            cases u' with
            | mk d' =>
              simp only at hn
              congr 1
              exact Array.ext' hn
        subst this
        simp [SV.den]
      · cases h
    · simp only [Option.some.injEq] at h
      subst h
      have := hp _ (List.mem_singleton.2 rfl)
      simp [SV.den, this]
  | .ptr i o, v', ps, h, hp => by
    cases v' <;> simp only [sameV] at h <;> try (cases h; done)
    split at h
    · rename_i hk
      subst hk
      simp only [Option.some.injEq] at h
      subst h
      have := hp _ (List.mem_singleton.2 rfl)
      simp [SV.den, this]
    · cases h
  | .slc i o n c _ _, v', ps, h, hp => by
    cases v' <;> simp only [sameV] at h <;> try (cases h; done)
    split at h
    · rename_i hk
      subst hk
      simp only [Option.some.injEq] at h
      subst h
      have := hp _ (List.mem_singleton.2 rfl)
      obtain ⟨rfl, rfl, rfl⟩ := this
      simp [SV.den]
    · cases h
  | .ifc t v, v', ps, h, hp => by
    cases v' <;> simp only [sameV] at h <;> try (cases h; done)
    split at h
    · rename_i hk
      subst hk
      simp only [SV.den]
      rw [sameV_spec v _ ps h hp]
    · cases h
  | .agg l, v', ps, h, hp => by
    cases v' <;> simp only [sameV] at h <;> try (cases h; done)
    simp only [SV.den]
    rw [sameL_spec l _ ps h hp]
  | .tup l, v', ps, h, hp => by
    cases v' <;> simp only [sameV] at h <;> try (cases h; done)
    simp only [SV.den]
    rw [sameL_spec l _ ps h hp]
  | .one v hv, v', ps, h, hp => by
    cases v' <;> simp only [sameV] at h <;> try (cases h; done)
    simp only [Option.some.injEq] at h
    subst h
    have := hp _ (List.mem_singleton.2 rfl)
    simp [SV.den, this]
  | .raw v, v', ps, h, hp => by
    cases v' <;> simp only [sameV] at h <;> try (cases h; done)
    simp only [Option.some.injEq] at h
    subst h
    have := hp _ (List.mem_singleton.2 rfl)
    simp [SV.den, this]
  | .xp v, v', ps, h, hp => by
    cases v' <;> simp only [sameV] at h <;> try (cases h; done)
    simp only [Option.some.injEq] at h
    subst h
    have := hp _ (List.mem_singleton.2 rfl)
    simp [SV.den, this]
  | .xs a n c, v', ps, h, hp => by
    cases v' <;> simp only [sameV] at h <;> try (cases h; done)
    simp only [Option.some.injEq] at h
    subst h
    have := hp _ (List.mem_singleton.2 rfl)
    obtain ⟨rfl, rfl, rfl⟩ := this
    simp [SV.den]
  | .fn f a c, v', ps, h, hp => by
    cases v' <;> simp only [sameV] at h <;> try (cases h; done)
    split at h
    · rename_i p q h1 h2
      simp only [Option.some.injEq] at h
      subst h
      have hf := hp _ (List.mem_cons_self ..)
      simp only [SV.den]
      rw [sameL_spec a _ p h1 (fun x hx => hp x (by simp [hx])), sameL_spec c _ q h2 (fun x hx => hp x (by simp [hx])), hf]
    · cases h
theorem sameL_spec : ∀ (l l' : List SV) (ps : List Prop), sameL l l' = some ps → (∀ p, p ∈ ps → p) → denL β l = denL β l'
  | [], l', ps, h, hp => by
    cases l' <;> simp only [sameL] at h <;> try (cases h; done)
    rfl
  | v :: l, l', ps, h, hp => by
    cases l' <;> simp only [sameL] at h <;> try (cases h; done)
    split at h
    · rename_i p q h1 h2
      simp only [Option.some.injEq] at h
      subst h
      simp only [denL]
      rw [sameV_spec v _ p h1 (fun x hx => hp x (by simp [hx])), sameL_spec l _ q h2 (fun x hx => hp x (by simp [hx]))]
    · cases h
end

end Go.Rx
end

