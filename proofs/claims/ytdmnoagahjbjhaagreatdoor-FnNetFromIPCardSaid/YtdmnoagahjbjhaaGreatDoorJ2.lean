/- Joined texts: Regions whose order does not matter: the simulation; Results, code and whole calls: the executor is sound; Tools for proofs: a call from a tree, a hooked call, a loop by an invariant, frames; Short forms for a function's proof, and what lies in memory that came in; Loops that write tracked memory; Calls that hand back new memory; Loops that append to a slice, from nil; Memory of which a part is seen; rows of cells; calls in rounds that append; Rounds that append one thing to a row: their ends; Loops that write tracked memory, in rounds of other loops; Functions that begin where blocks are tracked; calls that write tracked memory; loops that append some things. -/
import Derived.Test.YtdmnoagahjbjhaaGreatDoorJ1
import Derived.Below
import Derived.Laws.Append
section
/- Regions whose order does not matter: the simulation. -/
set_option linter.unusedVariables false
set_option linter.unusedSimpArgs false
namespace Go.Rx

variable {Γ : Ctx} {β : Nat → Nat} {s : SS} {w : World} {ops : Array Oper}

theorem ready_iff {j : Nat} {L : Array Bool} : j ∈ Region.ready .any ops L ↔ L[j]? = some false ∧ ∃ o, ops[j]? = some o ∧ ∀ e : Nat, e ∈ edgesOf o → L[e]? = some true := by
  rw [mem_ready]
  have h1 : L.getD j true = false ↔ L[j]? = some false := by
    rw [Array.getD_eq_getD_getElem?]; cases L[j]? <;> simp
  have h2 : ∀ e, L.getD e false = true ↔ L[e]? = some true := by
    intro e; rw [Array.getD_eq_getD_getElem?]; cases L[e]? <;> simp
  simp only [h1, h2]
  constructor
  · rintro ⟨h0, o, ho, h⟩
    refine ⟨h0, o, ho, fun e he => ?_⟩
    simp only [edgesOf, List.mem_map, List.mem_filter] at he
    obtain ⟨e', ⟨he1, he2⟩, rfl⟩ := he
    exact h e' (by simpa using he1) he2
  · rintro ⟨h0, o, ho, h⟩
    refine ⟨h0, o, ho, fun e he hb => h e.on ?_⟩
    simp only [edgesOf, List.mem_map, List.mem_filter]
    exact ⟨e, ⟨by simpa using he, hb⟩, rfl⟩

theorem neat_edge (hn : neat ops = true) {i e : Nat} {oi : Oper} (hi : ops[i]? = some oi) (he : e ∈ edgesOf oi) : e < i := by
  unfold neat at hn
  rw [List.all_eq_true] at hn
  have h1 := hn i (List.mem_range.2 (Array.getElem?_eq_some_iff.1 hi).1)
  simp only [hi, Bool.and_eq_true, List.all_eq_true, decide_eq_true_eq] at h1
  exact h1.1 e he

theorem neat_pair (hn : neat ops = true) {i j : Nat} {oi oj : Oper} (hi : ops[i]? = some oi) (hj : ops[j]? = some oj) : neatPair ops i oi j oj = true := by
  unfold neat at hn
  rw [List.all_eq_true] at hn
  have h1 := hn i (List.mem_range.2 (Array.getElem?_eq_some_iff.1 hi).1)
  simp only [hi, Bool.and_eq_true, List.all_eq_true] at h1
  have h2 := h1.2 j (List.mem_range.2 (Array.getElem?_eq_some_iff.1 hj).1)
  simpa only [hj] using h2

/-- Two operations write different places. -/
theorem neat_dst (hn : neat ops = true) {i j d : Nat} {oi oj : Oper} (hi : ops[i]? = some oi) (hj : ops[j]? = some oj) (hij : i ≠ j) (hd : oi.dst = some d) : oj.dst ≠ some d := by
  have h := neat_pair hn hi hj
  unfold neatPair at h
  simp only [hd, Bool.and_eq_true, Bool.or_eq_true, beq_iff_eq, hij, false_or, bne_iff_ne] at h
  exact h.1

/-- What looks at another's place waits for it. -/
theorem neat_looks (hn : neat ops = true) {i j d : Nat} {oi oj : Oper} (hi : ops[i]? = some oi) (hj : ops[j]? = some oj) (hd : oi.dst = some d) (hl : d ∈ oj.looksAt ops) : i ≠ j ∧ i ∈ edgesOf oj := by
  have h := neat_pair hn hi hj
  unfold neatPair at h
  have hc : (oj.looksAt ops).contains d = true := by simpa using hl
  simp only [hd, Bool.and_eq_true, Bool.or_eq_true, hc, Bool.not_true, Bool.false_eq_true, false_or, bne_iff_ne] at h
  exact ⟨h.2.1, by simpa using h.2.2⟩

theorem exec_agree {o : Oper} (hs : ∀ cs b, o.op ≠ .select cs b) {α α' : Act} (h : ∀ t, t ∈ o.looksAt ops → α.tmps[t]? = α'.tmps[t]?) : execOp α.eval o = execOp α'.eval o :=
  execOp_congr o hs fun x hx => by
    cases x with
    | tmp t =>
      have := h t (List.mem_append_left _ (List.mem_filterMap.2 ⟨.tmp t, by simpa using hx, rfl⟩))
      simp only [Act.eval, Array.getD_eq_getD_getElem?, this]
    | const v => rfl
    | global g => rfl
    | func f => rfl

theorem wanted_agree {o : Oper} {α α' : Act} (h : ∀ t, t ∈ o.looksAt ops → α.tmps[t]? = α'.tmps[t]?) :
    Region.wanted o (yielded ops α.tmps) = Region.wanted o (yielded ops α'.tmps) := by
  unfold Region.wanted
  cases hg : o.guard with
  | none => rfl
  | some gw =>
    obtain ⟨g, want⟩ := gw
    have hy : yielded ops α.tmps g = yielded ops α'.tmps g := by
      unfold yielded
      cases ht : (ops[g]?).bind (·.dst) with
      | none => rfl
      | some t =>
        have := h t (by simp [Oper.looksAt, hg, ht])
        simp only [Option.bind_some, this]
    simp only [hy]

theorem put_get {α : Act} {dst : Option Tmp} {u : Value} {t : Nat} : (α.put dst u).tmps[t]? = if dst = some t then (if t < α.tmps.size then some u else none) else α.tmps[t]? := by
  cases dst with
  | none => simp [Act.put]
  | some d =>
    simp only [Act.put, Option.some.injEq]
    by_cases h : d = t
    · subst h
      by_cases hlt : d < α.tmps.size
      · simp [hlt]
      · simp [hlt]
    · simp [h, Array.getElem?_setIfInBounds_ne h]

theorem put_size {α : Act} {dst : Option Tmp} {u : Value} : (α.put dst u).tmps.size = α.tmps.size := by
  cases dst <;> simp [Act.put]

theorem put_df {α : Act} {dst : Option Tmp} {u : Value} : (α.put dst u).defers = α.defers := by
  cases dst <;> rfl

theorem put_look {o : Oper} {α : Act} {dst : Option Tmp} {u : Value} (h : ∀ d, dst = some d → d ∉ o.looksAt ops) (t : Nat) (ht : t ∈ o.looksAt ops) : (α.put dst u).tmps[t]? = α.tmps[t]? := by
  rw [put_get, if_neg]
  intro hd
  exact h t hd ht

/-- A transfer of a step to acts that agree where it looks. -/
theorem wp_shift {P : Program} {o : Oper} {α α' : Act} {Q : Exit → Act → World → Prop} {N : Value → World → Prop} {K : Act → World → Prop}
    (he : execOp α.eval o = execOp α'.eval o) (hz : α.tmps.size = α'.tmps.size) (hQ : ∀ c a w, ¬ Q (.panic c) a w)
    (h : o.wp P α' w (fun a1 w1 => ∃ u, a1 = α'.put o.dst u ∧ N u w1) Q) (hK : ∀ u w1, N u w1 → K (α.put o.dst u) w1) : o.wp P α w K Q := by
  have inj : ∀ v u : Value, α'.put o.dst v = α'.put o.dst u → α.put o.dst v = α.put o.dst u := by
    intro v u hvu
    cases hd : o.dst with
    | none => rfl
    | some d =>
      rw [hd] at hvu
      have h1 : (α'.put (some d) v).tmps[d]? = (α'.put (some d) u).tmps[d]? := by rw [hvu]
      rw [put_get, put_get] at h1
      simp only [if_true] at h1
      by_cases hlt : d < α'.tmps.size
      · simp only [hlt, if_true, Option.some.injEq] at h1
        rw [h1]
      · simp only [Act.put]
        have hge : α.tmps.size ≤ d := by rw [hz]; exact Nat.le_of_not_lt hlt
        rw [Array.setIfInBounds_eq_of_size_le hge, Array.setIfInBounds_eq_of_size_le hge]
  have one : ∀ v w1, (∃ u, α'.put o.dst v = α'.put o.dst u ∧ N u w1) → K (α.put o.dst v) w1 := by
    rintro v w1 ⟨u, hu, hn⟩
    rw [inj v u hu]
    exact hK u w1 hn
  unfold Oper.wp at *
  rw [he]
  generalize (execOp α'.eval o).run P w = r at *
  cases r with
  | ok n w' =>
    cases n <;> simp only [Oper.upon] at h ⊢
    case value v => exact one v w' h
    case skip => exact one undef w' h
    case defer d =>
      obtain ⟨u, hu, _⟩ := h
      have h1 := congrArg Act.defers hu
      rw [put_df, put_df] at h1
      exact absurd h1 (List.cons_ne_self _ _)
    case enter f args =>
      refine Calls.mono h fun e w'' he => ?_
      cases e with
      | returned v => exact one v w'' he
      | panicked c => exact (hQ _ _ _ he).elim
      | outgrown => exact he
    case row row args => exact Rows.mono h fun v w'' he => one v w'' he
    all_goals exact h.elim
  | halt x w' =>
    cases x <;> simp only [Oper.upon] at h ⊢
    case panic v => exact (hQ _ _ _ h).elim
    all_goals exact h.elim

def DC (ops : Array Oper) (L : Array Bool) : Prop := ∀ (k : Nat) (o : Oper), ops[k]? = some o → L[k]? = some true → ∀ e : Nat, e ∈ edgesOf o → L[e]? = some true

theorem set_true {L : Array Bool} {j k : Nat} (h : L[k]? = some true) : (L.setIfInBounds j true)[k]? = some true := by
  by_cases hjk : j = k
  · subst hjk
    have hlt := (Array.getElem?_eq_some_iff.1 h).1
    simp [hlt]
  · rw [Array.getElem?_setIfInBounds_ne hjk]; exact h

theorem set_self {L : Array Bool} {j : Nat} {b : Bool} (h : L[j]? = some b) : (L.setIfInBounds j true)[j]? = some true := by
  have hlt := (Array.getElem?_eq_some_iff.1 h).1
  simp [hlt]

theorem DC.set {L : Array Bool} {j : Nat} (h : DC ops L) (hr : j ∈ Region.ready .any ops L) : DC ops (L.setIfInBounds j true) := by
  obtain ⟨h0, o, ho, he⟩ := ready_iff.1 hr
  intro k ok hk hl e hek
  by_cases hjk : j = k
  · subst hjk
    rw [ho] at hk
    cases hk
    exact set_true (he e hek)
  · rw [Array.getElem?_setIfInBounds_ne hjk] at hl
    exact set_true (h k ok hk hl e hek)

theorem closeUp_sub {L : Array Bool} (h : DC ops L) : ∀ (i : Nat) (m : List Nat), (∀ e : Nat, e ∈ m → L[e]? = some true) → ∀ e : Nat, e ∈ closeUp ops i m → L[e]? = some true
  | 0, m, hm, e, he => hm e he
  | i + 1, m, hm, e, he => by
    unfold closeUp at he
    split at he
    · rename_i hi
      refine closeUp_sub h i _ ?_ e he
      intro x hx
      rcases List.mem_append.1 hx with hx | hx
      · exact hm x hx
      · split at hx
        · rename_i o ho
          exact h i o ho (hm i (by simpa using hi)) x hx
        · cases hx
    · exact closeUp_sub h i m hm e he

/-- What is owed for an operation that has been done early. -/
def QY (Γ : Ctx) (ops : Array Oper) (o : Oper) (k : Nat) (α' : Act) (n : Nat) (β : Nat → Nat) (w : World) (pend : List Nat) : Prop :=
  (Region.wanted o (yielded ops α'.tmps) = true ∧ ∃ u, α'.put o.dst u = α' ∧ (execOp α'.eval o).run Γ.P w = .ok (.value u) w ∧
    (k ∈ pend ∨ ∀ w2 : World, (∀ i, i < n → β i < w2.heap.size) → (execOp α'.eval o).run Γ.P w2 = .ok (.value u) w2)) ∨
  (Region.wanted o (yielded ops α'.tmps) = false ∧ α'.put o.dst undef = α')

structure MixR (Γ : Ctx) (β : Nat → Nat) (s : SS) (w : World) (ops : Array Oper) (L L' : Array Bool) (D : List Nat) (α : Act) (a : List SV) (pend : List Nat) : Prop where
  st : St Γ β s w
  ok : okL s.n a
  sz : L.size = ops.size
  sz' : L'.size = ops.size
  mem : ∀ k : Nat, k ∈ D ↔ (L'[k]? = some true ∧ L[k]? = some false)
  nd : D.Nodup
  sub : ∀ k : Nat, L[k]? = some true → L'[k]? = some true
  dc : DC ops L
  dc' : DC ops L'
  act : ∀ t : Nat, (∀ (k : Nat) (o : Oper), k ∈ D → ops[k]? = some o → o.dst ≠ some t) → α.tmps[t]? = (actS β a).tmps[t]?
  asz : α.tmps.size = (actS β a).tmps.size
  df : α.defers = (actS β a).defers
  ow : ∀ (k : Nat) (o : Oper), k ∈ D → ops[k]? = some o → QY Γ ops o k (actS β a) s.n β w pend

section
variable {L L' : Array Bool} {D : List Nat} {α : Act} {a : List SV} {pend : List Nat}

theorem MixR.agree (R : MixR Γ β s w ops L L' D α a pend) (hn : neat ops = true) {j : Nat} {oj : Oper} (hr : j ∈ Region.ready .any ops L) (ho : ops[j]? = some oj) :
    ∀ t, t ∈ oj.looksAt ops → α.tmps[t]? = (actS β a).tmps[t]? := by
  intro t ht
  refine R.act t fun k ok hk hok hd => ?_
  obtain ⟨h1, h2⟩ := neat_looks hn hok ho hd ht
  obtain ⟨h0, o, ho', he⟩ := ready_iff.1 hr
  rw [ho] at ho'
  cases ho'
  have h3 := he k h2
  have h4 := ((R.mem k).1 hk).2
  rw [h3] at h4
  cases h4

theorem MixR.conv (R : MixR Γ β s w ops L L' D α a pend) {a' : List SV} (h : actS β a' = actS β a) (hok : okL s.n a') : MixR Γ β s w ops L L' D α a' pend where
  st := R.st
  ok := hok
  sz := R.sz
  sz' := R.sz'
  mem := R.mem
  nd := R.nd
  sub := R.sub
  dc := R.dc
  dc' := R.dc'
  act := by rw [h]; exact R.act
  asz := by rw [h]; exact R.asz
  df := by rw [h]; exact R.df
  ow := by rw [h]; exact R.ow

/-- A step that has been done early is really done. -/
theorem MixR.pendStep (R : MixR Γ β s w ops L L' D α a pend) (hn : neat ops = true) (hsel : Region.noSelect ops = true) {j : Nat} (hj : j ∈ D) (hr : j ∈ Region.ready .any ops L)
    {Q : Exit → Act → World → Prop} {K : Act → World → Prop} (hK : ∀ α1, MixR Γ β s w ops (L.setIfInBounds j true) L' (D.erase j) α1 a pend → K α1 w) : wpOp Γ.P ops Q j K α w := by
  obtain ⟨h0, oj, ho, he⟩ := ready_iff.1 hr
  have ag := R.agree hn hr ho
  have hex := exec_agree (Region.noSelect_spec hsel j oj · · ho) ag
  have hwa := wanted_agree ag
  have fin : ∀ u, (actS β a).put oj.dst u = actS β a → K (α.put oj.dst u) w := by
    intro u hu
    refine hK _ ⟨R.st, R.ok, by simp [R.sz], R.sz', ?_, R.nd.erase j, ?_, R.dc.set hr, R.dc', ?_, by rw [put_size]; exact R.asz, by rw [put_df]; exact R.df, ?_⟩
    · intro k
      rw [R.nd.mem_erase_iff, R.mem k]
      by_cases hjk : j = k
      · subst hjk
        constructor
        · rintro ⟨h1, _⟩; exact absurd rfl h1
        · rintro ⟨_, h2⟩; rw [set_self h0] at h2; cases h2
      · rw [Array.getElem?_setIfInBounds_ne hjk]
        exact ⟨fun h => h.2, fun h => ⟨fun e => hjk e.symm, h⟩⟩
    · intro k hk
      by_cases hjk : j = k
      · subst hjk; exact ((R.mem _).1 hj).1
      · rw [Array.getElem?_setIfInBounds_ne hjk] at hk; exact R.sub k hk
    · intro t ht
      rw [put_get]
      by_cases hd : oj.dst = some t
      · rw [if_pos hd]
        have h1 : ((actS β a).put oj.dst u).tmps[t]? = (actS β a).tmps[t]? := by rw [hu]
        rw [put_get, if_pos hd] at h1
        rw [← h1, R.asz]
      · rw [if_neg hd]
        refine R.act t fun k ok hk hok => ?_
        by_cases hjk : k = j
        · subst hjk; rw [ho] at hok; cases hok; exact hd
        · exact ht k ok ((R.nd.mem_erase_iff).2 ⟨hjk, hk⟩) hok
    · intro k ok hk hok
      exact R.ow k ok (List.mem_of_mem_erase hk) hok
  unfold wpOp
  simp only [ho, hwa]
  rcases R.ow j oj hj ho with ⟨hw, u, hu, hrun, _⟩ | ⟨hw, hu⟩
  · rw [if_pos hw]
    left
    unfold Oper.wp
    rw [hex, hrun]
    exact fin u hu
  · rw [if_neg (by rw [hw]; simp)]
    exact fin undef hu

/-- Where nothing is ready, nothing has been done early. -/
theorem MixR.done (R : MixR Γ β s w ops L L' D α a pend) (hn : neat ops = true) (hr : Region.ready .any ops L = []) : D = [] := by
  rcases Nat.eq_zero_or_pos D.length with h | h
  · exact List.length_eq_zero_iff.1 h
  · exfalso
    have hex : ∃ k, k ∈ D := by
      cases D with
      | nil => simp at h
      | cons x _ => exact ⟨x, by simp⟩
    have hmin : ∀ n k, k < n → k ∈ D → ∃ m, m ∈ D ∧ ∀ e, e < m → e ∉ D := by
      intro n
      induction n with
      | zero => intro k hk; omega
      | succ n ih =>
        intro k hk hkD
        by_cases hx : ∃ e, e < k ∧ e ∈ D
        · obtain ⟨e, he, heD⟩ := hx
          exact ih e (by omega) heD
        · exact ⟨k, hkD, fun e he heD => hx ⟨e, he, heD⟩⟩
    obtain ⟨k0, hk0⟩ := hex
    obtain ⟨k, hk, hmin⟩ := hmin (k0 + 1) k0 (by omega) hk0
    obtain ⟨h1, h2⟩ := (R.mem k).1 hk
    have hlt : k < ops.size := by rw [← R.sz]; exact (Array.getElem?_eq_some_iff.1 h2).1
    have ho : ops[k]? = some ops[k] := Array.getElem?_eq_getElem hlt
    have : k ∈ Region.ready .any ops L := by
      refine ready_iff.2 ⟨h2, _, ho, fun e he => ?_⟩
      have h3 := R.dc' k _ ho h1 e he
      have h4 : e < L.size := by rw [R.sz, ← R.sz']; exact (Array.getElem?_eq_some_iff.1 h3).1
      cases hL : L[e]? with
      | none => rw [Array.getElem?_eq_none_iff] at hL; omega
      | some b =>
        cases b with
        | true => rfl
        | false => exact absurd ((R.mem e).2 ⟨h3, hL⟩) (hmin e (neat_edge hn ho he))
    rw [hr] at this
    cases this

theorem MixR.same (R : MixR Γ β s w ops L L' [] α a pend) : α = actS β a := by
  have h1 : α.tmps = (actS β a).tmps := Array.ext_getElem? fun t => R.act t fun k o hk => by cases hk
  have h2 := R.df
  cases α
  simp only at h1 h2
  rw [h1, h2]

theorem MixR.ready_of (R : MixR Γ β s w ops L L' D α a pend) {j : Nat} (hr : j ∈ Region.ready .any ops L) (hj : j ∉ D) : j ∈ Region.ready .any ops L' := by
  obtain ⟨h0, o, ho, he⟩ := ready_iff.1 hr
  refine ready_iff.2 ⟨?_, o, ho, fun e hee => R.sub e (he e hee)⟩
  have hlt : j < L'.size := by rw [R.sz', ← R.sz]; exact (Array.getElem?_eq_some_iff.1 h0).1
  cases hL : L'[j]? with
  | none => rw [Array.getElem?_eq_none_iff] at hL; omega
  | some b =>
    cases b with
    | false => rfl
    | true => exact absurd ((R.mem j).2 ⟨hL, h0⟩) hj

/-- A later step leaves what is looked at. -/
theorem MixR.apart (R : MixR Γ β s w ops L L' D α a pend) (hn : neat ops = true) {i : Nat} {oi : Oper} (hi : i ∈ Region.ready .any ops L') (ho : ops[i]? = some oi) {k : Nat} {ok : Oper} (hk : k ∈ D) (hok : ops[k]? = some ok) :
    (∀ d, oi.dst = some d → d ∉ ok.looksAt ops) ∧ (∀ d, oi.dst = some d → ok.dst ≠ some d) := by
  have h0 := (ready_iff.1 hi).1
  have hkL := ((R.mem k).1 hk).1
  have hik : i ≠ k := fun e => by subst e; rw [h0] at hkL; cases hkL
  refine ⟨fun d hd hl => ?_, fun d hd => neat_dst hn ho hok hik hd⟩
  have h2 := (neat_looks hn ho hok hd hl).2
  have h3 := R.dc' k ok hok hkL i h2
  rw [h0] at h3
  cases h3

/-- What is owed stays owed under a later step's result. -/
theorem QY.put {o : Oper} {k : Nat} {α' : Act} {n : Nat} (h : QY Γ ops o k α' n β w pend) (hs : ∀ cs b, o.op ≠ .select cs b) {dst : Option Tmp} {u : Value} (h1 : ∀ d, dst = some d → d ∉ o.looksAt ops) (h2 : ∀ d, dst = some d → o.dst ≠ some d)
    {pend' : List Nat} (hp : k ∈ pend → k ∈ pend') : QY Γ ops o k (α'.put dst u) n β w pend' := by
  have ag : ∀ t, t ∈ o.looksAt ops → (α'.put dst u).tmps[t]? = α'.tmps[t]? := put_look h1
  have e1 := exec_agree hs ag
  have e2 := wanted_agree ag
  rcases h with ⟨hw, v, hv, hrun, hst⟩ | ⟨hw, hv⟩
  · left
    rw [e1, e2]
    exact ⟨hw, v, by rw [Act.put_comm _ _ _ h2, hv], hrun, hst.imp hp id⟩
  · right
    rw [e2]
    exact ⟨hw, by rw [Act.put_comm _ _ _ h2, hv]⟩

theorem put_put {α : Act} {dst : Option Tmp} {u : Value} : (α.put dst u).put dst u = α.put dst u := by
  cases dst <;> simp [Act.put]

/-- A step is done early. -/
theorem MixR.take (R : MixR Γ β s w ops L L' D α a pend) (hn : neat ops = true) (hsel : Region.noSelect ops = true) {i : Nat} {oi : Oper} (hi : i ∈ Region.ready .any ops L') (ho : ops[i]? = some oi) {v : SV} (hv : v.ok s.n)
    {pend' : List Nat} (hp : ∀ k, k ∈ pend → k ∈ pend')
    (hy : (Region.wanted oi (yielded ops (actS β a).tmps) = true ∧ (execOp (actS β a).eval oi).run Γ.P w = .ok (.value (v.den β)) w ∧
        (i ∈ pend' ∨ ∀ w2 : World, (∀ i, i < s.n → β i < w2.heap.size) → (execOp (actS β a).eval oi).run Γ.P w2 = .ok (.value (v.den β)) w2)) ∨
      (Region.wanted oi (yielded ops (actS β a).tmps) = false ∧ v.den β = undef)) :
    MixR Γ β s w ops L (L'.setIfInBounds i true) (i :: D) α (putS a oi.dst v) pend' := by
  have h0 := (ready_iff.1 hi).1
  have hiD : i ∉ D := fun h => by have := ((R.mem i).1 h).1; rw [h0] at this; cases this
  have hiL : L[i]? = some false := by
    have hlt : i < L.size := by rw [R.sz, ← R.sz']; exact (Array.getElem?_eq_some_iff.1 h0).1
    cases hL : L[i]? with
    | none => rw [Array.getElem?_eq_none_iff] at hL; omega
    | some b =>
      cases b with
      | false => rfl
      | true => have := R.sub i hL; rw [h0] at this; cases this
  have ea : actS β (putS a oi.dst v) = (actS β a).put oi.dst (v.den β) := (actS_put (Ext.refl R.st) R.ok oi.dst v).symm
  have hs := Region.noSelect_spec hsel
  refine ⟨R.st, putS_ok R.ok hv _, R.sz, by simp [R.sz'], ?_, List.nodup_cons.2 ⟨hiD, R.nd⟩, fun k hk => set_true (R.sub k hk), R.dc, R.dc'.set hi, ?_, ?_, ?_, ?_⟩
  · intro k
    rw [List.mem_cons, R.mem k]
    by_cases hik : i = k
    · subst hik
      simp [set_self h0, hiL]
    · rw [Array.getElem?_setIfInBounds_ne hik]
      exact ⟨fun h => h.resolve_left fun e => hik e.symm, fun h => .inr h⟩
  · intro t ht
    rw [ea, put_get, if_neg (ht i oi (by simp) ho)]
    exact R.act t fun k o hk => ht k o (by simp [hk])
  · rw [ea, put_size]; exact R.asz
  · rw [ea, put_df]; exact R.df
  · intro k ok hk hok
    rw [ea]
    rcases List.mem_cons.1 hk with rfl | hk
    · rw [ho] at hok
      cases hok
      have ag : ∀ t, t ∈ oi.looksAt ops → ((actS β a).put oi.dst (v.den β)).tmps[t]? = (actS β a).tmps[t]? := put_look fun d hd hl => (neat_looks hn ho ho hd hl).1 rfl
      have e1 := exec_agree (hs k oi · · ho) ag
      have e2 := wanted_agree ag
      rcases hy with ⟨hw, hrun, hst⟩ | ⟨hw, hv⟩
      · left
        rw [e1, e2]
        exact ⟨hw, _, put_put, hrun, hst⟩
      · right
        rw [e2, hv]
        exact ⟨hw, put_put⟩
    · obtain ⟨p1, p2⟩ := R.apart hn hi ho hk hok
      exact (R.ow k ok hk hok).put (hs k ok · · hok) p1 p2 (hp k)

/-- A step is done, in truth and in the plan. -/
theorem MixR.step (R : MixR Γ β s w ops L L' D α a pend) (hn : neat ops = true) (hsel : Region.noSelect ops = true) {j : Nat} {oj : Oper} (hr : j ∈ Region.ready .any ops L) (hj : j ∉ D) (ho : ops[j]? = some oj)
    {v : SV} {s' : SS} {β' : Nat → Nat} {w' : World} (hext : Ext Γ β s β' s' w') (hv : v.ok s'.n) {pend' : List Nat}
    (hq : ∀ k o, k ∈ D → ops[k]? = some o → k ∈ pend → QY Γ ops o k (actS β' (putS a oj.dst v)) s'.n β' w' pend') :
    MixR Γ β' s' w' ops (L.setIfInBounds j true) (L'.setIfInBounds j true) D (α.put oj.dst (v.den β')) (putS a oj.dst v) pend' := by
  have hr' := R.ready_of hr hj
  have h0 := (ready_iff.1 hr).1
  have h0' := (ready_iff.1 hr').1
  have ea : actS β' (putS a oj.dst v) = (actS β a).put oj.dst (v.den β') := (actS_put hext R.ok oj.dst v).symm
  have hs := Region.noSelect_spec hsel
  refine ⟨hext.st, putS_ok (okL_mono hext.le a R.ok) hv _, by simp [R.sz], by simp [R.sz'], ?_, R.nd, ?_, R.dc.set hr, R.dc'.set hr', ?_, ?_, ?_, ?_⟩
  · intro k
    rw [R.mem k]
    by_cases hjk : j = k
    · subst hjk
      simp [set_self h0, set_self h0', h0']
    · rw [Array.getElem?_setIfInBounds_ne hjk, Array.getElem?_setIfInBounds_ne hjk]
  · intro k hk
    by_cases hjk : j = k
    · subst hjk; exact set_self h0'
    · rw [Array.getElem?_setIfInBounds_ne hjk] at hk ⊢; exact R.sub k hk
  · intro t ht
    rw [ea, put_get, put_get, R.asz, R.act t ht]
  · rw [ea, put_size, put_size]; exact R.asz
  · rw [ea, put_df, put_df]; exact R.df
  · intro k ok hk hok
    have hq' := hq k ok hk hok
    rw [ea] at hq' ⊢
    obtain ⟨p1, p2⟩ := R.apart hn hr' ho hk hok
    have ag : ∀ t, t ∈ ok.looksAt ops → ((actS β a).put oj.dst (v.den β')).tmps[t]? = (actS β a).tmps[t]? := put_look p1
    have e1 := exec_agree (hs k ok · · hok) ag
    have e2 := wanted_agree ag
    rcases R.ow k ok hk hok with ⟨hw, u, hu, hrun, hst⟩ | ⟨hw, hu⟩
    · rcases hst with hst | hst
      · exact hq' hst
      · left
        rw [e1, e2]
        refine ⟨hw, u, by rw [Act.put_comm _ _ _ p2, hu], hst w' (fun i hi => ?_), .inr fun w2 h2 => hst w2 fun i hi => ?_⟩
        · rw [← hext.agree i hi]; exact hext.st.lt i (Nat.lt_of_lt_of_le hi hext.le)
        · rw [← hext.agree i hi]; exact h2 i (Nat.lt_of_lt_of_le hi hext.le)
    · right
      rw [e2]
      exact ⟨hw, by rw [Act.put_comm _ _ _ p2, hu]⟩

end

theorem recheck_spec {a : List SV} : ∀ {ks : List Nat} {t : T}, (recheck Γ.P ops a s ks t).holds Γ → St Γ β s w → okL s.n a →
    t.holds Γ ∧ ∀ k, k ∈ ks → ∀ o, ops[k]? = some o → Region.wanted o (yielded ops (actS β a).tmps) = true ∧ ∃ u, (actS β a).put o.dst u = actS β a ∧ (execOp (actS β a).eval o).run Γ.P w = .ok (.value u) w
  | [], t, h, hs, ha => ⟨h, by simp⟩
  | k :: ks, t, h, hs, ha => by
    unfold recheck at h
    split at h
    · exact h.elim
    · rename_i o ho
      split at h
      · rename_i v ps hw hc
        have hw' := wantedS_spec (β := β) hw
        have fin : ∀ u, (actS β a).put o.dst u = actS β a → (execOp (actS β a).eval o).run Γ.P w = .ok (.value u) w → (recheck Γ.P ops a s ks t).holds Γ →
            t.holds Γ ∧ ∀ k', k' ∈ k :: ks → ∀ o, ops[k']? = some o → Region.wanted o (yielded ops (actS β a).tmps) = true ∧ ∃ u, (actS β a).put o.dst u = actS β a ∧ (execOp (actS β a).eval o).run Γ.P w = .ok (.value u) w := by
          intro u hu hrun hh
          obtain ⟨g1, g2⟩ := recheck_spec hh hs ha
          refine ⟨g1, fun k' hk' o' ho' => ?_⟩
          rcases List.mem_cons.1 hk' with rfl | hk'
          · rw [ho] at ho'
            cases ho'
            exact ⟨hw', u, hu, hrun⟩
          · exact g2 k' hk' o' ho'
        split at h
        · rename_i hd
          obtain ⟨hp, hh⟩ := needs_holds h
          exact fin _ (by rw [hd]; rfl) (calmVal_spec hc hp hs ha).1 hh
        · rename_i d hd
          split at h
          · rename_i hn
            obtain ⟨hp, hh⟩ := needs_holds h
            refine fin _ ?_ (calmVal_spec hc hp hs ha).1 hh
            rw [hd]
            have hlen : a.length ≤ d := List.getElem?_eq_none_iff.1 hn
            simp only [Act.put, actS]
            rw [Array.setIfInBounds_eq_of_size_le (by simp [denL_length]; omega)]
          · rename_i u hu
            split at h
            · rename_i qs hq
              obtain ⟨hp, hh⟩ := needs_holds h
              obtain ⟨hp2, hh⟩ := needs_holds hh
              have e1 := sameV_spec (β := β) _ _ _ hq hp2
              refine fin (u.den β) ?_ (by rw [← e1]; exact (calmVal_spec hc hp hs ha).1) hh
              rw [hd]
              have hlt := (List.getElem?_eq_some_iff.1 hu).1
              have : (denL β a).toArray[d]? = some (u.den β) := by simp [denL_get, hu]
              simp only [Act.put, actS]
              congr 1
              apply Array.ext_getElem?
              intro i
              by_cases hdi : d = i
              · subst hdi
                rw [this]
                simp [denL_length, hlt]
              · rw [Array.getElem?_setIfInBounds_ne hdi]
            · exact h.elim
      · exact h.elim

theorem PostN_panic {n : Nat} {K : List SV → SS → T} (c : _) (a : Act) (w : World) : ¬ PostN Γ β s n K (.panic c) a w := fun h => by cases h.1

theorem takeOf_spec {a : List SV} {i : Nat} {dst : Option Nat} {v : SV} {ps : List Prop} {st : Bool} (h : takeOf Γ.P ops a s i = some (dst, v, ps, st)) (hp : ∀ p, p ∈ ps → p) (hs : St Γ β s w) (ha : okL s.n a) :
    ∃ o, ops[i]? = some o ∧ o.dst = dst ∧ v.ok s.n ∧
    ((Region.wanted o (yielded ops (actS β a).tmps) = true ∧ (execOp (actS β a).eval o).run Γ.P w = .ok (.value (v.den β)) w ∧
        (st = false ∨ ∀ w2 : World, (∀ i, i < s.n → β i < w2.heap.size) → (execOp (actS β a).eval o).run Γ.P w2 = .ok (.value (v.den β)) w2)) ∨
      (Region.wanted o (yielded ops (actS β a).tmps) = false ∧ v.den β = undef)) := by
  unfold takeOf at h
  split at h
  · cases h
  · rename_i o ho
    refine ⟨o, ho, ?_⟩
    split at h
    · rename_i wt hw
      have hw' := wantedS_spec (β := β) hw
      split at h
      · rename_i hwt
        subst hwt
        split at h
        · rename_i v' ps' st' ht
          simp only [Option.some.injEq, Prod.mk.injEq] at h
          obtain ⟨h1, rfl, rfl, rfl⟩ := h
          unfold takeVal at ht
          split at ht
          · rename_i v2 ps2 hc
            simp only [Option.some.injEq, Prod.mk.injEq] at ht
            obtain ⟨rfl, rfl, rfl⟩ := ht
            obtain ⟨c1, c2⟩ := calmVal_blank hc hp hs ha
            exact ⟨h1, c1, .inl ⟨hw', c2 w hs.lt, .inr c2⟩⟩
          · split at ht
            · rename_i v2 ps2 hc
              simp only [Option.some.injEq, Prod.mk.injEq] at ht
              obtain ⟨rfl, rfl, rfl⟩ := ht
              obtain ⟨c1, c2⟩ := calmVal_spec hc hp hs ha
              exact ⟨h1, c2, .inl ⟨hw', c1, .inl rfl⟩⟩
            · cases ht
        · cases h
      · rename_i hwt
        simp only [Option.some.injEq, Prod.mk.injEq] at h
        obtain ⟨h1, rfl, _, _⟩ := h
        have : wt = false := by simpa using hwt
        subst this
        exact ⟨h1, trivial, .inr ⟨hw', rfl⟩⟩
    · cases h

theorem xMix_sound {call : XCall} (hc : CallSound Γ call) (hsel : Region.noSelect ops = true) (hn : neat ops = true) : ∀ (m n : Nat) (L : Array Bool) (Lv : List Bool) (D : List Nat) (α : Act) (a : List SV) (pend : List Nat) (K : List SV → SS → T) (s : SS) (β : Nat → Nat) (w : World),
    (xMix Γ.P call ops n Lv a pend K s).holds Γ → MixR Γ β s w ops L Lv.toArray D α a pend → m = n + D.length → wpAny Γ.P .any ops (PostN Γ β s a.length K) m L α w := by
  intro m n
  induction m using Nat.strongRecOn generalizing n with
  | ind m ihm =>
  induction n using Nat.strongRecOn with
  | ind n ihn =>
  intro L Lv D α a pend K s β w h R hm
  have hs := R.st
  have ha := R.ok
  -- a step that has been done early
  have early : ∀ j, j ∈ D → j ∈ Region.ready .any ops L → ∀ m', m = m' + 1 → wpOp Γ.P ops (PostN Γ β s a.length K) j (wpAny Γ.P .any ops (PostN Γ β s a.length K) m' (L.setIfInBounds j true)) α w := by
    intro j hj hr m' hm'
    refine R.pendStep hn hsel hj hr fun α1 R1 => ?_
    refine ihm m' (by omega) n _ _ _ _ _ _ _ _ _ _ h R1 ?_
    rw [List.length_erase_of_mem hj]
    have := List.length_pos_of_mem hj
    omega
  -- nothing is left in the plan
  have over : Region.ready .any ops Lv.toArray = [] → (K a s).holds Γ → wpAny Γ.P .any ops (PostN Γ β s a.length K) m L α w := by
    intro hr hh
    have fin : Region.ready .any ops L = [] → PostN Γ β s a.length K .normal α w := by
      intro hr0
      have hD := R.done hn hr0
      subst hD
      exact ⟨rfl, a, s, β, R.same, Ext.refl hs, ha, rfl, hh⟩
    have steps : ∀ j, j ∈ Region.ready .any ops L → j ∈ D := by
      intro j hj
      by_cases hjD : j ∈ D
      · exact hjD
      · have := R.ready_of hj hjD
        rw [hr] at this
        cases this
    cases m with
    | zero =>
      have hD : D = [] := List.length_eq_zero_iff.1 (by omega)
      have hr0 : Region.ready .any ops L = [] := List.eq_nil_iff_forall_not_mem.2 fun j hj => by
        have := steps j hj
        rw [hD] at this
        cases this
      exact ⟨hr0, fin hr0⟩
    | succ m' => exact ⟨fin, fun j hj => early j (steps j hj) hj m' rfl⟩
  cases n with
  | zero =>
    unfold xMix at h
    split at h
    · rename_i hr
      exact over hr h
    · exact h.elim
  | succ n =>
    have h' := h
    unfold xMix at h
    simp only at h
    split at h
    · rename_i hr
      exact over hr h
    · rename_i r more hr
      split at h
      · rename_i i dst v ps st hfind
        obtain ⟨l1, i', l2, hl, hi', _⟩ := List.findSome?_eq_some_iff.1 hfind
        split at hi'
        · rename_i dst' v' ps' st' ht
          simp only [Option.some.injEq, Prod.mk.injEq] at hi'
          obtain ⟨rfl, rfl, rfl, rfl, rfl⟩ := hi'
          obtain ⟨hp, hh⟩ := needs_holds h
          obtain ⟨o, ho, hd, hv, hy⟩ := takeOf_spec ht hp hs ha
          subst hd
          have hmem : i' ∈ Region.ready .any ops Lv.toArray := by rw [hr, hl]; simp
          have R1 := R.take hn hsel hmem ho hv (pend' := if st' then pend else i' :: pend) (fun k hk => by split <;> simp [hk])
            (hy.imp (fun ⟨y1, y2, y3⟩ => ⟨y1, y2, y3.imp (fun e => by simp [e]) id⟩) id)
          have := ihn n (by omega) L (Lv.set i' true) (i' :: D) α (putS a o.dst v') _ K s β w hh (by simpa using R1) (by simp; omega)
          rw [putS_length] at this
          exact this
        · cases hi'
      · obtain ⟨h1, h2⟩ := holds_foldr h
        have hall : ∀ i ∈ r :: more, _ := fun i hi => (List.mem_cons.1 hi).elim (fun e => e ▸ h1) (fun hm => h2 i hm)
        obtain ⟨m', rfl⟩ : ∃ m', m = m' + 1 := ⟨m - 1, by omega⟩
        refine ⟨fun hr0 => ?_, fun j hj => ?_⟩
        · exfalso
          have hD := R.done hn hr0
          have hrr : r ∈ Region.ready .any ops Lv.toArray := by rw [hr]; simp
          obtain ⟨q0, o, ho, he⟩ := ready_iff.1 hrr
          have : r ∈ Region.ready .any ops L := by
            refine ready_iff.2 ⟨?_, o, ho, fun e hee => ?_⟩
            · have hlt : r < L.size := by rw [R.sz, ← R.sz']; exact (Array.getElem?_eq_some_iff.1 q0).1
              cases hL : L[r]? with
              | none => rw [Array.getElem?_eq_none_iff] at hL; omega
              | some b =>
                cases b with
                | false => rfl
                | true => have := R.sub r hL; rw [q0] at this; cases this
            · have q1 := he e hee
              have hlt : e < L.size := by rw [R.sz, ← R.sz']; exact (Array.getElem?_eq_some_iff.1 q1).1
              cases hL : L[e]? with
              | none => rw [Array.getElem?_eq_none_iff] at hL; omega
              | some b =>
                cases b with
                | true => rfl
                | false =>
                  have := (R.mem e).2 ⟨q1, hL⟩
                  rw [hD] at this
                  cases this
          rw [hr0] at this
          cases this
        · by_cases hjD : j ∈ D
          · exact early j hjD hj m' rfl
          · have hj' := R.ready_of hj hjD
            have hb := hall j (by rw [← hr]; exact hj')
            split at hb
            · exact hb.elim
            · rename_i o ho
              have ag := R.agree hn hj ho
              have hex := exec_agree (Region.noSelect_spec hsel j o · · ho) ag
              have hwa := wanted_agree ag
              obtain ⟨a', e1, oka, la, hcase⟩ := byWant_holds (β := β) hb s.n ha
              have R := R.conv e1 oka
              rw [← e1] at hcase hex hwa
              unfold wpOp
              simp only [ho, hwa]
              rcases hcase with ⟨hw', hh⟩ | ⟨hw', hh⟩
              · rw [if_pos hw']
                left
                refine wp_shift (α' := actS β a') (N := fun u w1 => ∃ v s' β', u = SV.den β' v ∧ Ext Γ β s β' s' w1 ∧ v.ok s'.n ∧
                  (recheck Γ.P ops (putS a' o.dst v) s' (pend.filter fun k => !(behind ops j o).contains k) (xMix Γ.P call ops n (Lv.set j true) (putS a' o.dst v) (pend.filter fun k => !(behind ops j o).contains k) K s')).holds Γ)
                  hex R.asz PostN_panic ?_ ?_
                · exact xOp_sound hc hh hs oka fun v s' β' w' he hv hk => ⟨_, rfl, v, s', β', rfl, he, hv, hk⟩
                · rintro u w1 ⟨v, s', β', rfl, he, hv, hk⟩
                  have ha' := putS_ok (okL_mono he.le a' oka) hv o.dst
                  obtain ⟨g1, g2⟩ := recheck_spec hk he.st ha'
                  have R1 := R.step hn hsel hj hjD ho he hv (pend' := pend.filter fun k => !(behind ops j o).contains k) (fun k ok hkD hok hkp => by
                    have hkeep : k ∈ pend.filter fun k => !(behind ops j o).contains k := by
                      refine List.mem_filter.2 ⟨hkp, ?_⟩
                      cases hbk : (behind ops j o).contains k with
                      | false => rfl
                      | true =>
                        obtain ⟨_, o2, ho2, he2⟩ := ready_iff.1 hj
                        rw [ho] at ho2
                        cases ho2
                        have := closeUp_sub R.dc j (edgesOf o) he2 k (by simpa [behind] using hbk)
                        rw [((R.mem k).1 hkD).2] at this
                        cases this
                    obtain ⟨q1, u, q2, q3⟩ := g2 k hkeep ok hok
                    exact .inl ⟨q1, u, q2, q3, .inl hkeep⟩)
                  have := ihm m' (by omega) n _ (Lv.set j true) D _ (putS a' o.dst v) _ K s' β' w1 g1 (by simpa using R1) (by omega)
                  rw [putS_length, la] at this
                  exact wpAny_mono (fun e a w hp => PostN.ext he hp) _ _ _ _ this
              · rw [if_neg (by rw [hw']; simp)]
                have R1 := R.step hn hsel hj hjD ho (Ext.refl hs) (v := undefS) trivial (pend' := pend) (fun k ok hkD hok hkp => by
                  obtain ⟨p1, p2⟩ := R.apart hn hj' ho hkD hok
                  rw [← actS_put (Ext.refl hs) oka]
                  exact (R.ow k ok hkD hok).put (Region.noSelect_spec hsel k ok · · hok) p1 p2 id)
                have := ihm m' (by omega) n _ (Lv.set j true) D _ (putS a' o.dst undefS) _ K s β w hh (by simpa using R1) (by omega)
                rw [putS_length, la] at this
                exact this

theorem replicate_get {n k : Nat} {b : Bool} (h : (List.replicate n false).toArray[k]? = some b) : b = false := by
  simp only [List.getElem?_toArray, List.getElem?_replicate] at h
  split at h
  · simpa using h.symm
  · cases h

theorem MixR.start {a : List SV} (hs : St Γ β s w) (ha : okL s.n a) : MixR Γ β s w ops (List.replicate ops.size false).toArray (List.replicate ops.size false).toArray [] (actS β a) a [] where
  st := hs
  ok := ha
  sz := by simp
  sz' := by simp
  mem k := ⟨fun h => by simp at h, fun h => by rw [h.1] at h; cases h.2⟩
  nd := List.nodup_nil
  sub k h := h
  dc k o ho hl := by have := replicate_get hl; cases this
  dc' k o ho hl := by have := replicate_get hl; cases this
  act t _ := rfl
  asz := rfl
  df := rfl
  ow k o hk := by simp at hk

theorem xDraw_sound {call : XCall} (hc : CallSound Γ call) {id : Nat} (hsel : Region.noSelect ops = true) (hm : Γ.P.follows .mixedOrders = true) {a : List SV} {K : List SV → SS → T}
    (h : (xDraw Γ.P call ops a K s).holds Γ) (hs : St Γ β s w) (ha : okL s.n a) : (Code.region id ops true).wp Γ.P (PostN Γ β s a.length K) (actS β a) w := by
  unfold xDraw at h
  split at h
  · rename_i hn
    refine wp_region_any hm ?_
    have := xMix_sound hc hsel hn ops.size ops.size _ _ [] _ a [] K s β _ h (MixR.start (hs.like like_drew) ha) (by simp)
    simpa using this
  · refine wp_region_any hm ?_
    have := xAny_sound hc hsel _ _ _ _ _ _ _ h (hs.like like_drew) ha
    simpa using this

end Go.Rx
end

section
/- Results, code and whole calls: the executor is sound. -/
set_option linter.unusedVariables false
set_option linter.unusedSimpArgs false
namespace Go.Rx

variable {Γ : Ctx} {β : Nat → Nat} {s : SS} {w : World}

/-! ### Results -/

def resRun (tmps : Array Value) : ResultVar → Sem Value
  | .tmp t => pure (tmps.getD t undef)
  | .cell a t => do loadVar t (← asAddr (tmps.getD a undef))

theorem results_eq (fn : Func) (tmps : Array Value) : results fn tmps = (do let vs ← fn.results.mapM (resRun tmps); pure (if h : vs.size = 1 then vs[0] else .tuple vs)) := by
  unfold results
  congr 1

theorem xResults_sound {a : List SV} : ∀ (rs : List ResultVar) (K : List SV → T), (xResults Γ.P a s rs K).holds Γ → St Γ β s w → okL s.n a →
    ∃ vs, (rs.mapM (resRun (actS β a).tmps)).run Γ.P w = .ok (denL β vs) w ∧ okL s.n vs ∧ (K vs).holds Γ
  | [], K, h, hs, ha => ⟨[], rfl, trivial, h⟩
  | .tmp t :: rest, K, h, hs, ha => by
    unfold xResults at h
    obtain ⟨vs, h1, h2, h3⟩ := xResults_sound rest _ h hs ha
    have hev := ev_sound (x := .tmp t) (v := a.getD t undefS) rfl hs ha
    refine ⟨a.getD t undefS :: vs, ?_, ⟨hev.2, h2⟩, h3⟩
    have e1 : (actS β a).tmps.getD t undef = (a.getD t undefS).den β := hev.1
    simp only [List.mapM_cons, resRun, e1, Sem.run_bind, Sem.run_pure, Result.andThen_ok, h1, denL]
  | .cell x t :: rest, K, h, hs, ha => by
    unfold xResults at h
    have hev := ev_sound (x := .tmp x) (v := a.getD x undefS) rfl hs ha
    have e1 : (actS β a).tmps.getD x undef = (a.getD x undefS).den β := hev.1
    split at h
    · rename_i id off hp
      obtain ⟨v, l1, l2, l3⟩ := xLoad_var h hs
      obtain ⟨vs, h1, h2, h3⟩ := xResults_sound rest _ l3 hs ha
      refine ⟨v :: vs, ?_, ⟨l2, h2⟩, h3⟩
      have e2 : (resRun (actS β a).tmps (.cell x t)).run Γ.P w = .ok (v.den β) w := by
        simp only [resRun, e1, hp, SV.den, asAddr, Sem.run_bind, Sem.run_pure, Result.andThen_ok, l1]
      simp only [List.mapM_cons, Sem.run_bind, e2, Result.andThen_ok, h1, Sem.run_pure, denL]
    · exact h.elim

theorem results_run {fn : Func} {a vs : List SV} (h : (fn.results.toList.mapM (resRun (actS β a).tmps)).run Γ.P w = .ok (denL β vs) w) :
    (results fn (actS β a).tmps).run Γ.P w = .ok ((packS vs).den β) w := by
  rw [results_eq, Array.mapM_eq_mapM_toList]
  simp only [Sem.run_bind, Sem.run_map, h, Result.andThen_ok, Sem.run_pure]
  congr 1
  cases vs with
  | nil => simp [denL, packS, SV.den]
  | cons v vs =>
    cases vs with
    | nil => simp [denL, packS]
    | cons u us => simp [denL, packS, SV.den]

theorem packS_ok {n : Nat} {vs : List SV} (h : okL n vs) : (packS vs).ok n := by
  unfold packS
  split
  · exact h.1
  · exact h

/-! ### Code -/

def Post (Γ : Ctx) (β : Nat → Nat) (s : SS) (n : Nat) (K : SE → List SV → SS → T) (e : Exit) (a' : Act) (w' : World) : Prop :=
  ∃ e' vs s' β', e = SE.exit' e' ∧ a' = actS β' vs ∧ Ext Γ β s β' s' w' ∧ okL s'.n vs ∧ vs.length = n ∧ (K e' vs s').holds Γ

theorem Post.ext {n : Nat} {K : SE → List SV → SS → T} {β' : Nat → Nat} {s' : SS} {w' : World} (he : Ext Γ β s β' s' w') {e : Exit} {a' : Act} {w'' : World} (h : Post Γ β' s' n K e a' w'') : Post Γ β s n K e a' w'' := by
  obtain ⟨e', vs, s2, β2, h0, h1, h2, h3, h4, h5⟩ := h
  exact ⟨e', vs, s2, β2, h0, h1, he.trans h2, h3, h4, h5⟩

/-- What the executor does with a call, at a fuel. -/
def callAt (P : Program) (hk : Hooks) (n : Nat) : XCall := fun f args s' k => match hk.calls f with
      | some h => .call f args s' h.X (h.out args s') (fun x w' bs => k (h.out args s' x).1 (reS s' (h.out args s' x).2 w' bs))
      | none => (match P.funcs[f]? with
      | some fn => (match fn.body with
        | some body => xCode P hk n f body (args ++ List.replicate (fn.ntmps - args.length) undefS) (fun e a' s'' => (match e with
          | .normal => xResults P a' s'' fn.results.toList fun vs => k (packS vs) s''
          | .ret => xResults P a' s'' fn.results.toList fun vs => k (packS vs) s''
          | _ => .bad "a body's end")) s'
        | none => .bad "a function without a body")
      | none => .bad "no such function")

def CodeSound (Γ : Ctx) (hk : Hooks) (n : Nat) : Prop := ∀ (f₀ : FuncId) (c : Code) (a : List SV) (K : SE → List SV → SS → T) (s : SS) (β : Nat → Nat) (w : World),
  (xCode Γ.P hk n f₀ c a K s).holds Γ → St Γ β s w → okL s.n a → c.wp Γ.P (Post Γ β s a.length K) (actS β a) w

theorem actS_args (args : List SV) (n : Nat) : actS β (args ++ List.replicate (n - args.length) undefS) = { tmps := (denL β args).toArray ++ Array.replicate (n - (denL β args).toArray.size) undef, defers := [] } := by
  unfold actS
  congr 1
  apply Array.ext'
  simp [denL_append, denL_map, undefS, SV.den, undef]

theorem undefs_ok (m n : Nat) : okL m (List.replicate n undefS) := by
  rw [okL_iff]
  intro v hv
  rw [(List.mem_replicate.1 hv).2]
  trivial

theorem body_sound {hk : Hooks} {n : Nat} (ih : CodeSound Γ hk n) {f : FuncId} {fn : Func} {body : Code} (hf : Γ.P.funcs[f]? = some fn) (hb : fn.body = some body) {args : List SV} {k : SV → SS → T}
    (h : (xCode Γ.P hk n f body (args ++ List.replicate (fn.ntmps - args.length) undefS) (fun e a' s'' => (match e with
          | .normal => xResults Γ.P a' s'' fn.results.toList fun vs => k (packS vs) s''
          | .ret => xResults Γ.P a' s'' fn.results.toList fun vs => k (packS vs) s''
          | _ => .bad "a body's end")) s).holds Γ) (hs : St Γ β s w) (hargs : okL s.n args) :
    Calls Γ.P f (denL β args).toArray w fun e w' => ∃ v s' β', e = .returned (v.den β') ∧ Ext Γ β s β' s' w' ∧ v.ok s'.n ∧ (k v s').holds Γ := by
  refine calls_of_wp hf hb ?_
  rw [← actS_args]
  refine Code.wp_mono ?_ (ih f body _ _ s β w h hs (okL_append hargs (undefs_ok _ _)))
  rintro e a' w' ⟨e', vs, s', β', rfl, rfl, h2, h3, _, h5⟩
  cases e' with
  | normal =>
    obtain ⟨rs, r1, r2, r3⟩ := xResults_sound _ _ h5 h2.st h3
    exact ⟨rfl, _, results_run r1, packS rs, s', β', rfl, h2, packS_ok r2, r3⟩
  | ret =>
    obtain ⟨rs, r1, r2, r3⟩ := xResults_sound _ _ h5 h2.st h3
    exact ⟨rfl, _, results_run r1, packS rs, s', β', rfl, h2, packS_ok r2, r3⟩
  | exit i => exact h5.elim
  | goto l => exact h5.elim

theorem callAt_sound {hk : Hooks} {n : Nat} (ih : CodeSound Γ hk n) : CallSound Γ (callAt Γ.P hk n) := by
  intro f args s K β w h hs hargs
  unfold callAt at h
  split at h
  · refine (h β w hs hargs).mono ?_
    rintro e w' ⟨x, β', bs, h1, h2, h3, h4⟩
    exact ⟨_, _, β', h1, h2, h3, h4⟩
  · split at h
    · rename_i fn hf
      split at h
      · rename_i body hb
        exact body_sound ih hf hb h hs hargs
      · exact h.elim
    · exact h.elim

/-- A loop that stands at the head of a round. -/
def LW (P : Program) (c : Code) (Q : Exit → Act → World → Prop) (a : Act) (w : World) : Prop :=
  ∀ (b : Frame) (k : List Item) (cs : List Frame), ∃ e a' w', Q e a' w' ∧ Arrives P (lone (b.at a (.code c :: .inLoop c :: k)) cs w) b k cs e a' w'

theorem LW.loop {P : Program} {c : Code} {Q : Exit → Act → World → Prop} {a : Act} {w : World} (h : LW P c Q a w) : (Code.loop c).wp P Q a w :=
  fun b k cs => let ⟨e, a', w', q, r⟩ := h b k cs; ⟨e, a', w', q, .of_steps (.one step_loop) r⟩

theorem LW.round {P : Program} {c : Code} {Q : Exit → Act → World → Prop} {a : Act} {w : World} (h : c.wp P (Exit.then (LW P c Q) Q) a w) : LW P c Q a w := by
  intro b k cs
  obtain ⟨e, a₁, w₁, hq, harr⟩ := h b (.inLoop c :: k) cs
  cases e with
  | normal =>
    obtain ⟨e₂, a₂, w₂, hq₂, harr₂⟩ := hq b k cs
    exact ⟨e₂, a₂, w₂, hq₂, .of_steps (Steps.trans harr (.one step_inLoop)) harr₂⟩
  | exit id => exact ⟨_, a₁, w₁, hq, .pass (x := .inLoop c) rfl (fun _ _ => .inl (by simp)) harr⟩
  | goto l => exact ⟨_, a₁, w₁, hq, .pass (x := .inLoop c) rfl (fun _ _ => .inl (by simp)) harr⟩
  | ret => exact ⟨_, a₁, w₁, hq, .pass (x := .inLoop c) rfl (fun _ _ => .inl (by simp)) harr⟩
  | panic ch => exact ⟨_, a₁, w₁, hq, .pass (x := .inLoop c) rfl (fun _ _ => .inl (by simp)) harr⟩
  | outgrown => exact ⟨_, a₁, w₁, hq, .pass (x := .inLoop c) rfl (fun _ _ => .inl (by simp)) harr⟩

theorem LW.mono {P : Program} {c : Code} {Q Q' : Exit → Act → World → Prop} {a : Act} {w : World} (hq : ∀ e a w, Q e a w → Q' e a w) (h : LW P c Q a w) : LW P c Q' a w :=
  fun b k cs => let ⟨e, a', w', q, r⟩ := h b k cs; ⟨e, a', w', hq _ _ _ q, r⟩

def LoopSound (Γ : Ctx) (hk : Hooks) (n : Nat) : Prop := ∀ (f₀ : FuncId) (c : Code) (a : List SV) (K : SE → List SV → SS → T) (s : SS) (β : Nat → Nat) (w : World), hk.loops f₀ (codeKey c) = none →
  (xCode Γ.P hk n f₀ (.loop c) a K s).holds Γ → St Γ β s w → okL s.n a → LW Γ.P c (Post Γ β s a.length K) (actS β a) w

theorem xCode_sound' {hk : Hooks} : ∀ n, CodeSound Γ hk n ∧ LoopSound Γ hk n
  | 0 => ⟨fun f₀ c a K s β w h _ _ => h.elim, fun f₀ c a K s β w _ h _ _ => h.elim⟩
  | n + 1 => by
    obtain ⟨ih, ihl⟩ := xCode_sound' (hk := hk) n
    have hcall := callAt_sound (hk := hk) ih
    have hloop : LoopSound Γ hk (n + 1) := by
      intro f₀ body a K s β w hl h hs ha
      simp only [xCode, hl] at h
      have hround := ih f₀ body a _ s β w h hs ha
      refine LW.round (Code.wp_mono ?_ hround)
      rintro e a' w' ⟨e', vs, s', β', rfl, rfl, h2, h3, h4, h5⟩
      cases e' with
      | normal =>
        have := ihl f₀ body vs K s' β' w' hl h5 h2.st h3
        rw [h4] at this
        exact LW.mono (fun e a w hp => Post.ext h2 hp) this
      | exit i => exact ⟨.exit i, vs, s', β', rfl, rfl, h2, h3, h4, h5⟩
      | goto l => exact ⟨.goto l, vs, s', β', rfl, rfl, h2, h3, h4, h5⟩
      | ret => exact ⟨.ret, vs, s', β', rfl, rfl, h2, h3, h4, h5⟩
    refine ⟨?_, hloop⟩
    intro f₀ c a K s β w h hs ha
    cases c with
    | skip => exact wp_skip ⟨.normal, a, s, β, rfl, rfl, Ext.refl hs, ha, rfl, h⟩
    | label l => exact wp_label ⟨.normal, a, s, β, rfl, rfl, Ext.refl hs, ha, rfl, h⟩
    | ret => exact wp_ret ⟨.ret, a, s, β, rfl, rfl, Ext.refl hs, ha, rfl, h⟩
    | exit id => exact wp_exit ⟨.exit id, a, s, β, rfl, rfl, Ext.refl hs, ha, rfl, h⟩
    | seq x y =>
      simp only [xCode] at h
      refine wp_seq (Code.wp_mono ?_ (ih f₀ x a _ s β w h hs ha))
      rintro e a' w' ⟨e', vs, s', β', rfl, rfl, h2, h3, h4, h5⟩
      cases e' with
      | normal =>
        have := ih f₀ y vs K s' β' w' h5 h2.st h3
        rw [h4] at this
        exact Code.wp_mono (fun e a w hp => Post.ext h2 hp) this
      | exit i => exact ⟨.exit i, vs, s', β', rfl, rfl, h2, h3, h4, h5⟩
      | goto l => exact ⟨.goto l, vs, s', β', rfl, rfl, h2, h3, h4, h5⟩
      | ret => exact ⟨.ret, vs, s', β', rfl, rfl, h2, h3, h4, h5⟩
    | cond x t f =>
      simp only [xCode] at h
      split at h
      · rename_i b lit hev
        obtain ⟨e1, _⟩ := ev_sound hev hs ha
        refine wp_cond (t := b) (by rw [e1]; rfl) ?_
        have key : ∃ a', actS β a' = actS β a ∧ okL s.n a' ∧ a'.length = a.length ∧ (if b = true then xCode Γ.P hk n f₀ t a' K s else xCode Γ.P hk n f₀ f a' K s).holds Γ := by
          split at h
          · exact ⟨a, rfl, ha, rfl, h⟩
          · split at h
            · rename_i d
              obtain ⟨k1, k2⟩ := h
              simp only [ev, Option.some.injEq] at hev
              have hd : a[d]? = some (.bool b lit) := by
                rw [List.getD_eq_getElem?_getD] at hev
                cases hx : a[d]? with
                | none => rw [hx] at hev; simp [undefS] at hev
                | some v => rw [hx] at hev; simp at hev; rw [hev]
              refine ⟨know a d b, know_act hd, know_ok ha d b, know_length a d b, ?_⟩
              cases b
              · simpa using k2 rfl
              · simpa using k1 rfl
            · obtain ⟨k1, k2⟩ := h
              refine ⟨a, rfl, ha, rfl, ?_⟩
              cases b
              · simpa using k2 rfl
              · simpa using k1 rfl
        obtain ⟨a', e2, oka, la, key⟩ := key
        rw [← e2, ← la]
        cases b
        · exact ih f₀ f a' K s β w (by simpa using key) hs oka
        · exact ih f₀ t a' K s β w (by simpa using key) hs oka
      · exact h.elim
    | block id c =>
      simp only [xCode] at h
      refine wp_block (Code.wp_mono ?_ (ih f₀ c a _ s β w h hs ha))
      rintro e a' w' ⟨e', vs, s', β', rfl, rfl, h2, h3, h4, h5⟩
      cases e' with
      | normal => exact ⟨.normal, vs, s', β', rfl, rfl, h2, h3, h4, h5⟩
      | exit i =>
        simp only [SE.exit', Exit.inBlock]
        simp only at h5
        split at h5
        · rename_i hi
          rw [if_pos hi]
          exact ⟨.normal, vs, s', β', rfl, rfl, h2, h3, h4, h5⟩
        · rename_i hi
          rw [if_neg hi]
          exact ⟨.exit i, vs, s', β', rfl, rfl, h2, h3, h4, h5⟩
      | goto l => exact ⟨.goto l, vs, s', β', rfl, rfl, h2, h3, h4, h5⟩
      | ret => exact ⟨.ret, vs, s', β', rfl, rfl, h2, h3, h4, h5⟩
    | loop body =>
      cases hl : hk.loops f₀ (codeKey body) with
      | some lh =>
        simp only [xCode, hl] at h
        refine Code.wp_mono ?_ (h β w hs ha)
        rintro e a' w' (⟨x, β', bs, h1, h2, h3, h4, h5, h6⟩ | ⟨x, β', bs, h1, h2, h3, h4, h5, h6⟩)
        · exact ⟨_, _, _, β', h1, h2, h3, h4, h5, h6⟩
        · exact ⟨_, _, _, β', h1, h2, h3, h4, h5, h6⟩
      | none => exact (hloop f₀ body a K s β w hl h hs ha).loop
    | region id ops draw =>
      have fin : ∀ e a' w', PostN Γ β s a.length (fun a' s' => K .normal a' s') e a' w' → Post Γ β s a.length K e a' w' := by
        rintro e a' w' ⟨rfl, vs, s', β', h1, h2, h3, h4, h5⟩
        exact ⟨.normal, vs, s', β', rfl, h1, h2, h3, h4, h5⟩
      cases draw with
      | false =>
        simp only [xCode, Bool.false_eq_true, if_false] at h
        refine Code.wp_mono fin (wp_region_list ?_)
        exact xList_sound hcall _ _ _ _ _ _ h hs ha
      | true =>
        simp only [xCode, if_true] at h
        split at h
        · rename_i hc
          rw [Bool.and_eq_true] at hc
          exact Code.wp_mono fin (xDraw_sound hcall hc.1 hc.2 h hs ha)
        · exact h.elim
    | rangeFunc f p x y => exact (show False from h).elim
    | scope c => exact (show False from h).elim
    | goto l => exact (show False from h).elim
    | refuse r => exact (show False from h).elim

theorem xCode_sound {hk : Hooks} (n : Nat) : CodeSound Γ hk n := (xCode_sound' n).1

/-- A call of a function: what the executor's tree asks. -/
theorem xFunc_sound {hk : Hooks} {n : Nat} {f : FuncId} {args : List SV} (h : (xFunc Γ.P hk n f args s).holds Γ) (hs : St Γ β s w) (hargs : okL s.n args) :
    Calls Γ.P f (denL β args).toArray w fun e w' => ∃ v, e = .returned v ∧ Γ.Q .ret [v] w' := by
  unfold xFunc at h
  split at h
  · rename_i fn hf
    split at h
    · rename_i body hb
      refine (body_sound (k := fun v s' => .leaf .ret [v] s') (xCode_sound (hk := hk) n) hf hb h hs hargs).mono ?_
      rintro e w' ⟨v, s', β', rfl, h2, h3, h4⟩
      exact ⟨_, rfl, by simpa [denL] using h4 β' w' h2.st ⟨h3, trivial⟩⟩
    · exact h.elim
  · exact h.elim

end Go.Rx
end

section
/- Tools for proofs: a call from a tree, a hooked call, a loop by an invariant, frames. -/
set_option linter.unusedVariables false
set_option linter.unusedSimpArgs false
open Go.RowKit
namespace Go.Rx

/-! ### Starts -/

abbrev ctx (P : Program) (Q : SE → List Value → World → Prop) : Ctx := { P := P, β0 := id, n0 := 0, Q := Q }

/-- What is owed at a function's end. -/
def retQ (Q : Value → World → Prop) : SE → List Value → World → Prop := fun _ vs w => ∃ v, vs = [v] ∧ Q v w

theorem St.start (Γ : Ctx) (h0 : Γ.n0 = 0) (w : World) (β : Nat → Nat) : St Γ β (SS.at w) w where
  lt i hi := by simp [SS.at, SS.n] at hi
  inj i j hi := by simp [SS.at, SS.n] at hi
  at_ i o h := by simp [SS.at] at h
  ok i o h := by simp [SS.at] at h
  gl p hp := by simp [SS.at] at hp
  old _ := { fr := fun _ _ _ => rfl, sz := Nat.le_refl _, tape := rfl, os := rfl, out := rfl, pre := fun i b h => by simp [SS.at] at h, pren := by simp [SS.at],
             new := fun i _ hi => by simp [SS.at, SS.n] at hi }
  base i hi := by omega
  n0 := by omega

theorem calls_of_x {P : Program} {hk : Hooks} {n : Nat} {f : FuncId} {args : List SV} {w : World} {Q : Value → World → Prop} (hargs : okL 0 args)
    (h : (xFunc P hk n f args (SS.at w)).holds (ctx P (retQ Q))) : Calls P f (denL id args).toArray w fun e w' => ∃ v, e = .returned v ∧ Q v w' := by
  refine (xFunc_sound (Γ := ctx P (retQ Q)) (β := id) h (St.start _ rfl w id) hargs).mono ?_
  rintro e w' ⟨v, rfl, u, hu, hq⟩
  simp only [List.cons.injEq, and_true] at hu
  subst hu
  exact ⟨_, rfl, hq⟩

/-! ### What is known at a place -/

section
variable {Γ : Ctx} {β : Nat → Nat} {s : SS} {w : World}

theorem Old.belowB {B : Nat} {w1 : World} (h : Old β s w) (h0 : Below B w1 s.w0) (hB : B ≤ w1.heap.size) (hp : ∀ b ∈ s.pre, B ≤ b) : Below B w1 w where
  os := h.os.trans h0.os
  tape := h.tape.trans h0.tape
  output := h.out.trans h0.output
  size := Nat.le_trans h0.size h.sz
  block b hb := by
    have h1 := h.heap (b := b) (Nat.lt_of_lt_of_le (Nat.lt_of_lt_of_le hb hB) h0.size) (fun hm => by have := hp b hm; omega)
    exact h1.trans (h0.block b hb)

/-- The blocks that are tracked now. -/
def blocks (β : Nat → Nat) (n : Nat) : List Nat := (List.range n).map β

theorem blocks_ge {B : Nat} {w1 : World} (h : Old β s w) (h0 : Below B w1 s.w0) (hB : B ≤ w1.heap.size) (hp : ∀ b ∈ s.pre, B ≤ b) : ∀ b ∈ blocks β s.n, B ≤ b := by
  intro b hb
  simp only [blocks, List.mem_map, List.mem_range] at hb
  obtain ⟨i, hi, rfl⟩ := hb
  by_cases hl : i < s.pre.length
  · have h1 := h.pre i _ (List.getElem?_eq_getElem hl)
    rw [h1]
    exact hp _ (List.getElem_mem hl)
  · have := h.new i (by omega) hi
    have := h0.size
    omega

/-- Behind something that leaves what there was. -/
theorem St.rebase (h : St Γ β s w) {w' : World} (hb : Below w.heap.size w w') : St Γ β (reS s s.objs w' (blocks β s.n)) w' where
  lt i hi := Nat.lt_of_lt_of_le (h.lt i hi) hb.size
  inj := h.inj
  at_ i o ho := by
    rw [hb.block _ (h.lt i (lt_of_get ho))]
    exact h.at_ i o ho
  ok := h.ok
  gl := h.gl
  old _ := { fr := fun _ _ _ => rfl, sz := Nat.le_refl _, tape := rfl, os := rfl, out := rfl,
             pre := fun i b hi => by
               simp only [reS, blocks, List.getElem?_map] at hi
               cases hr : (List.range s.n)[i]? with
               | none => rw [hr] at hi; simp at hi
               | some j =>
                 rw [hr] at hi
                 have := (List.getElem?_eq_some_iff.1 hr)
                 obtain ⟨hlt, he⟩ := this
                 simp at he
                 subst he
                 simpa using hi
             pren := by simp [reS, blocks, SS.n]
             new := fun i hi hin => by simp [reS, blocks, SS.n] at hi hin; omega }
  base := h.base
  n0 := h.n0

/-- A hooked call that leaves what there was. -/
theorem holds_call {B : Nat} {w1 : World} {f : FuncId} {args : List SV} {X : Type} {out : X → SV × List SObj} {k : X → World → List Nat → T} {R : X → World → World → Prop}
    (hext : s.ext = true) (h0 : Below B w1 s.w0) (hB : B ≤ w1.heap.size) (hp : ∀ b ∈ s.pre, B ≤ b)
    (hout : ∀ x, (out x).2 = s.objs ∧ (out x).1.ok s.n)
    (hc : ∀ β w, St Γ β s w → Old β s w → Below B w1 w → Calls Γ.P f (denL β args).toArray w fun e w' => ∃ x, e = .returned ((out x).1.den β) ∧ Below w.heap.size w w' ∧ R x w w')
    (hk : ∀ x w w' bs, Below B w1 w → R x w w' → Below w.heap.size w w' → Below B w1 w' → (∀ b ∈ bs, B ≤ b) → (k x w' bs).holds Γ) : (T.call f args s X out k).holds Γ := by
  intro β w hs hargs
  have o := hs.old hext
  have hbw := o.belowB h0 hB hp
  refine (hc β w hs o hbw).mono ?_
  rintro e w' ⟨x, rfl, hb, hr⟩
  obtain ⟨ho1, ho2⟩ := hout x
  have hz := hbw.size
  refine ⟨x, β, blocks β s.n, rfl, ⟨?_, ?_, fun _ _ => rfl⟩, ?_, hk x w w' _ hbw hr hb (hbw.trans (hb.mono (Nat.le_trans hB hz))) (blocks_ge o h0 hB hp)⟩
  · rw [ho1]; exact hs.rebase hb
  · simp [reS, SS.n, ho1]
  · rw [ho1]; exact ho2

end

/-! ### Loops -/

def avals (vs : List Value) : Act := { tmps := vs.toArray, defers := [] }

theorem actS_avals (β : Nat → Nat) (a : List SV) : actS β a = avals (denL β a) := rfl

/-- What a round owes. -/
def roundQ (I : Nat → List Value → World → Prop) (QX : SE → List Value → World → Prop) (n : Nat) : SE → List Value → World → Prop := fun e vs w =>
  match e with
  | .normal => ∃ n', n' < n ∧ I n' vs w
  | e => QX e vs w

/-- The slots that matter; the others hold whatever they hold. -/
def mkFrame (live : List (Nat × SV)) (g : Nat → Value) : Nat → Nat → List SV
  | 0, _ => []
  | n + 1, i => (match live.lookup i with
    | some v => v
    | none => .raw (g i)) :: mkFrame live g n (i + 1)

theorem mkFrame_length (live : List (Nat × SV)) (g : Nat → Value) : ∀ n i, (mkFrame live g n i).length = n
  | 0, _ => rfl
  | n + 1, i => by simp [mkFrame, mkFrame_length live g n (i + 1)]

theorem mkFrame_den {live : List (Nat × SV)} {β : Nat → Nat} {vs : List Value} (h : ∀ p ∈ live, vs[p.1]? = some (p.2.den β)) : ∀ (n i : Nat), n + i = vs.length →
    denL β (mkFrame live (fun i => vs.getD i undef) n i) = vs.drop i
  | 0, i, hn => by rw [List.drop_of_length_le (by omega)]; rfl
  | n + 1, i, hn => by
    have hlt : i < vs.length := by omega
    rw [List.drop_eq_getElem_cons hlt]
    simp only [mkFrame, denL]
    rw [mkFrame_den h n (i + 1) (by omega)]
    congr 1
    cases hl : live.lookup i with
    | none => simp [SV.den, hlt]
    | some v =>
      obtain ⟨l1, l2, hl', _⟩ := List.lookup_eq_some_iff.1 hl
      have := h (i, v) (by rw [hl']; simp)
      rw [List.getElem?_eq_getElem hlt] at this
      simpa using this.symm

theorem mkFrame_eq {live : List (Nat × SV)} {β : Nat → Nat} {vs : List Value} {N : Nat} (hn : vs.length = N) (h : ∀ p ∈ live, vs[p.1]? = some (p.2.den β)) :
    vs = denL β (mkFrame live (fun i => vs.getD i undef) N 0) := by
  rw [mkFrame_den h N 0 (by omega)]; simp

theorem mkFrame_ok {live : List (Nat × SV)} {m : Nat} (h : okL m (live.map (·.2))) (g : Nat → Value) : ∀ n i, okL m (mkFrame live g n i)
  | 0, _ => trivial
  | n + 1, i => by
    refine ⟨?_, mkFrame_ok h g n (i + 1)⟩
    cases hl : live.lookup i with
    | none => trivial
    | some v =>
      obtain ⟨l1, l2, hl', _⟩ := List.lookup_eq_some_iff.1 hl
      rw [okL_iff] at h
      exact h v (by rw [hl']; simp)

/-- The slots that matter at an end. -/
def sel (L : SE → List Nat) (e : SE) (a : List SV) : List SV := (L e).map fun i => a.getD i undefS

def selV (L : SE → List Nat) (e : SE) (vs : List Value) : List Value := (L e).map fun i => vs.getD i undef

theorem sel_den (β : Nat → Nat) (L : SE → List Nat) (e : SE) (a : List SV) : denL β (sel L e a) = selV L e (denL β a) := by
  unfold sel selV
  rw [denL_map, List.map_map]
  apply List.map_congr_left
  intro i _
  simp only [Function.comp, List.getD_eq_getElem?_getD, denL_get]
  cases a[i]? with
  | none => rfl
  | some v => rfl

theorem sel_ok {n : Nat} {a : List SV} (h : okL n a) (L : SE → List Nat) (e : SE) : okL n (sel L e a) := by
  rw [okL_iff]
  intro v hv
  simp only [sel, List.mem_map] at hv
  obtain ⟨i, _, rfl⟩ := hv
  rw [List.getD_eq_getElem?_getD]
  cases hx : a[i]? with
  | none => trivial
  | some v => exact okL_get h hx

theorem okL_zip {n : Nat} {l : List Nat} {svs : List SV} (h : okL n svs) : okL n ((l.zip svs).map (·.2)) := by
  rw [okL_iff] at *
  intro v hv
  simp only [List.mem_map] at hv
  obtain ⟨p, hp, rfl⟩ := hv
  exact h p.2 (List.of_mem_zip hp).2

/-- A loop by an invariant on the slots that matter at a round's head; 'n' falls from round to round. -/
theorem lw_rule {P : Program} {body : Code} {L : SE → List Nat} {N : Nat} {J : Nat → List Value → World → Prop} {QX : SE → List Value → World → Prop}
    (hround : ∀ n lv w, J n lv w → lv.length = (L .normal).length → ∃ (hk : Hooks) (fuel : Nat) (f₀ : FuncId) (β0 : Nat → Nat) (n0 : Nat) (svs : List SV) (s : SS) (β : Nat → Nat), lv = denL β svs ∧
      St { P := P, β0 := β0, n0 := n0, Q := roundQ J QX n } β s w ∧ okL s.n svs ∧
      ∀ g, (xCode P hk fuel f₀ body (mkFrame ((L .normal).zip svs) g N 0) (fun e a s => .leaf e (sel L e a) s) s).holds { P := P, β0 := β0, n0 := n0, Q := roundQ J QX n })
    (hL : ∀ i ∈ L .normal, i < N) (hd : (L .normal).Nodup) :
    ∀ n vs w, vs.length = N → J n (selV L .normal vs) w → LW P body (fun e a' w' => ∃ e' vs', e = SE.exit' e' ∧ a' = avals vs' ∧ vs'.length = N ∧ QX e' (selV L e' vs') w') (avals vs) w := by
  intro n
  induction n using Nat.strongRecOn with
  | ind n ih =>
    intro vs w hN hJ
    obtain ⟨hk, fuel, f₀, β0, n0, svs, s, β, hlv, hst, hok, hh⟩ := hround n _ w hJ (by simp [selV])
    have hlen : svs.length = (L .normal).length := by
      have := congrArg List.length hlv
      simpa [selV, denL_length] using this.symm
    have hfr : vs = denL β (mkFrame ((L .normal).zip svs) (fun i => vs.getD i undef) N 0) := by
      refine mkFrame_eq hN fun p hp => ?_
      obtain ⟨k, hk1, hk2⟩ := List.mem_iff_getElem.1 hp
      simp only [List.length_zip] at hk1
      rw [List.getElem_zip] at hk2
      have h1 : (selV L .normal vs)[k]? = some (vs.getD p.1 undef) := by
        simp only [selV, List.getElem?_map]
        rw [List.getElem?_eq_getElem (show k < (L .normal).length by omega)]
        simp [← hk2]
      have h2 : (denL β svs)[k]? = some (p.2.den β) := by
        rw [denL_get, List.getElem?_eq_getElem (show k < svs.length by omega)]
        simp [← hk2]
      rw [hlv, h2] at h1
      have hlt : p.1 < vs.length := by
        rw [hN]
        refine hL _ ?_
        rw [← hk2]
        exact List.getElem_mem _
      rw [List.getElem?_eq_getElem hlt]
      simp only [Option.some.injEq] at h1
      rw [h1]
      simp [List.getD_eq_getElem?_getD, hlt]
    have hfok : okL s.n (mkFrame ((L .normal).zip svs) (fun i => vs.getD i undef) N 0) := mkFrame_ok (okL_zip hok) _ _ _
    have key := xCode_sound (Γ := { P := P, β0 := β0, n0 := n0, Q := roundQ J QX n }) fuel f₀ body _ _ s β w (hh (fun i => vs.getD i undef)) hst hfok
    rw [actS_avals, ← hfr] at key
    refine LW.round (Code.wp_mono ?_ key)
    rintro e a' w' ⟨e', vs', s', β', rfl, rfl, h2, h3, h4, h5⟩
    have hq := h5 β' w' h2.st (sel_ok h3 _ _)
    rw [sel_den] at hq
    have hl' : (denL β' vs').length = N := by rw [denL_length, h4, mkFrame_length]
    cases e' with
    | normal =>
      obtain ⟨n', hn, hI'⟩ := hq
      exact ih n' hn _ _ hl' hI'
    | exit i => exact ⟨.exit i, _, rfl, rfl, hl', hq⟩
    | goto i => exact ⟨.goto i, _, rfl, rfl, hl', hq⟩
    | ret => exact ⟨.ret, _, rfl, rfl, hl', hq⟩

/-- A frame of which some slots are known. -/
theorem frame_of {N : Nat} {vs : List Value} (hn : vs.length = N) {slots : List Nat} {svs : List SV} {β : Nat → Nat} (h : slots.map (fun i => vs.getD i undef) = denL β svs) (hlt : ∀ i ∈ slots, i < N) :
    vs = denL β (mkFrame (slots.zip svs) (fun i => vs.getD i undef) N 0) := by
  have hlen : svs.length = slots.length := by
    have := congrArg List.length h
    simpa [denL_length] using this.symm
  refine mkFrame_eq hn fun p hp => ?_
  obtain ⟨k, hk1, hk2⟩ := List.mem_iff_getElem.1 hp
  simp only [List.length_zip] at hk1
  rw [List.getElem_zip] at hk2
  have h1 : (slots.map (fun i => vs.getD i undef))[k]? = some (vs.getD p.1 undef) := by
    simp only [List.getElem?_map]
    rw [List.getElem?_eq_getElem (show k < slots.length by omega)]
    simp [← hk2]
  have h2 : (denL β svs)[k]? = some (p.2.den β) := by
    rw [denL_get, List.getElem?_eq_getElem (show k < svs.length by omega)]
    simp [← hk2]
  rw [h, h2] at h1
  have hlt' : p.1 < vs.length := by
    rw [hn]
    refine hlt _ ?_
    rw [← hk2]
    exact List.getElem_mem _
  rw [List.getElem?_eq_getElem hlt']
  simp only [Option.some.injEq] at h1
  rw [h1]
  simp [List.getD_eq_getElem?_getD, hlt']

/-- The loop's body with a key. -/
def findLoop (key : Nat) : Code → Option Code
  | .seq a b => (match findLoop key a with
    | some c => some c
    | none => findLoop key b)
  | .cond _ a b => (match findLoop key a with
    | some c => some c
    | none => findLoop key b)
  | .block _ c => findLoop key c
  | .loop c => if codeKey c = key then some c else findLoop key c
  | .scope c => findLoop key c
  | _ => none

def loopOf (P : Program) (f : FuncId) (key : Nat) : Code :=
  match P.funcs[f]? with
  | some fn => (match fn.body with
    | some b => (findLoop key b).getD .skip
    | none => .skip)
  | none => .skip

end Go.Rx
end

section
/- Short forms for a function's proof, and what lies in memory that came in. -/
set_option linter.unusedVariables false
set_option linter.unusedSimpArgs false
open Go.RowKit
namespace Go.Rx

theorem wrapi {n : Int} (h0 : 0 ≤ n) (h1 : n < 2 ^ 63) : IntKind.i64.wrap n = n := wrap64_of h0 h1

section
variable {Γ : Ctx} {s : SS} {w : World}

theorem holds_eq {t t' : T} (h : t = t') (h' : t'.holds Γ) : t.holds Γ := h ▸ h'
theorem splitT {b : Bool} {t f : T} (h1 : b = true → t.holds Γ) (h2 : b = false → f.holds Γ) : (T.split b t f).holds Γ := ⟨h1, h2⟩
theorem needT {p : Prop} {t : T} (h1 : p) (h2 : t.holds Γ) : (T.need p t).holds Γ := ⟨h1, h2⟩
theorem chooseT {q : Question} {k : Nat → T} (h : ∀ c, (∃ t, c = q.cut t) → (k c).holds Γ) : (T.choose q k).holds Γ := fun t => h _ ⟨t, rfl⟩
theorem bothT {a b : T} (h1 : a.holds Γ) (h2 : b.holds Γ) : (T.both a b).holds Γ := ⟨h1, h2⟩

/-- All that was there when the function began is as it was: 'w' is the world of that time. -/
structure Fine (w : World) (s : SS) : Prop where
  ext : s.ext = true
  below : Below w.heap.size w s.w0
  pre : ∀ b ∈ s.pre, w.heap.size ≤ b

theorem Fine.start (w : World) (objs : List SObj) : Fine w (SS.mk objs [] true w []) := ⟨rfl, Below.refl _ _, by simp⟩
theorem Fine.at (w : World) : Fine w (SS.at w) := ⟨rfl, Below.refl _ _, by simp [SS.at]⟩
theorem Fine.mk' {w w0 : World} {objs : List SObj} {bs : List Nat} (hb : Below w.heap.size w w0) (hp : ∀ b ∈ bs, w.heap.size ≤ b) : Fine w (SS.mk objs [] true w0 bs) := ⟨rfl, hb, hp⟩
theorem Fine.nil {w w0 : World} {objs : List SObj} (hb : Below w.heap.size w w0) : Fine w (SS.mk objs [] true w0 []) := ⟨rfl, hb, by simp⟩

theorem leafF {e : SE} {vs : List SV} (hf : Fine w s) (h : ∀ β w', St Γ β s w' → Below w.heap.size w w' → Γ.Q e (denL β vs) w') : (T.leaf e vs s).holds Γ :=
  fun β w' hs _ => h β w' hs ((hs.old hf.ext).belowB hf.below (Nat.le_refl _) hf.pre)

theorem callF {f : FuncId} {args : List SV} {X : Type} {out : X → SV × List SObj} {k : X → World → List Nat → T} {R : X → World → World → Prop} (hf : Fine w s)
    (hout : ∀ x, (out x).2 = s.objs ∧ (out x).1.ok s.n)
    (hc : ∀ β w0, St Γ β s w0 → Old β s w0 → Below w.heap.size w w0 → Calls Γ.P f (denL β args).toArray w0 fun e w' => ∃ x, e = .returned ((out x).1.den β) ∧ Below w0.heap.size w0 w' ∧ R x w0 w')
    (hk : ∀ x w0 w' bs, Below w.heap.size w w0 → R x w0 w' → Below w0.heap.size w0 w' → Below w.heap.size w w' → (∀ b ∈ bs, w.heap.size ≤ b) → (k x w' bs).holds Γ) : (T.call f args s X out k).holds Γ :=
  holds_call hf.ext hf.below (Nat.le_refl _) hf.pre hout hc hk

end

/-- A function that leaves what was there, as a contract. -/
def Ret (Q : Value → World → Prop) (w : World) (e : Ending) (w' : World) : Prop := ∃ v, e = .returned v ∧ Q v w' ∧ Below w.heap.size w w'

theorem funF {P : Program} {hk : Hooks} {n : Nat} {f : FuncId} {args : List SV} {w : World} {Q : Value → World → Prop} (hargs : okL 0 args)
    (h : (xFunc P hk n f args (SS.at w)).holds (ctx P (retQ fun v w' => Q v w' ∧ Below w.heap.size w w'))) : Calls P f (denL id args).toArray w (Ret Q w) :=
  (calls_of_x hargs h).mono fun _ _ ⟨v, he, h1, h2⟩ => ⟨v, he, h1, h2⟩

/-- The end of a function: what it hands back. -/
theorem retF {P : Program} {Q : Value → World → Prop} {w : World} {v : SV} {s : SS} (hf : Fine w s) (h : ∀ β w', St (ctx P (retQ fun v w' => Q v w' ∧ Below w.heap.size w w')) β s w' → Below w.heap.size w w' → Q (v.den β) w') :
    (T.leaf .ret [v] s).holds (ctx P (retQ fun v w' => Q v w' ∧ Below w.heap.size w w')) :=
  leafF hf fun β w' hs hb => ⟨_, rfl, h β w' hs hb, hb⟩

/-! ### Loops over closed slots -/

/-- What a round owes: the next round's slots, or an end. -/
def rQ {α : Type} (svs : α → List SV) (μ : α → Nat) (I : α → World → Prop) (E : SE → List Value → World → Prop) (w : World) (x : α) : SE → List Value → World → Prop := fun e lv w' =>
  match e with
  | .normal => ∃ y, μ y < μ x ∧ lv = denL id (svs y) ∧ I y w' ∧ Below w.heap.size w w'
  | e => E e lv w' ∧ Below w.heap.size w w'

theorem loopF {Γ : Ctx} {s : SS} {w : World} {f₁ : FuncId} {body : Code} {a : List SV} {X : Type} {out : X → SE × List SV × List SObj} {k : X → World → List Nat → T}
    {Y : Type} {out' : Y → SE × List SV × List SObj} {k' : Y → World → List Nat → T} (hf : Fine w s)
    (L : SE → List Nat) {α : Type} (svs : α → List SV) (μ : α → Nat) (I : World → α → World → Prop) (E : World → SE → List Value → World → Prop) (hk : α → Hooks) (fuel N : Nat) (hN : a.length = N)
    (hL : ∀ i ∈ L .normal, i < N) (hd : (L .normal).Nodup) (hok : ∀ x, okL 0 (svs x))
    (hround : ∀ w0 x w1 g, Below w.heap.size w w0 → I w0 x w1 → Below w0.heap.size w0 w1 → Below w.heap.size w w1 →
      (xCode Γ.P (hk x) fuel f₁ body (mkFrame ((L .normal).zip (svs x)) g N 0) (fun e a s => .leaf e (sel L e a) s) (SS.at w1)).holds (ctx Γ.P (rQ svs μ (I w0) (E w0) w0 x)))
    (hstart : ∀ β w0, St Γ β s w0 → Below w.heap.size w w0 → ∃ x, selV L .normal (denL β a) = denL id (svs x) ∧ I w0 x w0)
    (hend : ∀ β w0, St Γ β s w0 → Below w.heap.size w w0 → ∀ e vs w', E w0 e (selV L e vs) w' → Below w0.heap.size w0 w' → Below w.heap.size w w' → vs.length = N →
      (∃ x, e = (out x).1 ∧ vs = denL β (out x).2.1 ∧ (out x).2.2 = s.objs ∧ okL s.n (out x).2.1 ∧
        ∀ bs, (∀ b ∈ bs, w.heap.size ≤ b) → (k x w' bs).holds Γ) ∨
      (∃ x, e = (out' x).1 ∧ vs = denL β (out' x).2.1 ∧ (out' x).2.2 = s.objs ∧ okL s.n (out' x).2.1 ∧
        ∀ bs, (∀ b ∈ bs, w.heap.size ≤ b) → (k' x w' bs).holds Γ)) : (T.loop f₁ body a s X out k Y out' k').holds Γ := by
  subst hN
  intro β w0 hs ha
  have o := hs.old hf.ext
  have hbw := o.belowB hf.below (Nat.le_refl _) hf.pre
  have hz := hbw.size
  obtain ⟨x0, hx0, hI0⟩ := hstart β w0 hs hbw
  have hlw := lw_rule (P := Γ.P) (body := body) (L := L) (N := a.length)
    (J := fun n lv w' => ∃ x, n = μ x ∧ lv = denL id (svs x) ∧ I w0 x w' ∧ Below w0.heap.size w0 w')
    (QX := fun e lv w' => E w0 e lv w' ∧ Below w0.heap.size w0 w')
    (by
      rintro n lv w1 ⟨x, rfl, rfl, hI, hb⟩ _
      refine ⟨hk x, fuel, f₁, id, 0, svs x, SS.at w1, id, rfl, St.start _ rfl _ _, okL_mono (Nat.zero_le _) _ (hok x), fun g => ?_⟩
      have h := hround w0 x w1 g hbw hI hb (hbw.trans (hb.mono hz))
      have e1 : roundQ (fun n lv w' => ∃ x, n = μ x ∧ lv = denL id (svs x) ∧ I w0 x w' ∧ Below w0.heap.size w0 w') (fun e lv w' => E w0 e lv w' ∧ Below w0.heap.size w0 w') (μ x) = rQ svs μ (I w0) (E w0) w0 x := by
        funext e lv w'
        cases e with
        | normal =>
          simp only [roundQ, rQ, eq_iff_iff]
          constructor
          · rintro ⟨n', hn, y, rfl, h1, h2, h3⟩; exact ⟨y, hn, h1, h2, h3⟩
          · rintro ⟨y, hn, h1, h2, h3⟩; exact ⟨_, hn, y, rfl, h1, h2, h3⟩
        | exit i => rfl
        | goto i => rfl
        | ret => rfl
      rw [e1]
      exact h)
    hL hd (μ x0) _ w0 (denL_length β a) ⟨x0, rfl, hx0, hI0, Below.refl _ _⟩
  refine Code.wp_mono ?_ (LW.loop hlw)
  rintro e a' w' ⟨e', vs', rfl, rfl, hlen, hq, hb0⟩
  rcases hend β w0 hs hbw e' vs' w' hq hb0 (hbw.trans (hb0.mono hz)) hlen with ⟨x, rfl, rfl, ho, hok, hh⟩ | ⟨x, rfl, rfl, ho, hok, hh⟩
  · refine .inl ⟨x, β, blocks β s.n, rfl, rfl, ⟨?_, ?_, fun _ _ => rfl⟩, ?_, by rw [denL_length] at hlen; exact hlen, hh _ (blocks_ge o hf.below (Nat.le_refl _) hf.pre)⟩
    · rw [ho]; exact hs.rebase hb0
    · simp [reS, SS.n, ho]
    · rw [ho]; exact hok
  · refine .inr ⟨x, β, blocks β s.n, rfl, rfl, ⟨?_, ?_, fun _ _ => rfl⟩, ?_, by rw [denL_length] at hlen; exact hlen, hh _ (blocks_ge o hf.below (Nat.le_refl _) hf.pre)⟩
    · rw [ho]; exact hs.rebase hb0
    · simp [reS, SS.n, ho]
    · rw [ho]; exact hok

/-- A loop's two ends, each by its slots. -/
def mkHook (N : Nat) (X : Type) (e : SE) (sl : List Nat) (f : X → List SV) (Y : Type) (e' : SE) (sl' : List Nat) (f' : Y → List SV) : LoopHook where
  X := X × (Nat → Value)
  out := fun _ t x => (e, mkFrame (sl.zip (f x.1)) x.2 N 0, t.objs)
  Y := Y × (Nat → Value)
  out' := fun _ t x => (e', mkFrame (sl'.zip (f' x.1)) x.2 N 0, t.objs)

theorem mkF_ok {m : Nat} {slots : List Nat} {svs : List SV} (h : okL 0 svs) (g : Nat → Value) (n i : Nat) : okL m (mkFrame (slots.zip svs) g n i) :=
  mkFrame_ok (okL_zip (okL_mono (Nat.zero_le _) _ h)) g n i

theorem loopG {P : Program} {β0 : Nat → Nat} {n0 : Nat} {Q : SE → List Value → World → Prop} {s : SS} {w : World} {f₁ : FuncId} {body : Code} {a : List SV} {a0 : List SV} {s0 : SS}
    {N : Nat} {X : Type} {e₁ : SE} {sl : List Nat} {f : X → List SV} {Y : Type} {e₂ : SE} {sl' : List Nat} {f' : Y → List SV}
    {k : X × (Nat → Value) → World → List Nat → T} {k' : Y × (Nat → Value) → World → List Nat → T} (hf : Fine w s)
    (L : SE → List Nat) {α : Type} (svs : α → List SV) (μ : α → Nat) (I : World → α → World → Prop) (E : World → SE → List Value → World → Prop) (hk : α → Hooks) (fuel : Nat) (hN : a.length = N)
    (hL : ∀ i ∈ L .normal, i < N) (hd : (L .normal).Nodup) (hok : ∀ x, okL 0 (svs x)) (hobj : s0.objs = s.objs)
    (h1 : L e₁ = sl) (h2 : L e₂ = sl') (hl1 : ∀ i ∈ sl, i < N) (hl2 : ∀ i ∈ sl', i < N) (hf1 : ∀ x, okL 0 (f x)) (hf2 : ∀ x, okL 0 (f' x))
    (hround : ∀ w0 x w1 g, Below w.heap.size w w0 → I w0 x w1 → Below w0.heap.size w0 w1 → Below w.heap.size w w1 →
      (xCode P (hk x) fuel f₁ body (mkFrame ((L .normal).zip (svs x)) g N 0) (fun e a s => .leaf e (sel L e a) s) (SS.at w1)).holds (ctx P (rQ svs μ (I w0) (E w0) w0 x)))
    (hstart : ∀ β w0, St { P := P, β0 := β0, n0 := n0, Q := Q } β s w0 → Below w.heap.size w w0 → ∃ x, selV L .normal (denL β a) = denL id (svs x) ∧ I w0 x w0)
    (hend : ∀ β w0, St { P := P, β0 := β0, n0 := n0, Q := Q } β s w0 → Below w.heap.size w w0 → ∀ e lv w', E w0 e lv w' → Below w0.heap.size w0 w' → Below w.heap.size w w' →
      (∃ x, e = e₁ ∧ lv = denL id (f x) ∧ ∀ g bs, (∀ b ∈ bs, w.heap.size ≤ b) → (k (x, g) w' bs).holds { P := P, β0 := β0, n0 := n0, Q := Q }) ∨
      (∃ x, e = e₂ ∧ lv = denL id (f' x) ∧ ∀ g bs, (∀ b ∈ bs, w.heap.size ≤ b) → (k' (x, g) w' bs).holds { P := P, β0 := β0, n0 := n0, Q := Q })) :
    (T.loop f₁ body a s (LoopHook.X (mkHook N X e₁ sl f Y e₂ sl' f')) (LoopHook.out (mkHook N X e₁ sl f Y e₂ sl' f') a0 s0) k (LoopHook.Y (mkHook N X e₁ sl f Y e₂ sl' f')) (LoopHook.out' (mkHook N X e₁ sl f Y e₂ sl' f') a0 s0) k').holds
      { P := P, β0 := β0, n0 := n0, Q := Q } := by
  subst h1 h2
  refine loopF (Γ := { P := P, β0 := β0, n0 := n0, Q := Q }) hf L svs μ I E hk fuel N hN hL hd hok hround hstart ?_
  intro β w0 hst hb e vs w' hE hb0 hb1 hlen
  rcases hend β w0 hst hb e _ w' hE hb0 hb1 with ⟨x, rfl, hlv, hh⟩ | ⟨x, rfl, hlv, hh⟩
  · refine .inl ⟨(x, fun i => vs.getD i undef), rfl, ?_, hobj, mkF_ok (hf1 x) _ _ _, fun bs hbs => hh _ bs hbs⟩
    exact frame_of hlen (by rw [← denL_closed (hf1 x) β] at hlv; exact hlv) hl1
  · refine .inr ⟨(x, fun i => vs.getD i undef), rfl, ?_, hobj, mkF_ok (hf2 x) _ _ _, fun bs hbs => hh _ bs hbs⟩
    exact frame_of hlen (by rw [← denL_closed (hf2 x) β] at hlv; exact hlv) hl2

/-- A round goes on. -/
theorem nextF {P : Program} {α : Type} {svs : α → List SV} {μ : α → Nat} {I : α → World → Prop} {E : SE → List Value → World → Prop} {w : World} {x : α} {vs : List SV} {s : SS} (hf : Fine w s)
    (h : ∀ β w', St (ctx P (rQ svs μ I E w x)) β s w' → Below w.heap.size w w' → ∃ y, μ y < μ x ∧ denL β vs = denL id (svs y) ∧ I y w') : (T.leaf .normal vs s).holds (ctx P (rQ svs μ I E w x)) :=
  leafF hf fun β w' hs hb => let ⟨y, h1, h2, h3⟩ := h β w' hs hb; ⟨y, h1, h2, h3, hb⟩

/-- A round leaves the loop. -/
theorem exitF {P : Program} {α : Type} {svs : α → List SV} {μ : α → Nat} {I : α → World → Prop} {E : SE → List Value → World → Prop} {w : World} {x : α} {e : SE} {vs : List SV} {s : SS} (hf : Fine w s) (he : e ≠ .normal)
    (h : ∀ β w', St (ctx P (rQ svs μ I E w x)) β s w' → Below w.heap.size w w' → E e (denL β vs) w') : (T.leaf e vs s).holds (ctx P (rQ svs μ I E w x)) :=
  leafF hf fun β w' hs hb => by
    have := h β w' hs hb
    cases e with
    | normal => exact absurd rfl he
    | exit i => exact ⟨this, hb⟩
    | goto i => exact ⟨this, hb⟩
    | ret => exact ⟨this, hb⟩

/-! ### What lies in memory that came in -/

/-- Some things one behind the other; 'R' says what each is. -/
def SeqAt {α : Type} (R : Addr → α → Prop) (size B : Nat) (A : Option Addr) (n : Nat) (l : List α) : Prop :=
  n = l.length ∧ (0 < n → ∃ a, A = some a ∧ a.block < B ∧ ∀ i x, l[i]? = some x → R (a.add (i * size)) x)

theorem add_add (a : Addr) (i j : Nat) : (a.add i).add j = a.add (i + j) := by
  unfold Addr.add
  by_cases hi : i = 0 <;> by_cases hj : j = 0 <;> simp [hi, hj, Nat.add_assoc]

theorem add_zero (a : Addr) : a.add 0 = a := rfl

theorem below_cell {B : Nat} {w w' : World} (h : Below B w w') {a : Addr} (ha : a.block < B) : w'.cell? a = w.cell? a := by
  simp only [World.cell?, h.block _ ha]

theorem SeqAt.imp {α : Type} {R R' : Addr → α → Prop} {size B B' : Nat} {A : Option Addr} {n : Nat} {l : List α} (h : SeqAt R size B A n l) (hB : B ≤ B') (hR : ∀ a x, a.block < B → R a x → R' a x) : SeqAt R' size B' A n l :=
  ⟨h.1, fun hn => by
    obtain ⟨a, ha, hb, hx⟩ := h.2 hn
    exact ⟨a, ha, Nat.lt_of_lt_of_le hb hB, fun i x hi => hR _ _ (by rw [add_block]; exact hb) (hx i x hi)⟩⟩

theorem SeqAt.get {α : Type} {R : Addr → α → Prop} {size B : Nat} {A : Option Addr} {n : Nat} {l : List α} (h : SeqAt R size B A n l) {i : Nat} (hi : i < n) :
    ∃ a x, A = some a ∧ a.block < B ∧ l[i]? = some x ∧ R (a.add (i * size)) x := by
  obtain ⟨a, ha, hb, hx⟩ := h.2 (by omega)
  have hl : i < l.length := by have := h.1; omega
  exact ⟨a, l[i], ha, hb, List.getElem?_eq_getElem hl, hx i _ (List.getElem?_eq_getElem hl)⟩

/-- A slice of bytes. -/
def Bts (w : World) (B : Nat) (A : Option Addr) (n : Nat) (l : List UInt8) : Prop := SeqAt (fun a b => w.cell? a = some (.int .u8 (b.toNat : Int))) 1 B A n l

theorem Bts.below {w w' : World} {B B' : Nat} {A : Option Addr} {n : Nat} {l : List UInt8} (h : Bts w B A n l) (hb : Below B w w') (hB : B ≤ B') : Bts w' B' A n l :=
  h.imp hB fun a x ha hx => by rw [below_cell hb ha]; exact hx

theorem Bts.canBytes {w : World} {B : Nat} {A : Option Addr} {n : Nat} {l : List UInt8} (h : Bts w B A n l) (hB : B ≤ w.heap.size) {pre : List Nat} (hp : ∀ b ∈ pre, B ≤ b) : canBytes w pre A n := by
  rcases Nat.eq_zero_or_pos n with h0 | h0
  · exact .inl h0
  · obtain ⟨a, ha, hb, hx⟩ := h.2 h0
    refine .inr ⟨a, ha, by omega, fun hm => by have := hp _ hm; omega, fun i hi => ?_⟩
    have hl : i < l.length := by have := h.1; omega
    have := hx i _ (List.getElem?_eq_getElem hl)
    rw [Nat.mul_one] at this
    exact ⟨_, this⟩

theorem Bts.bytesAt {w : World} {B : Nat} {A : Option Addr} {n : Nat} {l : List UInt8} (h : Bts w B A n l) : bytesAt w A n = ⟨l.toArray⟩ := by
  unfold Rx.bytesAt
  congr 1
  apply congrArg
  apply List.ext_getElem?
  intro i
  have hn := h.1
  by_cases hi : i < n
  · obtain ⟨a, ha, hb, hx⟩ := h.2 (by omega)
    have hl : i < l.length := by omega
    have h1 := hx i _ (List.getElem?_eq_getElem hl)
    rw [Nat.mul_one] at h1
    simp [hi, ha, intAt, h1, hl]
  · rw [List.getElem?_eq_none (by simp; omega), List.getElem?_eq_none (by omega)]

theorem Bts.valsAt {w : World} {B : Nat} {A : Option Addr} {n : Nat} {l : List UInt8} (h : Bts w B A n l) : valsAt w A n = l.map fun b => Value.int .u8 (b.toNat : Int) := by
  unfold Rx.valsAt
  apply List.ext_getElem?
  intro i
  have hn := h.1
  by_cases hi : i < n
  · obtain ⟨a, ha, hb, hx⟩ := h.2 (by omega)
    have hl : i < l.length := by omega
    have h1 := hx i _ (List.getElem?_eq_getElem hl)
    rw [Nat.mul_one] at h1
    simp [hi, ha, intAt, h1, hl]
  · rw [List.getElem?_eq_none (by simp; omega), List.getElem?_eq_none (by simp; omega)]

end Go.Rx
end

section
/- Loops that write tracked memory. -/
set_option linter.unusedVariables false
set_option linter.unusedSimpArgs false
open Go.RowKit
namespace Go.Rx

/-- All that was there is as it was, but for some blocks. -/
structure Keep (bs : List Nat) (w w' : World) : Prop where
  os : w'.os = w.os
  tape : w'.tape = w.tape
  output : w'.output = w.output
  size : w.heap.size ≤ w'.heap.size
  block : ∀ b, b < w.heap.size → b ∉ bs → w'.heap[b]? = w.heap[b]?

theorem Keep.refl (bs : List Nat) (w : World) : Keep bs w w := ⟨rfl, rfl, rfl, Nat.le_refl _, fun _ _ _ => rfl⟩

theorem Keep.trans {bs : List Nat} {a b c : World} (h : Keep bs a b) (k : Keep bs b c) : Keep bs a c :=
  ⟨k.os.trans h.os, k.tape.trans h.tape, k.output.trans h.output, Nat.le_trans h.size k.size, fun i hi hn => (k.block i (Nat.lt_of_lt_of_le hi h.size) hn).trans (h.block i hi hn)⟩

theorem Keep.below {bs : List Nat} {B : Nat} {w w0 w' : World} (h : Keep bs w0 w') (h0 : Below B w w0) (hB : B ≤ w.heap.size) (hb : ∀ b ∈ bs, B ≤ b) : Below B w w' :=
  ⟨h.os.trans h0.os, h.tape.trans h0.tape, h.output.trans h0.output, Nat.le_trans h0.size h.size,
    fun i hi => (h.block i (Nat.lt_of_lt_of_le (Nat.lt_of_lt_of_le hi hB) h0.size) (fun hm => by have := hb i hm; omega)).trans (h0.block i hi)⟩

theorem Below.keep {w w' : World} (h : Below w.heap.size w w') (bs : List Nat) : Keep bs w w' := ⟨h.os, h.tape, h.output, h.size, fun b hb _ => h.block b hb⟩

/-- The tracked blocks hold these things. -/
def ObjsAt (β : Nat → Nat) (objs : List SObj) (w : World) : Prop := ∀ (i : Nat) (o : SObj), objs[i]? = some o → o.At β w.heap[β i]?

/-- 'w' is where a piece of work began; 'bs' are the blocks that it may write. -/
structure KFine (bs : List Nat) (w : World) (s : SS) : Prop where
  ext : s.ext = true
  keep : Keep bs w s.w0
  pre : ∀ b ∈ s.pre, b ∈ bs ∨ w.heap.size ≤ b

section
variable {Γ : Ctx} {s : SS} {w : World} {bs : List Nat}

theorem Old.keepK {β : Nat → Nat} {w' : World} (h : Old β s w') (hf : KFine bs w s) : Keep bs w w' where
  os := h.os.trans hf.keep.os
  tape := h.tape.trans hf.keep.tape
  output := h.out.trans hf.keep.output
  size := Nat.le_trans hf.keep.size h.sz
  block b hb hn := by
    have h1 := h.heap (b := b) (Nat.lt_of_lt_of_le hb hf.keep.size) (fun hm => by
      rcases hf.pre b hm with h2 | h2
      · exact hn h2
      · omega)
    exact h1.trans (hf.keep.block b hb hn)

theorem leafK {e : SE} {vs : List SV} (hf : KFine bs w s) (h : ∀ β w', St Γ β s w' → Keep bs w w' → Γ.Q e (denL β vs) w') : (T.leaf e vs s).holds Γ :=
  fun β w' hs _ => h β w' hs ((hs.old hf.ext).keepK hf)

theorem blocks_keep {β : Nat → Nat} {w' : World} (o : Old β s w') (hf : KFine bs w s) : ∀ b ∈ blocks β s.n, b ∈ bs ∨ w.heap.size ≤ b := by
  intro b hb
  simp only [blocks, List.mem_map, List.mem_range] at hb
  obtain ⟨i, hi, rfl⟩ := hb
  by_cases hl : i < s.pre.length
  · have h1 := o.pre i _ (List.getElem?_eq_getElem hl)
    rw [h1]
    exact hf.pre _ (List.getElem_mem hl)
  · have := o.new i (by omega) hi
    have := hf.keep.size
    exact .inr (by omega)

theorem callK {f : FuncId} {args : List SV} {X : Type} {out : X → SV × List SObj} {k : X → World → List Nat → T} {R : X → World → World → Prop} (hf : KFine bs w s)
    (hout : ∀ x, (out x).2 = s.objs ∧ (out x).1.ok s.n)
    (hc : ∀ β w0, St Γ β s w0 → Old β s w0 → Keep bs w w0 → Calls Γ.P f (denL β args).toArray w0 fun e w' => ∃ x, e = .returned ((out x).1.den β) ∧ Below w0.heap.size w0 w' ∧ R x w0 w')
    (hk : ∀ x w0 w' bs', Keep bs w w0 → R x w0 w' → Below w0.heap.size w0 w' → Keep bs w w' → (∀ b ∈ bs', b ∈ bs ∨ w.heap.size ≤ b) → (k x w' bs').holds Γ) : (T.call f args s X out k).holds Γ := by
  intro β w0 hs hargs
  have o := hs.old hf.ext
  have hbw := o.keepK hf
  refine (hc β w0 hs o hbw).mono ?_
  rintro e w' ⟨x, rfl, hb, hr⟩
  obtain ⟨ho1, ho2⟩ := hout x
  refine ⟨x, β, blocks β s.n, rfl, ⟨?_, ?_, fun _ _ => rfl⟩, ?_, hk x w0 w' _ hbw hr hb (hbw.trans (Below.keep hb bs)) (blocks_keep o hf)⟩
  · rw [ho1]; exact hs.rebase hb
  · simp [reS, SS.n, ho1]
  · rw [ho1]; exact ho2

end

/-- What a round owes that writes tracked memory. -/
def rQT {α X Y : Type} (β : Nat → Nat) (bs : List Nat) (svs : α → List SV) (objs : α → List SObj) (μ : α → Nat) (I : α → World → Prop) (e₁ : SE) (f : X → List SV) (o : X → List SObj) (E₁ : X → World → Prop)
    (e₂ : SE) (f' : Y → List SV) (o' : Y → List SObj) (E₂ : Y → World → Prop) (w : World) (x : α) : SE → List Value → World → Prop := fun e lv w' =>
  match e with
  | .normal => ∃ y, μ y < μ x ∧ lv = denL β (svs y) ∧ ObjsAt β (objs y) w' ∧ I y w' ∧ Keep bs w w'
  | e => ((∃ z, e = e₁ ∧ lv = denL β (f z) ∧ ObjsAt β (o z) w' ∧ E₁ z w') ∨ (∃ z, e = e₂ ∧ lv = denL β (f' z) ∧ ObjsAt β (o' z) w' ∧ E₂ z w')) ∧ Keep bs w w'

def mkHookT (N : Nat) (X : Type) (e : SE) (sl : List Nat) (f : X → List SV) (o : X → List SObj) (Y : Type) (e' : SE) (sl' : List Nat) (f' : Y → List SV) (o' : Y → List SObj) : LoopHook where
  X := X × (Nat → Value)
  out := fun _ _ x => (e, mkFrame (sl.zip (f x.1)) x.2 N 0, o x.1)
  Y := Y × (Nat → Value)
  out' := fun _ _ x => (e', mkFrame (sl'.zip (f' x.1)) x.2 N 0, o' x.1)

theorem mkFm_ok {m : Nat} {slots : List Nat} {svs : List SV} (h : okL m svs) (g : Nat → Value) (n i : Nat) : okL m (mkFrame (slots.zip svs) g n i) :=
  mkFrame_ok (okL_zip h) g n i

/-- The state at a round's head. -/
theorem St.head {P : Program} {β : Nat → Nat} {Q : SE → List Value → World → Prop} {objs : List SObj} {w : World} {m : Nat} (hm : objs.length = m) (hlt : ∀ i, i < m → β i < w.heap.size)
    (hinj : ∀ i j, i < m → j < m → β i = β j → i = j) (hat : ObjsAt β objs w) (hok : ∀ o ∈ objs, o.ok m) :
    St { P := P, β0 := β, n0 := m, Q := Q } β (SS.mk objs [] true w (blocks β m)) w where
  lt i hi := hlt i (by simpa [SS.n, hm] using hi)
  inj i j hi hj := hinj i j (by simpa [SS.n, hm] using hi) (by simpa [SS.n, hm] using hj)
  at_ := hat
  ok i o ho := by
    simp only [SS.n, hm]
    exact hok o (List.mem_of_getElem? ho)
  gl p hp := by simp at hp
  old _ := { fr := fun _ _ _ => rfl, sz := Nat.le_refl _, tape := rfl, os := rfl, out := rfl,
             pre := fun i b hi => by
               simp only [blocks, List.getElem?_map] at hi
               cases hr : (List.range m)[i]? with
               | none => rw [hr] at hi; simp at hi
               | some j =>
                 rw [hr] at hi
                 obtain ⟨hlt, he⟩ := List.getElem?_eq_some_iff.1 hr
                 simp at he
                 subst he
                 simpa using hi
             pren := by simp [blocks, SS.n, hm]
             new := fun i hi hin => by simp [blocks, SS.n, hm] at hi hin; omega }
  base i hi := rfl
  n0 := by simp [SS.n, hm]

/-- What the tracked blocks hold at a round's end. -/
theorem St.objsAt {P : Program} {β β' : Nat → Nat} {Q : SE → List Value → World → Prop} {s : SS} {w : World} {m : Nat} (h : St { P := P, β0 := β, n0 := m, Q := Q } β' s w) {objs : List SObj} (ho : s.objs.take m = objs) (hok : ∀ o ∈ objs, o.ok m) :
    ObjsAt β objs w := by
  intro i o hi
  have hi' : i < m := by
    have := (List.getElem?_eq_some_iff.1 hi).1
    rw [← ho] at this
    simp at this
    omega
  have hb : β' i = β i := h.base i hi'
  have h1 : s.objs[i]? = some o := by
    rw [← ho, List.getElem?_take_of_lt hi'] at hi
    exact hi
  have h2 := h.at_ i o h1
  rw [hb] at h2
  exact SObj.At_agree (n := m) (fun j hj => (h.base j hj).symm) (hok o (List.mem_of_getElem? hi)) h2

theorem loopT {P : Program} {β0 : Nat → Nat} {n0 : Nat} {Q : SE → List Value → World → Prop} {s : SS} {w : World} {f₁ : FuncId} {body : Code} {a : List SV} {a0 : List SV} {s0 : SS}
    {N : Nat} {X : Type} {e₁ : SE} {sl : List Nat} {f : X → List SV} {o : X → List SObj} {Y : Type} {e₂ : SE} {sl' : List Nat} {f' : Y → List SV} {o' : Y → List SObj}
    {k : X × (Nat → Value) → World → List Nat → T} {k' : Y × (Nat → Value) → World → List Nat → T} (hf : Fine w s) (hgl : s.gl = []) (m : Nat) (hm : s.n = m)
    (L : SE → List Nat) {α : Type} (svs : α → List SV) (objs : α → List SObj) (μ : α → Nat) (I : World → α → World → Prop) (E₁ : World → X → World → Prop) (E₂ : World → Y → World → Prop) (hk : α → Hooks) (fuel : Nat) (hN : a.length = N)
    (hL : ∀ i ∈ L .normal, i < N) (hd : (L .normal).Nodup) (hok : ∀ x, okL m (svs x)) (hobjs : ∀ x, (objs x).length = m ∧ ∀ o ∈ objs x, o.ok m)
    (h1 : L e₁ = sl) (h2 : L e₂ = sl') (hl1 : ∀ i ∈ sl, i < N) (hl2 : ∀ i ∈ sl', i < N) (hf1 : ∀ x, okL m (f x) ∧ (o x).length = m ∧ ∀ u ∈ o x, u.ok m) (hf2 : ∀ x, okL m (f' x) ∧ (o' x).length = m ∧ ∀ u ∈ o' x, u.ok m)
    (hround : ∀ β w0 x w1 g, Below w.heap.size w w0 → I w0 x w1 → Keep (blocks β m) w0 w1 → (∀ i, i < m → w.heap.size ≤ β i) →
      (xCode P (hk x) fuel f₁ body (mkFrame ((L .normal).zip (svs x)) g N 0) (fun e a s => .leaf e (sel L e a) s) (SS.mk (objs x) [] true w1 (blocks β m))).holds
        { P := P, β0 := β, n0 := m, Q := rQT β (blocks β m) svs objs μ (I w0) e₁ f o (E₁ w0) e₂ f' o' (E₂ w0) w0 x })
    (hstart : ∀ β w0, St { P := P, β0 := β0, n0 := n0, Q := Q } β s w0 → Below w.heap.size w w0 → ∃ x, selV L .normal (denL β a) = denL β (svs x) ∧ ObjsAt β (objs x) w0 ∧ I w0 x w0)
    (hend₁ : ∀ w0 x w', E₁ w0 x w' → Below w.heap.size w w0 → Below w.heap.size w w' → ∀ g bs, (∀ b ∈ bs, w.heap.size ≤ b) → (k (x, g) w' bs).holds { P := P, β0 := β0, n0 := n0, Q := Q })
    (hend₂ : ∀ w0 x w', E₂ w0 x w' → Below w.heap.size w w0 → Below w.heap.size w w' → ∀ g bs, (∀ b ∈ bs, w.heap.size ≤ b) → (k' (x, g) w' bs).holds { P := P, β0 := β0, n0 := n0, Q := Q }) :
    (T.loop f₁ body a s (LoopHook.X (mkHookT N X e₁ sl f o Y e₂ sl' f' o')) (LoopHook.out (mkHookT N X e₁ sl f o Y e₂ sl' f' o') a0 s0) k
      (LoopHook.Y (mkHookT N X e₁ sl f o Y e₂ sl' f' o')) (LoopHook.out' (mkHookT N X e₁ sl f o Y e₂ sl' f' o') a0 s0) k').holds { P := P, β0 := β0, n0 := n0, Q := Q } := by
  subst hN h1 h2 hm
  intro β w0 hs ha
  have od := hs.old hf.ext
  have hbw := od.belowB hf.below (Nat.le_refl _) hf.pre
  have hz := hbw.size
  have hbs := blocks_ge od hf.below (Nat.le_refl _) hf.pre
  have hge : ∀ i, i < s.n → w.heap.size ≤ β i := fun i hi => hbs _ (by simp only [blocks, List.mem_map, List.mem_range]; exact ⟨i, hi, rfl⟩)
  obtain ⟨x0, hx0, hat0, hI0⟩ := hstart β w0 hs hbw
  have hlw := lw_rule (P := P) (body := body) (L := L) (N := a.length)
    (J := fun n lv w' => ∃ x, n = μ x ∧ lv = denL β (svs x) ∧ ObjsAt β (objs x) w' ∧ I w0 x w' ∧ Keep (blocks β s.n) w0 w')
    (QX := fun e lv w' => ((∃ z, e = e₁ ∧ lv = denL β (f z) ∧ ObjsAt β (o z) w' ∧ E₁ w0 z w') ∨ (∃ z, e = e₂ ∧ lv = denL β (f' z) ∧ ObjsAt β (o' z) w' ∧ E₂ w0 z w')) ∧ Keep (blocks β s.n) w0 w')
    (by
      rintro n lv w1 ⟨x, rfl, rfl, hat, hI, hkp⟩ _
      refine ⟨hk x, fuel, f₁, β, s.n, svs x, SS.mk (objs x) [] true w1 (blocks β s.n), β, rfl, ?_, ?_, fun g => ?_⟩
      · exact St.head (hobjs x).1 (fun i hi => Nat.lt_of_lt_of_le (hs.lt i hi) hkp.size) hs.inj hat (hobjs x).2
      · have : (SS.mk (objs x) [] true w1 (blocks β s.n)).n = s.n := (hobjs x).1
        rw [this]; exact hok x
      · have h := hround β w0 x w1 g hbw hI hkp hge
        have e1 : roundQ (fun n lv w' => ∃ x, n = μ x ∧ lv = denL β (svs x) ∧ ObjsAt β (objs x) w' ∧ I w0 x w' ∧ Keep (blocks β s.n) w0 w')
            (fun e lv w' => ((∃ z, e = e₁ ∧ lv = denL β (f z) ∧ ObjsAt β (o z) w' ∧ E₁ w0 z w') ∨ (∃ z, e = e₂ ∧ lv = denL β (f' z) ∧ ObjsAt β (o' z) w' ∧ E₂ w0 z w')) ∧ Keep (blocks β s.n) w0 w') (μ x) =
            rQT β (blocks β s.n) svs objs μ (I w0) e₁ f o (E₁ w0) e₂ f' o' (E₂ w0) w0 x := by
          funext e lv w'
          cases e with
          | normal =>
            simp only [roundQ, rQT, eq_iff_iff]
            constructor
            · rintro ⟨n', hn, y, rfl, h1, h2, h3, h4⟩; exact ⟨y, hn, h1, h2, h3, h4⟩
            · rintro ⟨y, hn, h1, h2, h3, h4⟩; exact ⟨_, hn, y, rfl, h1, h2, h3, h4⟩
          | exit i => rfl
          | goto i => rfl
          | ret => rfl
        rw [e1]
        exact h)
    hL hd (μ x0) _ w0 (denL_length β a) ⟨x0, rfl, hx0, hat0, hI0, Keep.refl _ _⟩
  refine Code.wp_mono ?_ (LW.loop hlw)
  rintro e a' w' ⟨e', vs', rfl, rfl, hlen, hq, hkp⟩
  have hb' : Below w.heap.size w w' := hkp.below hbw (Nat.le_refl _) hbs
  have fin : ∀ objs' : List SObj, objs'.length = s.n → (∀ u ∈ objs', u.ok s.n) → ObjsAt β objs' w' → St { P := P, β0 := β0, n0 := n0, Q := Q } β (reS s objs' w' (blocks β s.n)) w' := by
    intro objs' hl hoks hat
    have hn : (reS s objs' w' (blocks β s.n)).n = s.n := hl
    exact { lt := fun i hi => Nat.lt_of_lt_of_le (hs.lt i (by rw [hn] at hi; exact hi)) hkp.size
            inj := fun i j hi hj => hs.inj i j (by rw [hn] at hi; exact hi) (by rw [hn] at hj; exact hj)
            at_ := hat
            ok := fun i u hu => by rw [hn]; exact hoks u (List.mem_of_getElem? hu)
            gl := fun p hp => by rw [show (reS s objs' w' (blocks β s.n)).gl = s.gl from rfl, hgl] at hp; simp at hp
            old := fun _ => { fr := fun _ _ _ => rfl, sz := Nat.le_refl _, tape := rfl, os := rfl, out := rfl,
                              pre := fun i b hi => by
                                simp only [reS, blocks, List.getElem?_map] at hi
                                cases hr : (List.range s.n)[i]? with
                                | none => rw [hr] at hi; simp at hi
                                | some j =>
                                  rw [hr] at hi
                                  obtain ⟨hlt, he⟩ := List.getElem?_eq_some_iff.1 hr
                                  simp at he
                                  subst he
                                  simpa using hi
                              pren := by rw [hn]; simp [reS, blocks]
                              new := fun i hi hin => by rw [hn] at hin; simp [reS, blocks] at hi; omega }
            base := hs.base
            n0 := by rw [hn]; exact hs.n0 }
  rcases hq with ⟨x, rfl, hlv, hat, hE⟩ | ⟨x, rfl, hlv, hat, hE⟩
  · obtain ⟨g1, g2, g3⟩ := hf1 x
    refine .inl ⟨(x, fun i => vs'.getD i undef), β, blocks β s.n, rfl, ?_, ⟨fin _ g2 g3 hat, ?_, fun _ _ => rfl⟩, ?_, mkFrame_length _ _ _ _, hend₁ w0 x w' hE hbw hb' _ _ hbs⟩
    · rw [actS_avals]
      congr 1
      exact frame_of hlen hlv hl1
    · show s.n ≤ (o x).length
      omega
    · show okL (o x).length _
      rw [g2]
      exact mkFm_ok g1 _ _ _
  · obtain ⟨g1, g2, g3⟩ := hf2 x
    refine .inr ⟨(x, fun i => vs'.getD i undef), β, blocks β s.n, rfl, ?_, ⟨fin _ g2 g3 hat, ?_, fun _ _ => rfl⟩, ?_, mkFrame_length _ _ _ _, hend₂ w0 x w' hE hbw hb' _ _ hbs⟩
    · rw [actS_avals]
      congr 1
      exact frame_of hlen hlv hl2
    · show s.n ≤ (o' x).length
      omega
    · show okL (o' x).length _
      rw [g2]
      exact mkFm_ok g1 _ _ _

end Go.Rx
end

section
/- Calls that hand back new memory. -/
set_option linter.unusedVariables false
set_option linter.unusedSimpArgs false
open Go.RowKit
namespace Go.Rx

/-- What a slice lies in was not there. -/
def Fresh (w : World) (A : Option Addr) : Prop := ∀ a, A = some a → w.heap.size ≤ a.block

section
variable {Γ : Ctx} {s : SS} {w : World}

theorem Fine.new {β : Nat → Nat} {w' : World} (hf : Fine w s) (o : Old β s w') : ∀ i, i < s.n → w.heap.size ≤ β i := fun i hi =>
  blocks_ge o hf.below (Nat.le_refl _) hf.pre _ (by simp only [blocks, List.mem_map, List.mem_range]; exact ⟨i, hi, rfl⟩)

/-- 'callF', and the tracked blocks are older than what the call makes. -/
theorem callN {f : FuncId} {args : List SV} {X : Type} {out : X → SV × List SObj} {k : X → World → List Nat → T} {R : X → World → World → Prop} (hf : Fine w s)
    (hout : ∀ x, (out x).2 = s.objs ∧ (out x).1.ok s.n)
    (hc : ∀ β w0, St Γ β s w0 → Old β s w0 → Below w.heap.size w w0 → Calls Γ.P f (denL β args).toArray w0 fun e w' => ∃ x, e = .returned ((out x).1.den β) ∧ Below w0.heap.size w0 w' ∧ R x w0 w')
    (hk : ∀ x w0 w' bs, Below w.heap.size w w0 → R x w0 w' → Below w0.heap.size w0 w' → Below w.heap.size w w' → (∀ b ∈ bs, w.heap.size ≤ b ∧ b < w0.heap.size) → (k x w' bs).holds Γ) : (T.call f args s X out k).holds Γ := by
  intro β w0 hs hargs
  have o := hs.old hf.ext
  have hbw := o.belowB hf.below (Nat.le_refl _) hf.pre
  refine (hc β w0 hs o hbw).mono ?_
  rintro e w' ⟨x, rfl, hb, hr⟩
  obtain ⟨ho1, ho2⟩ := hout x
  have hz := hbw.size
  refine ⟨x, β, blocks β s.n, rfl, ⟨?_, ?_, fun _ _ => rfl⟩, ?_, hk x w0 w' _ hbw hr hb (hbw.trans (hb.mono hz)) ?_⟩
  · rw [ho1]; exact hs.rebase hb
  · simp [reS, SS.n, ho1]
  · rw [ho1]; exact ho2
  · intro b hb
    refine ⟨blocks_ge o hf.below (Nat.le_refl _) hf.pre b hb, ?_⟩
    simp only [blocks, List.mem_map, List.mem_range] at hb
    obtain ⟨i, hi, rfl⟩ := hb
    exact hs.lt i hi

end

theorem Bts.canBytesN {w : World} {B : Nat} {A : Option Addr} {n : Nat} {l : List UInt8} (h : Bts w B A n l) (hB : B ≤ w.heap.size) {pre : List Nat} (hp : ∀ a, A = some a → a.block ∉ pre) : Rx.canBytes w pre A n := by
  rcases Nat.eq_zero_or_pos n with h0 | h0
  · exact .inl h0
  · obtain ⟨a, ha, hb, hx⟩ := h.2 h0
    refine .inr ⟨a, ha, by omega, hp a ha, fun i hi => ?_⟩
    have hl : i < l.length := by have := h.1; omega
    have := hx i _ (List.getElem?_eq_getElem hl)
    rw [Nat.mul_one] at this
    exact ⟨_, this⟩

theorem Fresh.notin {w : World} {A : Option Addr} (h : Fresh w A) {bs : List Nat} (hbs : ∀ b ∈ bs, b < w.heap.size) : ∀ a, A = some a → a.block ∉ bs := fun a ha hm => by
  have := h a ha
  have := hbs _ hm
  omega

theorem Old.bts {β : Nat → Nat} {s : SS} {w : World} (o : Old β s w) {A : Option Addr} {n B : Nat} {l : List UInt8} (h : Bts s.w0 B A n l) (hB : B ≤ s.w0.heap.size) (hp : ∀ a, A = some a → a.block ∉ s.pre) : Bts w B A n l := by
  refine ⟨h.1, fun hn => ?_⟩
  obtain ⟨a, ha, hb, hx⟩ := h.2 hn
  refine ⟨a, ha, hb, fun i x hi => ?_⟩
  have h1 := o.heap (b := a.block) (by omega) (hp a ha)
  have h2 := hx i x hi
  simp only [World.cell?, add_block, h1] at h2 ⊢
  exact h2

theorem Bts.mono {w : World} {A : Option Addr} {n B B' : Nat} {l : List UInt8} (h : Bts w B A n l) (hB : B ≤ B') : Bts w B' A n l := h.imp hB fun _ _ _ hx => hx

theorem Fresh.mono {w w' : World} {A : Option Addr} (h : Fresh w' A) (hz : w.heap.size ≤ w'.heap.size) : Fresh w A := fun a ha => Nat.le_trans hz (h a ha)

/-- Some bytes in a block. -/
theorem bts_of_ints {w : World} {b k B : Nat} {L : List Int} {e : TypeId} {fr : Nat × Nat} (h : w.heap[b]? = some (.cells (L.map (Value.int .u8)).toArray e fr)) (hL : ∀ v ∈ L, 0 ≤ v ∧ v < 256) (hk : k ≤ L.length) (hB : b < B) :
    Bts w B (some ⟨b, 0, none⟩) k ((L.take k).map fun v => UInt8.ofNat v.toNat) := by
  refine ⟨by simp; omega, fun _ => ⟨_, rfl, hB, fun i x hx => ?_⟩⟩
  rw [Nat.mul_one]
  simp only [List.getElem?_map, Option.map_eq_some_iff] at hx
  obtain ⟨v, hv, rfl⟩ := hx
  rw [List.getElem?_take] at hv
  split at hv
  · have hm := hL v (List.mem_of_getElem? hv)
    have ha : (Addr.add ⟨b, 0, none⟩ i) = ⟨b, i, none⟩ := by unfold Addr.add; split <;> simp_all
    rw [ha]
    simp only [World.cell?, h]
    simp [hv]
    omega
  · simp at hv

end Go.Rx
end

section
/- Loops that append to a slice, from nil. -/
set_option linter.unusedVariables false
set_option linter.unusedSimpArgs false
open Go.RowKit
namespace Go.Rx

/-- A slice in a block of its own that was not there, or nil; 'Ls' are its cells. -/
def AccAt (w0 w' : World) (et : TypeId) (size : Nat) (A : Option Addr) (k c : Nat) (Ls : List Value) : Prop :=
  (A = none ∧ k = 0 ∧ c = 0 ∧ Ls = []) ∨
  ∃ b, A = some ⟨b, 0, none⟩ ∧ w0.heap.size ≤ b ∧ b < w'.heap.size ∧ Ls.length = k * size ∧ k ≤ c ∧ ∃ rest, w'.heap[b]? = some (.cells (Ls ++ rest).toArray et (0, 0)) ∧ Ls.length + rest.length = c * size

theorem AccAt.len {w0 w' : World} {et : TypeId} {size : Nat} {A : Option Addr} {k c : Nat} {Ls : List Value} (h : AccAt w0 w' et size A k c Ls) : Ls.length = k * size := by
  rcases h with ⟨_, rfl, _, rfl⟩ | ⟨b, _, _, _, h, _⟩
  · simp
  · exact h

theorem AccAt.fresh {w0 w' : World} {et : TypeId} {size : Nat} {A : Option Addr} {k c : Nat} {Ls : List Value} (h : AccAt w0 w' et size A k c Ls) : Fresh w0 A := by
  rcases h with ⟨rfl, _⟩ | ⟨b, rfl, h, _⟩
  · intro a ha; cases ha
  · intro a ha; cases ha; exact h

theorem AccAt.lt {w0 w' : World} {et : TypeId} {size : Nat} {A : Option Addr} {k c : Nat} {Ls : List Value} (h : AccAt w0 w' et size A k c Ls) : ∀ a, A = some a → a.block < w'.heap.size := by
  rcases h with ⟨rfl, _⟩ | ⟨b, rfl, _, h, _⟩
  · intro a ha; cases ha
  · intro a ha; cases ha; exact h

/-- Its cells. -/
theorem AccAt.cell {w0 w' : World} {et : TypeId} {size : Nat} {A : Option Addr} {k c : Nat} {Ls : List Value} (h : AccAt w0 w' et size A k c Ls) (hk : 0 < k) : ∃ a, A = some a ∧ ∀ i v, Ls[i]? = some v → w'.cell? (a.add i) = some v := by
  rcases h with ⟨_, rfl, _⟩ | ⟨b, rfl, _, _, hl, _, rest, h, _⟩
  · omega
  · refine ⟨_, rfl, fun i v hi => ?_⟩
    have ha : (Addr.add ⟨b, 0, none⟩ i) = ⟨b, i, none⟩ := by unfold Addr.add; split <;> simp_all
    rw [ha]
    simp only [World.cell?, h]
    have := (List.getElem?_eq_some_iff.1 hi).1
    simp [List.getElem?_append_left this, hi]

/-- What a round of such a loop owes. -/
def rA {α : Type} (et : TypeId) (size : Nat) (svs : α → List SV) (μ : α → Nat) (I : α → Option Addr → List Value → World → Prop) (E : SE → List Value → World → Prop) (w0 : World) (x : α) : SE → List Value → World → Prop := fun e lv w' =>
  match e with
  | .normal => ∃ y A k c Ls, μ y < μ x ∧ lv = .slice A k c :: denL id (svs y) ∧ AccAt w0 w' et size A k c Ls ∧ I y A Ls w' ∧ Below w0.heap.size w0 w'
  | e => E e lv w' ∧ Below w0.heap.size w0 w'

theorem loopA {P : Program} {β0 : Nat → Nat} {n0 : Nat} {Q : SE → List Value → World → Prop} {s : SS} {w : World} {f₁ : FuncId} {body : Code} {a : List SV} {a0 : List SV} {s0 : SS}
    {N : Nat} {X : Type} {e₁ : SE} {sl : List Nat} {f : X → List SV} {Y : Type} {e₂ : SE} {sl' : List Nat} {f' : Y → List SV}
    {k : X × (Nat → Value) → World → List Nat → T} {k' : Y × (Nat → Value) → World → List Nat → T} (hf : Fine w s)
    (et : TypeId) (size : Nat) (L : SE → List Nat) {α : Type} (svs : α → List SV) (μ : α → Nat) (I : World → α → Option Addr → List Value → World → Prop) (E : World → SE → List Value → World → Prop) (hk : α → Hooks) (fuel : Nat) (hN : a.length = N)
    (hL : ∀ i ∈ L .normal, i < N) (hd : (L .normal).Nodup) (hok : ∀ x, okL 0 (svs x)) (hobj : s0.objs = s.objs)
    (h1 : L e₁ = sl) (h2 : L e₂ = sl') (hl1 : ∀ i ∈ sl, i < N) (hl2 : ∀ i ∈ sl', i < N) (hf1 : ∀ x, okL 0 (f x)) (hf2 : ∀ x, okL 0 (f' x))
    (hnil : ∀ w0 x w1 g, Below w.heap.size w w0 → I w0 x none [] w1 → Below w0.heap.size w0 w1 → Below w.heap.size w w1 →
      (xCode P (hk x) fuel f₁ body (mkFrame ((L .normal).zip (.one (.slice none 0 0) rfl :: svs x)) g N 0) (fun e a s => .leaf e (sel L e a) s) (SS.at w1)).holds (ctx P (rA et size svs μ (I w0) (E w0) w0 x)))
    (hrow : ∀ w0 x w1 g b kk c Ls, Below w.heap.size w w0 → I w0 x (some ⟨b, 0, none⟩) Ls w1 → Below w0.heap.size w0 w1 → Below w.heap.size w w1 → w0.heap.size ≤ b → b < w1.heap.size → Ls.length = kk * size → kk ≤ c →
      (xCode P (hk x) fuel f₁ body (mkFrame ((L .normal).zip (.slc 0 0 kk c false false :: svs x)) g N 0) (fun e a s => .leaf e (sel L e a) s) (SS.mk [.vals Ls (c * size) et 0 0] [] true w1 [b])).holds
        { P := P, β0 := fun _ => b, n0 := 1, Q := rA et size svs μ (I w0) (E w0) w0 x })
    (hstart : ∀ β w0, St { P := P, β0 := β0, n0 := n0, Q := Q } β s w0 → Below w.heap.size w w0 → ∃ x, selV L .normal (denL β a) = .slice none 0 0 :: denL id (svs x) ∧ I w0 x none [] w0)
    (hend : ∀ β w0, St { P := P, β0 := β0, n0 := n0, Q := Q } β s w0 → Below w.heap.size w w0 → ∀ e lv w', E w0 e lv w' → Below w0.heap.size w0 w' → Below w.heap.size w w' →
      (∃ x, e = e₁ ∧ lv = denL id (f x) ∧ ∀ g bs, (∀ b ∈ bs, w.heap.size ≤ b ∧ b < w0.heap.size) → (k (x, g) w' bs).holds { P := P, β0 := β0, n0 := n0, Q := Q }) ∨
      (∃ x, e = e₂ ∧ lv = denL id (f' x) ∧ ∀ g bs, (∀ b ∈ bs, w.heap.size ≤ b ∧ b < w0.heap.size) → (k' (x, g) w' bs).holds { P := P, β0 := β0, n0 := n0, Q := Q })) :
    (T.loop f₁ body a s (LoopHook.X (mkHook N X e₁ sl f Y e₂ sl' f')) (LoopHook.out (mkHook N X e₁ sl f Y e₂ sl' f') a0 s0) k (LoopHook.Y (mkHook N X e₁ sl f Y e₂ sl' f')) (LoopHook.out' (mkHook N X e₁ sl f Y e₂ sl' f') a0 s0) k').holds
      { P := P, β0 := β0, n0 := n0, Q := Q } := by
  subst h1 h2 hN
  intro β w0 hs ha
  have o := hs.old hf.ext
  have hbw := o.belowB hf.below (Nat.le_refl _) hf.pre
  have hz := hbw.size
  obtain ⟨x0, hx0, hI0⟩ := hstart β w0 hs hbw
  have hlw := lw_rule (P := P) (body := body) (L := L) (N := a.length)
    (J := fun n lv w' => ∃ x A kk c Ls, n = μ x ∧ lv = .slice A kk c :: denL id (svs x) ∧ AccAt w0 w' et size A kk c Ls ∧ I w0 x A Ls w' ∧ Below w0.heap.size w0 w')
    (QX := fun e lv w' => E w0 e lv w' ∧ Below w0.heap.size w0 w')
    (by
      rintro n lv w1 ⟨x, A, kk, c, Ls, rfl, rfl, hacc, hI, hb⟩ _
      have e1 : roundQ (fun n lv w' => ∃ x A kk c Ls, n = μ x ∧ lv = Value.slice A kk c :: denL id (svs x) ∧ AccAt w0 w' et size A kk c Ls ∧ I w0 x A Ls w' ∧ Below w0.heap.size w0 w')
          (fun e lv w' => E w0 e lv w' ∧ Below w0.heap.size w0 w') (μ x) = rA et size svs μ (I w0) (E w0) w0 x := by
        funext e lv w'
        cases e with
        | normal =>
          simp only [roundQ, rA, eq_iff_iff]
          constructor
          · rintro ⟨n', hn, y, A, k, c, Ls, rfl, h1, h2, h3, h4⟩; exact ⟨y, A, k, c, Ls, hn, h1, h2, h3, h4⟩
          · rintro ⟨y, A, k, c, Ls, hn, h1, h2, h3, h4⟩; exact ⟨_, hn, y, A, k, c, Ls, rfl, h1, h2, h3, h4⟩
        | exit i => rfl
        | goto i => rfl
        | ret => rfl
      rcases hacc with ⟨rfl, rfl, rfl, rfl⟩ | ⟨b, rfl, hb1, hb2, hl, hkc, rest, hc, hr⟩
      · refine ⟨hk x, fuel, f₁, id, 0, .one (.slice none 0 0) rfl :: svs x, SS.at w1, id, rfl, St.start _ rfl _ _, ⟨trivial, okL_mono (Nat.zero_le _) _ (hok x)⟩, fun g => ?_⟩
        rw [e1]
        exact hnil w0 x w1 g hbw hI hb (hbw.trans (hb.mono hz))
      · refine ⟨hk x, fuel, f₁, fun _ => b, 1, .slc 0 0 kk c false false :: svs x, SS.mk [.vals Ls (c * size) et 0 0] [] true w1 (blocks (fun _ => b) 1), fun _ => b, ?_, ?_, ?_, fun g => ?_⟩
        · simp only [denL, SV.den]
          rw [denL_closed (hok x) (fun _ => b)]
        · refine St.head rfl (fun i _ => hb2) (fun i j hi hj _ => by omega) ?_ (by simp [SObj.ok])
          intro i ob hi
          match i, hi with
          | 0, hi =>
            simp at hi
            subst hi
            exact ⟨rest, hc, hr⟩
          | i + 1, hi => simp at hi
        · exact ⟨by simp [SV.ok, SS.n], okL_mono (Nat.zero_le _) _ (hok x)⟩
        · rw [e1]
          exact hrow w0 x w1 g b kk c Ls hbw hI hb (hbw.trans (hb.mono hz)) hb1 hb2 hl hkc)
    hL hd (μ x0) _ w0 (denL_length β a) ⟨x0, none, 0, 0, [], rfl, hx0, .inl ⟨rfl, rfl, rfl, rfl⟩, hI0, Below.refl _ _⟩
  have hbs : ∀ b ∈ blocks β s.n, w.heap.size ≤ b ∧ b < w0.heap.size := fun b hb => by
    refine ⟨blocks_ge o hf.below (Nat.le_refl _) hf.pre b hb, ?_⟩
    simp only [blocks, List.mem_map, List.mem_range] at hb
    obtain ⟨i, hi, rfl⟩ := hb
    exact hs.lt i hi
  refine Code.wp_mono ?_ (LW.loop hlw)
  rintro e a' w' ⟨e', vs', rfl, rfl, hlen, hq, hb0⟩
  rcases hend β w0 hs hbw e' _ w' hq hb0 (hbw.trans (hb0.mono hz)) with ⟨x, rfl, hlv, hh⟩ | ⟨x, rfl, hlv, hh⟩
  · refine .inl ⟨(x, fun i => vs'.getD i undef), β, blocks β s.n, rfl, ?_, ⟨?_, ?_, fun _ _ => rfl⟩, ?_, mkFrame_length _ _ _ _, hh _ _ hbs⟩
    · rw [actS_avals]
      congr 1
      exact frame_of hlen (by rw [← denL_closed (hf1 x) β] at hlv; exact hlv) hl1
    · show St _ β (reS s s0.objs w' _) w'; rw [hobj]; exact hs.rebase hb0
    · show s.n ≤ s0.objs.length; rw [hobj]; exact Nat.le_refl _
    · exact mkF_ok (hf1 x) _ _ _
  · refine .inr ⟨(x, fun i => vs'.getD i undef), β, blocks β s.n, rfl, ?_, ⟨?_, ?_, fun _ _ => rfl⟩, ?_, mkFrame_length _ _ _ _, hh _ _ hbs⟩
    · rw [actS_avals]
      congr 1
      exact frame_of hlen (by rw [← denL_closed (hf2 x) β] at hlv; exact hlv) hl2
    · show St _ β (reS s s0.objs w' _) w'; rw [hobj]; exact hs.rebase hb0
    · show s.n ≤ s0.objs.length; rw [hobj]; exact Nat.le_refl _
    · exact mkF_ok (hf2 x) _ _ _

end Go.Rx
end

section
/- Memory of which a part is seen; rows of cells; calls in rounds that append. -/
set_option linter.unusedVariables false
set_option linter.unusedSimpArgs false
open Go.RowKit
namespace Go.Rx

open Classical in
/-- A world of which only some blocks are seen. -/
noncomputable def only (w : World) (S : Nat → Prop) : World := { w with heap := w.heap.mapIdx fun i o => if S i then o else .pending #[] 0 }

theorem cell_only (w : World) (S : Nat → Prop) (a : Addr) (v : Value) : (only w S).cell? a = some v ↔ S a.block ∧ w.cell? a = some v := by
  simp only [World.cell?, only, Array.getElem?_mapIdx]
  cases h : w.heap[a.block]? with
  | none => simp
  | some o =>
    simp only [Option.map_some]
    by_cases hs : S a.block
    · simp [hs]
    · simp [hs]

/-- What was made since. -/
noncomputable def since (w0 w : World) : World := only w fun b => w0.heap.size ≤ b

theorem cell_since (w0 w : World) (a : Addr) (v : Value) : (since w0 w).cell? a = some v ↔ w0.heap.size ≤ a.block ∧ w.cell? a = some v := cell_only _ _ _ _
/-- What was made since, but for a slice's block. -/
noncomputable def vis (w0 : World) (A : Option Addr) (w : World) : World := only w fun b => w0.heap.size ≤ b ∧ ∀ a, A = some a → a.block ≠ b

theorem cell_vis (w0 : World) (A : Option Addr) (w : World) (a : Addr) (v : Value) : (vis w0 A w).cell? a = some v ↔ (w0.heap.size ≤ a.block ∧ ∀ b, A = some b → b.block ≠ a.block) ∧ w.cell? a = some v := cell_only _ _ _ _

/-- What is in the one is in the other. -/
def Sub (B : Nat) (w w' : World) : Prop := ∀ a v, a.block < B → w.cell? a = some v → w'.cell? a = some v

theorem Sub.refl (B : Nat) (w : World) : Sub B w w := fun _ _ _ h => h
theorem Sub.trans {B : Nat} {a b c : World} (h : Sub B a b) (k : Sub B b c) : Sub B a c := fun x v hb hx => k x v hb (h x v hb hx)
theorem Sub.mono {B B' : Nat} {w w' : World} (h : Sub B w w') (hB : B' ≤ B) : Sub B' w w' := fun x v hb hx => h x v (by omega) hx
theorem Below.sub {B : Nat} {w w' : World} (h : Below B w w') : Sub B w w' := fun a v hb hx => by rw [below_cell h hb]; exact hx
theorem since_sub (w0 w : World) (B : Nat) : Sub B (since w0 w) w := fun a v _ h => ((cell_since _ _ _ _).1 h).2
theorem vis_since (w0 w : World) (A : Option Addr) (B : Nat) : Sub B (vis w0 A w) (since w0 w) := fun a v hb hx => by
  rw [cell_vis] at hx
  rw [cell_since]
  exact ⟨hx.1.1, hx.2⟩

theorem Bts.sub {w w' : World} {B B' : Nat} {A : Option Addr} {n : Nat} {l : List UInt8} (h : Bts w B A n l) (hs : Sub B w w') (hB : B ≤ B') : Bts w' B' A n l :=
  h.imp hB fun a x ha hx => hs _ _ ha hx

/-! ### Rows -/

/-- Some cells for each of some things, one behind the other. -/
inductive Row {α : Type} (R : α → List Value → Prop) : List α → List Value → Prop
  | nil : Row R [] []
  | snoc {l : List α} {L : List Value} {x : α} {vs : List Value} : Row R l L → R x vs → Row R (l ++ [x]) (L ++ vs)

theorem Row.imp {α : Type} {R R' : α → List Value → Prop} {l : List α} {L : List Value} (h : Row R l L) (hi : ∀ x vs, R x vs → R' x vs) : Row R' l L := by
  induction h with
  | nil => exact .nil
  | snoc _ hr ih => exact .snoc ih (hi _ _ hr)

theorem Row.len {α : Type} {R : α → List Value → Prop} {size : Nat} (hs : ∀ x vs, R x vs → vs.length = size) {l : List α} {L : List Value} (h : Row R l L) : L.length = l.length * size := by
  induction h with
  | nil => simp
  | snoc _ hr ih => simp [ih, hs _ _ hr, Nat.add_mul]

theorem Row.get {α : Type} {R : α → List Value → Prop} {size : Nat} (hs : ∀ x vs, R x vs → vs.length = size) {l : List α} {L : List Value} (h : Row R l L) :
    ∀ i x, l[i]? = some x → ∃ vs, R x vs ∧ ∀ j v, vs[j]? = some v → L[i * size + j]? = some v := by
  induction h with
  | nil => intro i x h; simp at h
  | @snoc l L y vs hl hr ih =>
    intro i x hi
    have hlen := hl.len hs
    by_cases h : i < l.length
    · rw [List.getElem?_append_left h] at hi
      obtain ⟨us, h1, h2⟩ := ih i x hi
      refine ⟨us, h1, fun j v hj => ?_⟩
      have h3 := h2 j v hj
      rw [List.getElem?_append_left (List.getElem?_eq_some_iff.1 h3).1]
      exact h3
    · rw [List.getElem?_append_right (by omega)] at hi
      have h1 : i = l.length := by
        have := (List.getElem?_eq_some_iff.1 hi).1
        simp at this
        omega
      subst h1
      simp at hi
      subst hi
      refine ⟨vs, hr, fun j v hj => ?_⟩
      rw [List.getElem?_append_right (by omega), hlen]
      simpa using hj

/-- A thing's cells in memory. -/
def CellsAt {α : Type} (R : α → List Value → Prop) (w : World) (B : Nat) (a : Addr) (x : α) : Prop := a.block < B ∧ ∃ vs, R x vs ∧ ∀ j v, vs[j]? = some v → w.cell? (a.add j) = some v

theorem CellsAt.sub {α : Type} {R R' : α → List Value → Prop} {w w' : World} {B B' : Nat} {a : Addr} {x : α} (h : CellsAt R w B a x) (hs : Sub B w w') (hB : B ≤ B') (hR : ∀ x vs, R x vs → R' x vs) : CellsAt R' w' B' a x := by
  obtain ⟨h1, vs, h2, h3⟩ := h
  exact ⟨by omega, vs, hR _ _ h2, fun j v hj => hs _ _ (by rw [add_block]; exact h1) (h3 j v hj)⟩

theorem seq_of_row {α : Type} {R : α → List Value → Prop} {w0 w' : World} {et : TypeId} {size : Nat} {A : Option Addr} {k c : Nat} {l : List α} {L : List Value} {S : Nat → Prop} (h : AccAt w0 w' et size A k c L) (hr : Row R l L) (hs : ∀ x vs, R x vs → vs.length = size)
    (hz : 0 < size) (hS : ∀ a, A = some a → S a.block) : SeqAt (CellsAt R (only w' S) w'.heap.size) size w'.heap.size A k l := by
  have h1 := hr.len hs
  have h2 := h.len
  have hk : k = l.length := by
    rw [h1] at h2
    exact (Nat.eq_of_mul_eq_mul_right hz h2).symm
  refine ⟨hk, fun hk0 => ?_⟩
  obtain ⟨a, ha, hc⟩ := h.cell hk0
  refine ⟨a, ha, h.lt a ha, fun i x hi => ?_⟩
  obtain ⟨vs, hv1, hv2⟩ := hr.get hs i x hi
  refine ⟨by rw [add_block]; exact h.lt a ha, vs, hv1, fun j v hj => ?_⟩
  rw [cell_only, add_add]
  exact ⟨by rw [add_block]; exact hS a ha, hc _ _ (hv2 j v hj)⟩

/-! ### Rounds that append -/

section
variable {Γ : Ctx} {s : SS} {w : World} {bs : List Nat}

/-- 'callK', and the tracked blocks are older than what the call makes. -/
theorem callKN {f : FuncId} {args : List SV} {X : Type} {out : X → SV × List SObj} {k : X → World → List Nat → T} {R : X → World → World → Prop} (hf : KFine bs w s)
    (hout : ∀ x, (out x).2 = s.objs ∧ (out x).1.ok s.n)
    (hc : ∀ β w0, St Γ β s w0 → Old β s w0 → Keep bs w w0 → Calls Γ.P f (denL β args).toArray w0 fun e w' => ∃ x, e = .returned ((out x).1.den β) ∧ Below w0.heap.size w0 w' ∧ R x w0 w')
    (hk : ∀ x w0 w' bs', Keep bs w w0 → R x w0 w' → Below w0.heap.size w0 w' → Keep bs w w' → (∀ b ∈ bs', (b ∈ bs ∨ w.heap.size ≤ b) ∧ b < w0.heap.size) → (k x w' bs').holds Γ) : (T.call f args s X out k).holds Γ := by
  intro β w0 hs hargs
  have o := hs.old hf.ext
  have hbw := o.keepK hf
  refine (hc β w0 hs o hbw).mono ?_
  rintro e w' ⟨x, rfl, hb, hr⟩
  obtain ⟨ho1, ho2⟩ := hout x
  refine ⟨x, β, blocks β s.n, rfl, ⟨?_, ?_, fun _ _ => rfl⟩, ?_, hk x w0 w' _ hbw hr hb (hbw.trans (Below.keep hb bs)) fun b hb => ⟨blocks_keep o hf b hb, ?_⟩⟩
  · rw [ho1]; exact hs.rebase hb
  · simp [reS, SS.n, ho1]
  · rw [ho1]; exact ho2
  · simp only [blocks, List.mem_map, List.mem_range] at hb
    obtain ⟨i, hi, rfl⟩ := hb
    exact hs.lt i hi

theorem Old.pos {β : Nat → Nat} {w' : World} (o : Old β s w') {i : Nat} (hi : i < s.n) : β i ∈ s.pre ∨ s.w0.heap.size ≤ β i := by
  by_cases hl : i < s.pre.length
  · have h1 := o.pre i _ (List.getElem?_eq_getElem hl)
    rw [h1]
    exact .inl (List.getElem_mem hl)
  · exact .inr (o.new i (by omega) hi)

end

/-- The row so far is seen as before. -/
theorem vis_keep {w0 w1 w' : World} {A A' : Option Addr} {bs : List Nat} (h : Keep bs w1 w') (hA : ∀ b ∈ bs, ∃ a, A = some a ∧ a.block = b) (hA' : ∀ a', A' = some a' → (a'.block ∈ bs ∨ w1.heap.size ≤ a'.block)) : Sub w1.heap.size (vis w0 A w1) (vis w0 A' w') := by
  intro a v hb hx
  rw [cell_vis] at hx ⊢
  have hn : a.block ∉ bs := fun hm => by
    obtain ⟨a1, h1, h2⟩ := hA _ hm
    exact hx.1.2 a1 h1 h2
  refine ⟨⟨hx.1.1, fun a' ha' he => ?_⟩, ?_⟩
  · rcases hA' a' ha' with h1 | h1
    · exact hn (he ▸ h1)
    · omega
  · simp only [World.cell?, h.block _ hb hn] at hx ⊢
    exact hx.2

/-- What a call made is seen at the round's end. -/
theorem vis_new {w0 wc w2 w' : World} {A' : Option Addr} {β : Nat → Nat} {s : SS} (o : Old β s w') (hw : s.w0 = w2) (hp : ∀ b ∈ s.pre, b < wc.heap.size) (h0 : w0.heap.size ≤ wc.heap.size) (hA' : ∀ a', A' = some a' → (a'.block < wc.heap.size ∨ w2.heap.size ≤ a'.block)) :
    Sub w2.heap.size (since wc w2) (vis w0 A' w') := by
  subst hw
  intro a v hb hx
  rw [cell_since] at hx
  rw [cell_vis]
  refine ⟨⟨by omega, fun a' ha' he => ?_⟩, ?_⟩
  · rcases hA' a' ha' with h1 | h1 <;> omega
  · rw [o.cell hb fun hm => by have := hp _ hm; omega]
    exact hx.2

/-- A round's end that has appended something to a row. -/
theorem accNext {γ : Type} {R : World → Nat → γ → List Value → Prop} (hsub : ∀ (B B' : Nat) (a b : World) x vs, Sub B a b → B ≤ B' → R a B x vs → R b B' x vs) {Γ : Ctx} {w0 w1 wc w2 w' : World} {A : Option Addr} {bs : List Nat} {β : Nat → Nat} {s : SS} {l : List γ} {i : Nat} {x : γ} {Ls vs : List Value}
    (hx : l[i]? = some x) (hrow : Row (R (vis w0 A w1) w1.heap.size) (l.take i) Ls) (hnew : R (since wc w2) w2.heap.size x vs) (hst : St Γ β s w') (hext : s.ext = true) (hw : s.w0 = w2) (hpre : ∀ b ∈ s.pre, (b ∈ bs ∨ w1.heap.size ≤ b) ∧ b < wc.heap.size)
    (hA : ∀ b ∈ bs, ∃ a, A = some a ∧ a.block = b ∧ w0.heap.size ≤ b) (hb0 : Below w0.heap.size w0 w1) (hk : Keep bs w1 w') (h1c : w1.heap.size ≤ wc.heap.size) (hc2 : wc.heap.size ≤ w2.heap.size) (idx : Nat) (hidx : idx < s.n) :
    Row (R (vis w0 (some ⟨β idx, 0, none⟩) w') w'.heap.size) (l.take (i + 1)) (Ls ++ vs) ∧ w0.heap.size ≤ β idx ∧ β idx < w'.heap.size ∧ Below w0.heap.size w0 w' := by
  have o := hst.old hext
  have hp := o.pos hidx
  rw [hw] at hp
  have hz := hb0.size
  have hsz := o.sz
  rw [hw] at hsz
  refine ⟨?_, ?_, hst.lt idx hidx, hk.below hb0 (Nat.le_refl _) fun b hb => (hA b hb).choose_spec.2.2⟩
  · rw [List.take_add_one, hx]
    refine .snoc (hrow.imp fun y us h => hsub _ _ _ _ _ _ (vis_keep hk (fun b hb => ?_) fun a' ha' => ?_) hk.size h) (hsub _ _ _ _ _ _ (vis_new o hw (fun b hb => (hpre b hb).2) (by omega) fun a' ha' => ?_) hsz hnew)
    · obtain ⟨a, h1, h2, _⟩ := hA b hb
      exact ⟨a, h1, h2⟩
    · cases ha'
      rcases hp with h | h
      · exact (hpre _ h).1
      · exact .inr (by show _ ≤ β idx; omega)
    · cases ha'
      rcases hp with h | h
      · exact .inl (hpre _ h).2
      · exact .inr h
  · rcases hp with h | h
    · rcases (hpre _ h).1 with h2 | h2
      · exact (hA _ h2).choose_spec.2.2
      · omega
    · omega

/-- What was made in a loop or a call is seen at a function's end. -/
theorem since_old {w w0 w1 w' : World} {β : Nat → Nat} {s : SS} (o : Old β s w') (hw : s.w0 = w1) (hp : ∀ b ∈ s.pre, b < w0.heap.size) (h0 : w.heap.size ≤ w0.heap.size) : Sub w1.heap.size (since w0 w1) (since w w') := by
  subst hw
  intro a v hb hx
  rw [cell_since] at hx ⊢
  refine ⟨by omega, ?_⟩
  rw [o.cell hb fun hm => by have := hp _ hm; omega]
  exact hx.2

theorem Keep.belowB {bs : List Nat} {B : Nat} {w w' : World} (h : Keep bs w w') (hB : B ≤ w.heap.size) (hb : ∀ b ∈ bs, B ≤ b) : Below B w w' := h.below (Below.refl B w) hB hb

theorem cut_append {need a e t : Nat} : need ≤ (Question.appendCap need a e).cut t := by
  simp only [Question.cut]
  exact Nat.le_add_right _ _

end Go.Rx
end

section
/- Rounds that append one thing to a row: their ends. -/
set_option linter.unusedVariables false
set_option linter.unusedSimpArgs false
open Go.RowKit
namespace Go.Rx

theorem splitD {Γ : Ctx} {p : Prop} [Decidable p] {t f : T} (h1 : p → t.holds Γ) (h2 : ¬ p → f.holds Γ) : (T.split (decide p) t f).holds Γ :=
  splitT (fun h => h1 (of_decide_eq_true h)) (fun h => h2 (of_decide_eq_false h))

theorem i64max : IntKind.i64.max = 9223372036854775807 := by decide

/-- Facts about things that last while memory grows. -/
structure Lasts {γ : Type} (R : World → Nat → γ → List Value → Prop) (size : Nat) : Prop where
  sub : ∀ (B B' : Nat) (a b : World) x vs, Sub B a b → B ≤ B' → R a B x vs → R b B' x vs
  len : ∀ w B x vs, R w B x vs → vs.length = size
  pos : 0 < size

/-- The invariant of a loop that makes a row of the first things of a list. -/
def IR {γ : Type} (R : World → Nat → γ → List Value → Prop) (l : List γ) (n : Nat) (w0 : World) (i : Nat) (A : Option Addr) (Ls : List Value) (w1 : World) : Prop := i ≤ n ∧ Row (R (vis w0 A w1) w1.heap.size) (l.take i) Ls

/-- Things in a row. -/
def RowAt {γ : Type} (R : World → Nat → γ → List Value → Prop) (size : Nat) (w : World) (B : Nat) (A : Option Addr) (k : Nat) (l : List γ) : Prop := SeqAt (CellsAt (R w B) w B) size B A k l

theorem RowAt.sub {γ : Type} {R : World → Nat → γ → List Value → Prop} {size : Nat} (hR : Lasts R size) {w w' : World} {B B' : Nat} {A : Option Addr} {n : Nat} {l : List γ} (h : RowAt R size w B A n l) (hs : Sub B w w') (hB : B ≤ B') : RowAt R size w' B' A n l :=
  h.imp hB fun a x _ hx => hx.sub hs hB fun x vs => hR.sub _ _ _ _ x vs hs hB

/-- Its end. -/
def ER {γ : Type} (R : World → Nat → γ → List Value → Prop) (size : Nat) (l : List γ) (w0 : World) (e : SE) (lv : List Value) (w' : World) : Prop :=
  e = .exit 0 ∧ ∃ A k c, lv = [.slice A k c] ∧ RowAt R size (since w0 w') w'.heap.size A k l

section
variable {P : Program} {γ : Type} {R : World → Nat → γ → List Value → Prop} {size : Nat} {et : TypeId} {w0 w1 wc w2 : World} {bs' : List Nat} {l : List γ} {n i : Nat} {x : γ} {Ls : List Value} {svs : Nat → List SV} {E : SE → List Value → World → Prop}

theorem exitNil (hR : Lasts R size) (hn : n = l.length) (hi : ¬ i < n) (h : IR R l n w0 i none [] w1) (hb0 : Below w0.heap.size w0 w1) {v : SV} (hv : ∀ β, SV.den β v = .slice none 0 0) :
    (T.leaf (.exit 0) [v] (SS.mk [] [] true w1 [])).holds (ctx P (rA et size svs (fun i => n - i) (IR R l n w0) (ER R size l w0) w0 i)) := by
  have hkf : KFine [] w1 (SS.mk [] [] true w1 []) := ⟨rfl, Keep.refl _ _, by simp⟩
  refine leafK hkf fun β w' hst hk => ⟨⟨rfl, none, 0, 0, by simp [denL, hv], ?_⟩, hk.below hb0 (Nat.le_refl _) (by simp)⟩
  have hle := h.2.len (hR.len _ _)
  have hi' := h.1
  have hz := hR.pos
  rw [List.length_take] at hle
  simp only [List.length_nil] at hle
  have hl0 : l = [] := by
    refine List.eq_nil_of_length_eq_zero ?_
    have h1 : min i l.length = l.length := by omega
    rw [h1] at hle
    rcases Nat.mul_eq_zero.1 hle.symm with h | h
    · exact h
    · omega
  subst hl0
  exact ⟨rfl, fun h => absurd h (Nat.lt_irrefl 0)⟩

theorem exitRow (hR : Lasts R size) (hn : n = l.length) (hi : ¬ i < n) {b kk cc : Nat} (h : IR R l n w0 i (some ⟨b, 0, none⟩) Ls w1) (hb0 : Below w0.heap.size w0 w1) (hb1 : w0.heap.size ≤ b) (hLs : Ls.length = kk * size) (hkc : kk ≤ cc) :
    (T.leaf (.exit 0) [.slc 0 0 kk cc false false] (SS.mk [.vals Ls (cc * size) et 0 0] [] true w1 [b])).holds { P := P, β0 := fun _ => b, n0 := 1, Q := rA et size svs (fun i => n - i) (IR R l n w0) (ER R size l w0) w0 i } := by
  refine leafK ⟨rfl, Keep.refl _ _, fun b hb => .inl hb⟩ fun β' w' hst hk => ⟨⟨rfl, _, kk, cc, rfl, ?_⟩, hk.below hb0 (Nat.le_refl _) (by simpa using hb1)⟩
  have hi' := h.1
  have hrow := h.2
  rw [List.take_of_length_le (by omega)] at hrow
  obtain ⟨rest, e2, e3⟩ := hst.at_ 0 _ rfl
  have hb0' : β' 0 = b := hst.base 0 (by show 0 < 1; omega)
  have hacc : AccAt w0 w' et size (some ⟨β' 0, 0, none⟩) kk cc Ls := .inr ⟨β' 0, rfl, by omega, hst.lt 0 (by simp [SS.n]), hLs, hkc, rest, e2, e3⟩
  have hrow' : Row (R (since w0 w') w'.heap.size) l Ls := hrow.imp fun x vs hx => hR.sub _ _ _ _ _ _ (vis_since _ _ _ _) (Nat.le_refl _) (hR.sub _ _ _ _ _ _ (vis_keep (A' := some ⟨b, 0, none⟩) hk (fun b' hb' => by
    simp at hb'
    subst hb'
    exact ⟨_, rfl, rfl⟩) fun a' ha' => by cases ha'; exact .inl (by simp)) hk.size hx)
  exact seq_of_row (S := fun b => w0.heap.size ≤ b) hacc hrow' (hR.len _ _) hR.pos (fun a ha => by cases ha; show w0.heap.size ≤ β' 0; omega)

theorem appNil (hR : Lasts R size) (hlt : i < n) (hx : l[i]? = some x) (h : IR R l n w0 i none [] w1) (hb0 : Below w0.heap.size w0 w1) (hk1 : Keep [] w1 wc) (hb2 : Below wc.heap.size wc w2) (hk2 : Keep [] w1 w2)
    (hbs' : ∀ b ∈ bs', (b ∈ ([] : List Nat) ∨ w1.heap.size ≤ b) ∧ b < wc.heap.size) {p1 p2 : Prop} (hp1 : p1) (hp2 : p2) {idx : Nat} {objs : Nat → List SObj} {cs rs : List SV} {vs : List Value} (hobj : ∀ c1, (objs c1)[idx]? = some (.cells cs (c1 * size) et 0 0)) (hcs : ∀ β, denL β cs = vs)
    (hnew : R (since wc w2) w2.heap.size x vs) (hrs : ∀ β, denL β rs = denL id (svs (i + 1))) {l1 l2 : Bool} :
    (T.need p1 (T.need p2 (T.choose (.appendCap 1 0 et) fun c1 => .leaf .normal (.slc idx 0 1 c1 l1 l2 :: rs) (SS.mk (objs c1) [] true w2 bs')))).holds (ctx P (rA et size svs (fun i => n - i) (IR R l n w0) E w0 i)) := by
  refine needT hp1 (needT hp2 (chooseT ?_))
  rintro c1 ⟨t, hc⟩
  have hcut : 1 ≤ c1 := hc ▸ cut_append
  refine leafK ⟨rfl, hk2, fun b hb => (hbs' b hb).1⟩ fun β' w' hst hk => ?_
  have ho := hobj c1
  obtain ⟨g1, g2, g3, g4⟩ := accNext (R := R) hR.sub hx h.2 hnew hst rfl rfl hbs' (by simp) hb0 hk hk1.size hb2.size idx ((List.getElem?_eq_some_iff.1 ho).1)
  obtain ⟨rest, e2, e3⟩ := hst.at_ idx _ ho
  rw [hcs] at e2
  have hl := hR.len _ _ _ _ hnew
  have hcl : cs.length = size := by rw [← hl, ← hcs β', denL_length]
  refine ⟨i + 1, some ⟨β' idx, 0, none⟩, 1, c1, [] ++ vs, by show n - (i + 1) < n - i; omega, ?_, .inr ⟨β' idx, rfl, g2, g3, by simp [hl], hcut, rest, e2, by simp only [List.nil_append]; omega⟩, ⟨by omega, g1⟩, g4⟩
  simp only [denL, SV.den, hrs]

theorem appRow (hR : Lasts R size) (hlt : i < n) (hx : l[i]? = some x) {b kk cc : Nat} (h : IR R l n w0 i (some ⟨b, 0, none⟩) Ls w1) (hb0 : Below w0.heap.size w0 w1) (hb1 : w0.heap.size ≤ b) (hLs : Ls.length = kk * size) (hkc : kk ≤ cc) (hk1 : Keep [b] w1 wc) (hb2 : Below wc.heap.size wc w2) (hk2 : Keep [b] w1 w2)
    (hbs' : ∀ b' ∈ bs', (b' ∈ [b] ∨ w1.heap.size ≤ b') ∧ b' < wc.heap.size) {bytes : Nat} (hcap : 2 * (n * bytes) ≤ 281474976710656) (hn : (n : Int) < 2 ^ 62) {idx : Nat} {objs1 : List SObj} {objs : Nat → List SObj} {cs rs : List SV} {vs : List Value} (hcs : denL id cs = vs)
    (hobj : ∀ c1, (objs c1)[idx]? = some (.vals (List.take (kk * size) (List.drop 0 Ls) ++ denL id cs) (c1 * size) et 0 0)) (hnew : R (since wc w2) w2.heap.size x vs) (hrs : ∀ β, denL β rs = denL id (svs (i + 1))) {l1 l2 l3 l4 : Bool} :
    (T.split (decide (kk + 1 ≤ cc))
      (T.need (0 + kk * size = Ls.length ∧ Ls.length + (denL id cs).length ≤ cc * size ∧ thawed 0 0 Ls.length (denL id cs).length = true)
        (.leaf .normal (.slc 0 0 (kk + 1) cc l1 l2 :: rs) (SS.mk (.vals (Ls ++ denL id cs) (cc * size) et 0 0 :: objs1) [] true w2 bs')))
      (T.need (0 + kk * size ≤ Ls.length ∧ Builtin.nextslicecap (kk + 1) cc * bytes ≤ 281474976710656 ∧ ((kk + 1 : Nat) : Int) ≤ IntKind.i64.max)
        (T.choose (.appendCap (kk + 1) cc et) fun c1 => .leaf .normal (.slc idx 0 (kk + 1) c1 l3 l4 :: rs) (SS.mk (objs c1) [] true w2 bs')))).holds
      { P := P, β0 := fun _ => b, n0 := 1, Q := rA et size svs (fun i => n - i) (IR R l n w0) E w0 i } := by
  have hl := hR.len _ _ _ _ hnew
  have hA0 : ∀ b' ∈ [b], ∃ a, (some (⟨b, 0, none⟩ : Addr)) = some a ∧ a.block = b' ∧ w0.heap.size ≤ b' := fun b' hb' => by
    simp at hb'
    subst hb'
    exact ⟨_, rfl, rfl, hb1⟩
  have hkn : kk ≤ i := by
    have h1 := h.2.len (hR.len _ _)
    rw [hLs, List.length_take] at h1
    have := Nat.eq_of_mul_eq_mul_right hR.pos h1
    omega
  subst hcs
  have hmul : (kk + 1) * size = kk * size + size := by rw [Nat.add_mul, Nat.one_mul]
  refine splitD (fun hcap' => needT ?_ ?_) (fun hcap' => needT ?_ (chooseT ?_))
  · refine ⟨by omega, ?_, by simp [thawed]⟩
    have := Nat.mul_le_mul_right size hcap'
    omega
  · refine leafK ⟨rfl, hk2, fun b hb => (hbs' b hb).1⟩ fun β' w' hst hk => ?_
    obtain ⟨g1, g2, g3, g4⟩ := accNext (R := R) hR.sub hx h.2 hnew hst rfl rfl hbs' hA0 hb0 hk hk1.size hb2.size 0 (by simp [SS.n])
    obtain ⟨rest, e2, e3⟩ := hst.at_ 0 _ rfl
    refine ⟨i + 1, some ⟨β' 0, 0, none⟩, kk + 1, cc, _, by show n - (i + 1) < n - i; omega, ?_, .inr ⟨β' 0, rfl, g2, g3, by rw [List.length_append]; omega, hcap', rest, e2, e3⟩, ⟨by omega, g1⟩, g4⟩
    simp only [denL, SV.den, hrs]
  · refine ⟨by omega, ?_, by rw [i64max]; omega⟩
    have h1 := nextslicecap_le (show cc < kk + 1 by omega)
    have h2 : Builtin.nextslicecap (kk + 1) cc * bytes ≤ (2 * n) * bytes := Nat.mul_le_mul_right _ (by omega)
    rw [Nat.mul_assoc] at h2
    omega
  · rintro c1 ⟨t, hc⟩
    have hcut : kk + 1 ≤ c1 := hc ▸ cut_append
    refine leafK ⟨rfl, hk2, fun b hb => (hbs' b hb).1⟩ fun β' w' hst hk => ?_
    have ho := hobj c1
    obtain ⟨g1, g2, g3, g4⟩ := accNext (R := R) hR.sub hx h.2 hnew hst rfl rfl hbs' hA0 hb0 hk hk1.size hb2.size idx ((List.getElem?_eq_some_iff.1 ho).1)
    obtain ⟨rest, e2, e3⟩ := hst.at_ idx _ ho
    rw [List.drop_zero, List.take_of_length_le (by omega)] at e2 e3
    refine ⟨i + 1, some ⟨β' idx, 0, none⟩, kk + 1, c1, _, by show n - (i + 1) < n - i; omega, ?_, .inr ⟨β' idx, rfl, g2, g3, by rw [List.length_append]; omega, hcut, rest, e2, e3⟩, ⟨by omega, g1⟩, g4⟩
    simp only [denL, SV.den, hrs]

end

end Go.Rx
end

section
/- Loops that write tracked memory, in rounds of other loops. -/
set_option linter.unusedVariables false
set_option linter.unusedSimpArgs false
open Go.RowKit
namespace Go.Rx

theorem loopTK {P : Program} {β0 : Nat → Nat} {n0 : Nat} {Q : SE → List Value → World → Prop} {s : SS} {w : World} {f₁ : FuncId} {body : Code} {a : List SV} {a0 : List SV} {s0 : SS}
    {N : Nat} {X : Type} {e₁ : SE} {sl : List Nat} {f : X → List SV} {o : X → List SObj} {Y : Type} {e₂ : SE} {sl' : List Nat} {f' : Y → List SV} {o' : Y → List SObj}
    {k : X × (Nat → Value) → World → List Nat → T} {k' : Y × (Nat → Value) → World → List Nat → T} {bs : List Nat} (hf : KFine bs w s) (hgl : s.gl = []) (m : Nat) (hm : s.n = m)
    (L : SE → List Nat) {α : Type} (svs : α → List SV) (objs : α → List SObj) (μ : α → Nat) (I : World → α → World → Prop) (E₁ : World → X → World → Prop) (E₂ : World → Y → World → Prop) (hk : α → Hooks) (fuel : Nat) (hN : a.length = N)
    (hL : ∀ i ∈ L .normal, i < N) (hd : (L .normal).Nodup) (hok : ∀ x, okL m (svs x)) (hobjs : ∀ x, (objs x).length = m ∧ ∀ o ∈ objs x, o.ok m)
    (h1 : L e₁ = sl) (h2 : L e₂ = sl') (hl1 : ∀ i ∈ sl, i < N) (hl2 : ∀ i ∈ sl', i < N) (hf1 : ∀ x, okL m (f x) ∧ (o x).length = m ∧ ∀ u ∈ o x, u.ok m) (hf2 : ∀ x, okL m (f' x) ∧ (o' x).length = m ∧ ∀ u ∈ o' x, u.ok m)
    (hround : ∀ β w0 x w1 g, Keep bs w w0 → I w0 x w1 → Keep (blocks β m) w0 w1 → Keep bs w w1 → (∀ b ∈ blocks β m, (b ∈ bs ∨ w.heap.size ≤ b) ∧ b < w0.heap.size) →
      (xCode P (hk x) fuel f₁ body (mkFrame ((L .normal).zip (svs x)) g N 0) (fun e a s => .leaf e (sel L e a) s) (SS.mk (objs x) [] true w1 (blocks β m))).holds
        { P := P, β0 := β, n0 := m, Q := rQT β (blocks β m) svs objs μ (I w0) e₁ f o (E₁ w0) e₂ f' o' (E₂ w0) w0 x })
    (hstart : ∀ β w0, St { P := P, β0 := β0, n0 := n0, Q := Q } β s w0 → Keep bs w w0 → ∃ x, selV L .normal (denL β a) = denL β (svs x) ∧ ObjsAt β (objs x) w0 ∧ I w0 x w0)
    (hend₁ : ∀ w0 x w', E₁ w0 x w' → Keep bs w w0 → Keep bs w w' → ∀ g bs', (∀ b ∈ bs', (b ∈ bs ∨ w.heap.size ≤ b) ∧ b < w0.heap.size) → (k (x, g) w' bs').holds { P := P, β0 := β0, n0 := n0, Q := Q })
    (hend₂ : ∀ w0 x w', E₂ w0 x w' → Keep bs w w0 → Keep bs w w' → ∀ g bs', (∀ b ∈ bs', (b ∈ bs ∨ w.heap.size ≤ b) ∧ b < w0.heap.size) → (k' (x, g) w' bs').holds { P := P, β0 := β0, n0 := n0, Q := Q }) :
    (T.loop f₁ body a s (LoopHook.X (mkHookT N X e₁ sl f o Y e₂ sl' f' o')) (LoopHook.out (mkHookT N X e₁ sl f o Y e₂ sl' f' o') a0 s0) k
      (LoopHook.Y (mkHookT N X e₁ sl f o Y e₂ sl' f' o')) (LoopHook.out' (mkHookT N X e₁ sl f o Y e₂ sl' f' o') a0 s0) k').holds { P := P, β0 := β0, n0 := n0, Q := Q } := by
  subst hN h1 h2 hm
  intro β w0 hs ha
  have od := hs.old hf.ext
  have hbw := od.keepK hf
  have hz := hbw.size
  have hbs : ∀ b ∈ blocks β s.n, (b ∈ bs ∨ w.heap.size ≤ b) ∧ b < w0.heap.size := fun b hb => ⟨blocks_keep od hf b hb, by
    simp only [blocks, List.mem_map, List.mem_range] at hb
    obtain ⟨i, hi, rfl⟩ := hb
    exact hs.lt i hi⟩
  have hcomb : ∀ w1, Keep (blocks β s.n) w0 w1 → Keep bs w w1 := fun w1 hkp =>
    ⟨hkp.os.trans hbw.os, hkp.tape.trans hbw.tape, hkp.output.trans hbw.output, Nat.le_trans hbw.size hkp.size, fun b hb hn => (hkp.block b (Nat.lt_of_lt_of_le hb hbw.size) (fun hm => by
      rcases (hbs b hm).1 with h | h
      · exact hn h
      · omega)).trans (hbw.block b hb hn)⟩
  obtain ⟨x0, hx0, hat0, hI0⟩ := hstart β w0 hs hbw
  have hlw := lw_rule (P := P) (body := body) (L := L) (N := a.length)
    (J := fun n lv w' => ∃ x, n = μ x ∧ lv = denL β (svs x) ∧ ObjsAt β (objs x) w' ∧ I w0 x w' ∧ Keep (blocks β s.n) w0 w')
    (QX := fun e lv w' => ((∃ z, e = e₁ ∧ lv = denL β (f z) ∧ ObjsAt β (o z) w' ∧ E₁ w0 z w') ∨ (∃ z, e = e₂ ∧ lv = denL β (f' z) ∧ ObjsAt β (o' z) w' ∧ E₂ w0 z w')) ∧ Keep (blocks β s.n) w0 w')
    (by
      rintro n lv w1 ⟨x, rfl, rfl, hat, hI, hkp⟩ _
      refine ⟨hk x, fuel, f₁, β, s.n, svs x, SS.mk (objs x) [] true w1 (blocks β s.n), β, rfl, ?_, ?_, fun g => ?_⟩
      · exact St.head (hobjs x).1 (fun i hi => Nat.lt_of_lt_of_le (hs.lt i hi) hkp.size) hs.inj hat (hobjs x).2
      · have : (SS.mk (objs x) [] true w1 (blocks β s.n)).n = s.n := (hobjs x).1
        rw [this]; exact hok x
      · have h := hround β w0 x w1 g hbw hI hkp (hcomb _ hkp) hbs
        have e1 : roundQ (fun n lv w' => ∃ x, n = μ x ∧ lv = denL β (svs x) ∧ ObjsAt β (objs x) w' ∧ I w0 x w' ∧ Keep (blocks β s.n) w0 w')
            (fun e lv w' => ((∃ z, e = e₁ ∧ lv = denL β (f z) ∧ ObjsAt β (o z) w' ∧ E₁ w0 z w') ∨ (∃ z, e = e₂ ∧ lv = denL β (f' z) ∧ ObjsAt β (o' z) w' ∧ E₂ w0 z w')) ∧ Keep (blocks β s.n) w0 w') (μ x) =
            rQT β (blocks β s.n) svs objs μ (I w0) e₁ f o (E₁ w0) e₂ f' o' (E₂ w0) w0 x := by
          funext e lv w'
          cases e with
          | normal =>
            simp only [roundQ, rQT, eq_iff_iff]
            constructor
            · rintro ⟨n', hn, y, rfl, h1, h2, h3, h4⟩; exact ⟨y, hn, h1, h2, h3, h4⟩
            · rintro ⟨y, hn, h1, h2, h3, h4⟩; exact ⟨_, hn, y, rfl, h1, h2, h3, h4⟩
          | exit i => rfl
          | goto i => rfl
          | ret => rfl
        rw [e1]
        exact h)
    hL hd (μ x0) _ w0 (denL_length β a) ⟨x0, rfl, hx0, hat0, hI0, Keep.refl _ _⟩
  refine Code.wp_mono ?_ (LW.loop hlw)
  rintro e a' w' ⟨e', vs', rfl, rfl, hlen, hq, hkp⟩
  have hb' : Keep bs w w' := hcomb _ hkp
  have fin : ∀ objs' : List SObj, objs'.length = s.n → (∀ u ∈ objs', u.ok s.n) → ObjsAt β objs' w' → St { P := P, β0 := β0, n0 := n0, Q := Q } β (reS s objs' w' (blocks β s.n)) w' := by
    intro objs' hl hoks hat
    have hn : (reS s objs' w' (blocks β s.n)).n = s.n := hl
    exact { lt := fun i hi => Nat.lt_of_lt_of_le (hs.lt i (by rw [hn] at hi; exact hi)) hkp.size
            inj := fun i j hi hj => hs.inj i j (by rw [hn] at hi; exact hi) (by rw [hn] at hj; exact hj)
            at_ := hat
            ok := fun i u hu => by rw [hn]; exact hoks u (List.mem_of_getElem? hu)
            gl := fun p hp => by rw [show (reS s objs' w' (blocks β s.n)).gl = s.gl from rfl, hgl] at hp; simp at hp
            old := fun _ => { fr := fun _ _ _ => rfl, sz := Nat.le_refl _, tape := rfl, os := rfl, out := rfl,
                              pre := fun i b hi => by
                                simp only [reS, blocks, List.getElem?_map] at hi
                                cases hr : (List.range s.n)[i]? with
                                | none => rw [hr] at hi; simp at hi
                                | some j =>
                                  rw [hr] at hi
                                  obtain ⟨hlt, he⟩ := List.getElem?_eq_some_iff.1 hr
                                  simp at he
                                  subst he
                                  simpa using hi
                              pren := by rw [hn]; simp [reS, blocks]
                              new := fun i hi hin => by rw [hn] at hin; simp [reS, blocks] at hi; omega }
            base := hs.base
            n0 := by rw [hn]; exact hs.n0 }
  rcases hq with ⟨x, rfl, hlv, hat, hE⟩ | ⟨x, rfl, hlv, hat, hE⟩
  · obtain ⟨g1, g2, g3⟩ := hf1 x
    refine .inl ⟨(x, fun i => vs'.getD i undef), β, blocks β s.n, rfl, ?_, ⟨fin _ g2 g3 hat, ?_, fun _ _ => rfl⟩, ?_, mkFrame_length _ _ _ _, hend₁ w0 x w' hE hbw hb' _ _ hbs⟩
    · rw [actS_avals]
      congr 1
      exact frame_of hlen hlv hl1
    · show s.n ≤ (o x).length
      omega
    · show okL (o x).length _
      rw [g2]
      exact mkFm_ok g1 _ _ _
  · obtain ⟨g1, g2, g3⟩ := hf2 x
    refine .inr ⟨(x, fun i => vs'.getD i undef), β, blocks β s.n, rfl, ?_, ⟨fin _ g2 g3 hat, ?_, fun _ _ => rfl⟩, ?_, mkFrame_length _ _ _ _, hend₂ w0 x w' hE hbw hb' _ _ hbs⟩
    · rw [actS_avals]
      congr 1
      exact frame_of hlen hlv hl2
    · show s.n ≤ (o' x).length
      omega
    · show okL (o' x).length _
      rw [g2]
      exact mkFm_ok g1 _ _ _

end Go.Rx
end

section
/- Functions that begin where blocks are tracked; calls that write tracked memory; loops that append some things. -/
set_option linter.unusedVariables false
set_option linter.unusedSimpArgs false
open Go.RowKit
namespace Go.Rx

/-- A function that begins where some blocks are tracked. -/
theorem funS {P : Program} {hk : Hooks} {n : Nat} {f : FuncId} {args : List SV} {s : SS} {m : Nat} {β : Nat → Nat} {w : World} {Q : Value → World → Prop}
    (hs : St { P := P, β0 := β, n0 := m, Q := retQ Q } β s w) (hargs : okL s.n args) (h : (xFunc P hk n f args s).holds { P := P, β0 := β, n0 := m, Q := retQ Q }) :
    Calls P f (denL β args).toArray w fun e w' => ∃ v, e = .returned v ∧ Q v w' := by
  refine (xFunc_sound (Γ := { P := P, β0 := β, n0 := m, Q := retQ Q }) (β := β) h hs hargs).mono ?_
  rintro e w' ⟨v, rfl, u, hu, hq⟩
  simp only [List.cons.injEq, and_true] at hu
  subst hu
  exact ⟨_, rfl, hq⟩

/-- Behind something that turns the tracked memory alone. -/
theorem St.turned {Γ : Ctx} {β : Nat → Nat} {s : SS} {w : World} (hs : St Γ β s w) (hgl : s.gl = []) {objs' : List SObj} {w' : World} (hkp : Keep (blocks β s.n) w w') (hl : objs'.length = s.n) (hok : ∀ u ∈ objs', u.ok s.n) (hat : ObjsAt β objs' w') :
    St Γ β (reS s objs' w' (blocks β s.n)) w' := by
  have hn : (reS s objs' w' (blocks β s.n)).n = s.n := hl
  exact { lt := fun i hi => Nat.lt_of_lt_of_le (hs.lt i (by rw [hn] at hi; exact hi)) hkp.size
          inj := fun i j hi hj => hs.inj i j (by rw [hn] at hi; exact hi) (by rw [hn] at hj; exact hj)
          at_ := hat
          ok := fun i u hu => by rw [hn]; exact hok u (List.mem_of_getElem? hu)
          gl := fun p hp => by rw [show (reS s objs' w' (blocks β s.n)).gl = s.gl from rfl, hgl] at hp; simp at hp
          old := fun _ => { fr := fun _ _ _ => rfl, sz := Nat.le_refl _, tape := rfl, os := rfl, out := rfl,
                            pre := fun i b hi => by
                              simp only [reS, blocks, List.getElem?_map] at hi
                              cases hr : (List.range s.n)[i]? with
                              | none => rw [hr] at hi; simp at hi
                              | some j =>
                                rw [hr] at hi
                                obtain ⟨hlt, he⟩ := List.getElem?_eq_some_iff.1 hr
                                simp at he
                                subst he
                                simpa using hi
                            pren := by rw [hn]; simp [reS, blocks]
                            new := fun i hi hin => by rw [hn] at hin; simp [reS, blocks] at hi; omega }
          base := hs.base
          n0 := by rw [hn]; exact hs.n0 }

/-- A hooked call that writes tracked memory. -/
theorem callM {Γ : Ctx} {s : SS} {w : World} {f : FuncId} {args : List SV} {X : Type} {out : X → SV × List SObj} {k : X → World → List Nat → T} {R : X → World → World → Prop} (hf : Fine w s) (hgl : s.gl = [])
    (hout : ∀ x, (out x).2.length = s.n ∧ (∀ u ∈ (out x).2, u.ok s.n) ∧ (out x).1.ok s.n)
    (hc : ∀ β w0, St Γ β s w0 → Old β s w0 → Below w.heap.size w w0 → Calls Γ.P f (denL β args).toArray w0 fun e w' => ∃ x, e = .returned ((out x).1.den β) ∧ Keep (blocks β s.n) w0 w' ∧ ObjsAt β (out x).2 w' ∧ R x w0 w')
    (hk : ∀ x w0 w' bs, Below w.heap.size w w0 → R x w0 w' → Below w.heap.size w w' → (∀ b ∈ bs, w.heap.size ≤ b ∧ b < w0.heap.size) → (k x w' bs).holds Γ) : (T.call f args s X out k).holds Γ := by
  intro β w0 hs hargs
  have o := hs.old hf.ext
  have hbw := o.belowB hf.below (Nat.le_refl _) hf.pre
  refine (hc β w0 hs o hbw).mono ?_
  rintro e w' ⟨x, rfl, hkp, hat, hr⟩
  obtain ⟨ho1, ho2, ho3⟩ := hout x
  have hbs := blocks_ge o hf.below (Nat.le_refl _) hf.pre
  refine ⟨x, β, blocks β s.n, rfl, ⟨hs.turned hgl hkp ho1 ho2 hat, ?_, fun _ _ => rfl⟩, ?_, hk x w0 w' _ hbw hr (hkp.below hbw (Nat.le_refl _) hbs) ?_⟩
  · show s.n ≤ (out x).2.length
    omega
  · show SV.ok (out x).2.length (out x).1
    rw [ho1]
    exact ho3
  · intro b hb
    refine ⟨hbs b hb, ?_⟩
    simp only [blocks, List.mem_map, List.mem_range] at hb
    obtain ⟨i, hi, rfl⟩ := hb
    exact hs.lt i hi

/-- The state of some tracked blocks in a later world. -/
theorem St.later {Γ : Ctx} {β : Nat → Nat} {s : SS} {w w1 : World} (hs : St Γ β s w) (hb : Below w.heap.size w w1) {P : Program} {Q : SE → List Value → World → Prop} :
    St { P := P, β0 := β, n0 := s.n, Q := Q } β (SS.mk s.objs [] true w1 (blocks β s.n)) w1 := by
  refine St.head rfl (fun i hi => Nat.lt_of_lt_of_le (hs.lt i hi) hb.size) hs.inj ?_ (fun o ho => ?_)
  · intro i o ho
    rw [hb.block _ (hs.lt i (lt_of_get ho))]
    exact hs.at_ i o ho
  · obtain ⟨i, hi⟩ := List.mem_iff_getElem?.1 ho
    exact hs.ok i o hi

/-! ### Loops that append some of the things -/

section
variable {P : Program} {γ : Type} {R : γ → List Value → Prop} {size : Nat} {et : TypeId} {w0 w1 wc w2 : World} {bs' : List Nat} {n i : Nat} {x : γ} {Ls : List Value} {svs : Nat → List SV} {E : SE → List Value → World → Prop} {F : Nat → List γ}

end

end Go.Rx
end

