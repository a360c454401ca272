/- The executor is sound, the first part: what symbolic values and tracked memory mean; loads, stores, new blocks, operations. -/
import Derived.Test.YtdmnoagahjbjhaaGreatDoorRx1
/- What the symbolic values and the tracked memory mean, and the laws on them. -/
set_option linter.unusedVariables false
set_option linter.unusedSimpArgs false
namespace Go.Rx

/-! ### What a symbolic value means -/


mutual
def SV.ok (n : Nat) : SV → Prop
  | .one _ _ => True
  | .int _ _ _ => True
  | .bool _ _ => True
  | .str _ _ => True
  | .ptr i _ => i < n
  | .slc i _ _ _ _ _ => i < n
  | .ifc _ v => SV.ok n v
  | .agg cs => okL n cs
  | .tup cs => okL n cs
  | .fn _ a c => okL n a ∧ okL n c
  | .raw _ => True
  | .xp _ => True
  | .xs _ _ _ => True
def okL (n : Nat) : List SV → Prop
  | [] => True
  | v :: vs => SV.ok n v ∧ okL n vs
end

mutual
theorem SV.den_agree {β β' : Nat → Nat} {n : Nat} (h : ∀ i, i < n → β' i = β i) : ∀ v : SV, v.ok n → v.den β' = v.den β
  | .one _ _, _ => rfl
  | .int _ _ _, _ => rfl
  | .bool _ _, _ => rfl
  | .str _ _, _ => rfl
  | .ptr i o, hv => by simp only [SV.den, h i hv]
  | .slc i o n c _ _, hv => by simp only [SV.den, h i hv]
  | .ifc t v, hv => by simp only [SV.den, SV.den_agree h v hv]
  | .agg cs, hv => by simp only [SV.den, denL_agree h cs hv]
  | .tup cs, hv => by simp only [SV.den, denL_agree h cs hv]
  | .fn f a c, hv => by simp only [SV.den, denL_agree h a hv.1, denL_agree h c hv.2]
  | .raw _, _ => rfl
  | .xp _, _ => rfl
  | .xs _ _ _, _ => rfl
theorem denL_agree {β β' : Nat → Nat} {n : Nat} (h : ∀ i, i < n → β' i = β i) : ∀ l : List SV, okL n l → denL β' l = denL β l
  | [], _ => rfl
  | v :: vs, hv => by simp only [denL, SV.den_agree h v hv.1, denL_agree h vs hv.2]
end

mutual
theorem SV.ok_mono {n m : Nat} (h : n ≤ m) : ∀ v : SV, v.ok n → v.ok m
  | .one _ _, _ => trivial
  | .int _ _ _, _ => trivial
  | .bool _ _, _ => trivial
  | .str _ _, _ => trivial
  | .ptr i o, hv => Nat.lt_of_lt_of_le hv h
  | .slc i o n c _ _, hv => Nat.lt_of_lt_of_le hv h
  | .ifc t v, hv => SV.ok_mono h v hv
  | .agg cs, hv => okL_mono h cs hv
  | .tup cs, hv => okL_mono h cs hv
  | .fn f a c, hv => ⟨okL_mono h a hv.1, okL_mono h c hv.2⟩
  | .raw _, _ => trivial
  | .xp _, _ => trivial
  | .xs _ _ _, _ => trivial
theorem okL_mono {n m : Nat} (h : n ≤ m) : ∀ l : List SV, okL n l → okL m l
  | [], _ => trivial
  | v :: vs, hv => ⟨SV.ok_mono h v hv.1, okL_mono h vs hv.2⟩
end

theorem denL_map (β : Nat → Nat) (l : List SV) : denL β l = l.map (SV.den β) := by
  induction l with
  | nil => rfl
  | cons v vs ih => simp only [denL, List.map_cons, ih]

theorem denL_length (β : Nat → Nat) (l : List SV) : (denL β l).length = l.length := by simp [denL_map]

theorem denL_append (β : Nat → Nat) (a b : List SV) : denL β (a ++ b) = denL β a ++ denL β b := by simp [denL_map]

theorem denL_get (β : Nat → Nat) (l : List SV) (i : Nat) : (denL β l)[i]? = (l[i]?).map (SV.den β) := by simp [denL_map]

theorem denL_set (β : Nat → Nat) (l : List SV) (i : Nat) (v : SV) : denL β (l.set i v) = (denL β l).set i (v.den β) := by simp [denL_map]

theorem okL_iff (n : Nat) (l : List SV) : okL n l ↔ ∀ v ∈ l, v.ok n := by
  induction l with
  | nil => simp [okL]
  | cons v vs ih => simp [okL, ih]

theorem okL_append {n : Nat} {a b : List SV} (ha : okL n a) (hb : okL n b) : okL n (a ++ b) := by
  rw [okL_iff] at *
  intro v hv
  rcases List.mem_append.1 hv with h | h
  · exact ha v h
  · exact hb v h

theorem okL_get {n : Nat} {l : List SV} (h : okL n l) {i : Nat} {v : SV} (hv : l[i]? = some v) : v.ok n :=
  (okL_iff n l).1 h v (List.mem_of_getElem? hv)

theorem okL_set {n : Nat} {l : List SV} (h : okL n l) {v : SV} (hv : v.ok n) (i : Nat) : okL n (l.set i v) := by
  rw [okL_iff] at *
  intro x hx
  rcases List.mem_or_eq_of_mem_set hx with h' | h'
  · exact h x h'
  · exact h' ▸ hv

/-! ### One-cell values, cells of a value -/

theorem SV.isOne_den {v : SV} (h : v.isOne = true) (β : Nat → Nat) : (v.den β).oneCell' = true := by
  cases v with
  | one v hv => exact hv
  | agg cs => cases h
  | tup cs => cases h
  | raw v => cases h
  | _ => rfl

theorem denL_raw (β : Nat → Nat) (l : List Value) : denL β (l.map .raw) = l := by
  induction l with
  | nil => rfl
  | cons v vs ih => simp only [List.map_cons, denL, SV.den, ih]

theorem SV.cells_den (v : SV) (β : Nat → Nat) : (v.den β).cells = (denL β v.cells).toArray := by
  cases v with
  | one v h => cases v <;> first | (cases h; done) | rfl
  | raw v => simp only [SV.den, SV.cells, denL_raw]
  | _ => simp [SV.den, SV.cells, Value.cells, denL]

theorem okL_raw (n : Nat) (l : List Value) : okL n (l.map .raw) := by
  induction l with
  | nil => trivial
  | cons v vs ih => exact ⟨trivial, ih⟩

theorem SV.cells_ok {v : SV} {n : Nat} (h : v.ok n) : okL n v.cells := by
  cases v with
  | raw v => exact okL_raw n _
  | _ => simp_all [SV.cells, SV.ok, okL]

/-! ### Constants -/

theorem SV.cell_den {v : Value} (h : v.oneCell' = true) (β : Nat → Nat) : (SV.cell v).den β = v := by
  cases v <;> simp_all [SV.cell, SV.den, Value.oneCell']

theorem SV.cell_ok (v : Value) (n : Nat) : (SV.cell v).ok n := by
  cases v <;> simp [SV.cell, SV.ok, okL]

theorem SV.cellOf_den {v : Value} (h : v.oneCell' = true) (β : Nat → Nat) : (SV.cellOf v).den β = v := by
  cases v with
  | iface t x => cases x <;> simp [SV.cellOf, SV.cell, SV.den]
  | _ => simp_all [SV.cellOf, SV.cell, SV.den, Value.oneCell']

theorem SV.cellOf_ok (v : Value) (n : Nat) : (SV.cellOf v).ok n := by
  cases v with
  | iface t x => cases x <;> simp [SV.cellOf, SV.cell, SV.ok]
  | _ => simp [SV.cellOf, SV.cell, SV.ok, okL]

theorem SV.ofValue_den {v : Value} {s : SV} (h : SV.ofValue v = some s) (β : Nat → Nat) : s.den β = v := by
  cases v with
  | agg cs =>
    simp only [SV.ofValue] at h
    split at h
    · rename_i hall
      simp only [Option.some.injEq] at h
      subst h
      simp only [SV.den, denL_map, List.map_map]
      have : (cs.toList.map (SV.den β ∘ SV.cellOf)) = cs.toList := by
        conv => rhs; rw [← List.map_id cs.toList]
        apply List.map_congr_left
        intro x hx
        exact SV.cellOf_den (List.all_eq_true.1 hall x hx) β
      rw [this]
    · cases h
  | tuple cs =>
    simp only [SV.ofValue] at h
    split at h
    · rename_i hemp
      simp only [Option.some.injEq] at h
      subst h
      have : cs = #[] := by
        have := List.isEmpty_iff.1 hemp
        exact Array.ext' (by simpa using this)
      subst this
      simp [SV.den, denL]
    · cases h
  | _ => simp only [SV.ofValue, Option.some.injEq] at h; subst h; exact SV.cellOf_den rfl β

theorem SV.ofValue_ok {v : Value} {s : SV} (h : SV.ofValue v = some s) (n : Nat) : s.ok n := by
  cases v with
  | agg cs =>
    simp only [SV.ofValue] at h
    split at h
    · simp only [Option.some.injEq] at h
      subst h
      show okL n _
      rw [okL_iff]
      intro x hx
      obtain ⟨y, _, rfl⟩ := List.mem_map.1 hx
      exact SV.cellOf_ok y n
    · cases h
  | tuple cs =>
    simp only [SV.ofValue] at h
    split at h
    · simp only [Option.some.injEq] at h; subst h; trivial
    · cases h
  | _ => simp only [SV.ofValue, Option.some.injEq] at h; subst h; exact SV.cellOf_ok _ n

/-! ### takeAt, putAt -/

theorem takeN_spec : ∀ (n : Nat) (l r : List SV), takeN n l = some r → n ≤ l.length ∧ r = l.take n
  | 0, l, r, h => by simp [takeN] at h; simp [h]
  | n + 1, [], r, h => by simp [takeN] at h
  | n + 1, x :: xs, r, h => by
    simp only [takeN] at h
    cases hx : takeN n xs with
    | none => rw [hx] at h; cases h
    | some l =>
      rw [hx] at h
      simp only [Option.some.injEq] at h
      obtain ⟨h1, h2⟩ := takeN_spec n xs l hx
      subst h
      simp [h1, h2]

theorem takeAt_spec : ∀ (o n : Nat) (l r : List SV), takeAt o n l = some r → o + n ≤ l.length ∧ r = (l.drop o).take n
  | 0, n, l, r, h => by
    simp only [takeAt] at h
    obtain ⟨h1, h2⟩ := takeN_spec n l r h
    simp [h1, h2]
  | o + 1, n, [], r, h => by simp [takeAt] at h
  | o + 1, n, x :: xs, r, h => by
    simp only [takeAt] at h
    obtain ⟨h1, h2⟩ := takeAt_spec o n xs r h
    simp only [List.length_cons, List.drop_succ_cons]
    exact ⟨by omega, h2⟩

theorem takeAt_get {o n : Nat} {l r : List SV} (h : takeAt o n l = some r) (j : Nat) (hj : j < n) : r[j]? = l[o + j]? := by
  obtain ⟨h1, rfl⟩ := takeAt_spec o n l r h
  rw [List.getElem?_take_of_lt hj, List.getElem?_drop]

theorem takeAt_length {o n : Nat} {l r : List SV} (h : takeAt o n l = some r) : r.length = n := by
  obtain ⟨h1, rfl⟩ := takeAt_spec o n l r h
  simp; omega

theorem takeAt_ok {o n m : Nat} {l r : List SV} (h : takeAt o n l = some r) (hl : okL m l) : okL m r := by
  obtain ⟨h1, rfl⟩ := takeAt_spec o n l r h
  rw [okL_iff] at *
  intro v hv
  exact hl v (List.mem_of_mem_drop (List.mem_of_mem_take hv))

/-- The cells from an offset on, one after the other. -/
def setMany (l : List Value) (o : Nat) : List Value → List Value
  | [] => l
  | v :: vs => setMany (l.set o v) (o + 1) vs

theorem setMany_cons (x : Value) (l : List Value) (o : Nat) (vs : List Value) : setMany (x :: l) (o + 1) vs = x :: setMany l o vs := by
  induction vs generalizing l o with
  | nil => rfl
  | cons v vs ih => simp only [setMany, List.set_cons_succ, ih]

theorem putAt_spec (β : Nat → Nat) : ∀ (o : Nat) (vs l r : List SV), putAt o vs l = some r →
    o + vs.length ≤ l.length ∧ r.length = l.length ∧ (∀ rest, denL β r ++ rest = setMany (denL β l ++ rest) o (denL β vs)) ∧ (∀ n, okL n vs → okL n l → okL n r)
  | 0, [], l, r, h => by
    cases l <;> simp [putAt] at h <;> subst h <;> simp [denL, setMany]
  | 0, v :: vs, [], r, h => by simp [putAt] at h
  | 0, v :: vs, x :: l, r, h => by
    simp only [putAt] at h
    cases hr : putAt 0 vs l with
    | none => rw [hr] at h; cases h
    | some q =>
      rw [hr] at h
      simp only [Option.some.injEq] at h
      obtain ⟨h1, h2, h3, h4⟩ := putAt_spec β 0 vs l q hr
      subst h
      refine ⟨by simp; omega, by simp [h2], fun rest => ?_, fun n hn hl => ⟨hn.1, h4 n hn.2 hl.2⟩⟩
      simp only [denL, List.cons_append, setMany, List.set_cons_zero, setMany_cons, h3]
  | o + 1, vs, [], r, h => by cases vs <;> simp [putAt] at h
  | o + 1, vs, x :: l, r, h => by
    have h' : (match putAt o vs l with | some r => some (x :: r) | none => none) = some r := by
      cases vs <;> (simp only [putAt] at h; exact h)
    cases hr : putAt o vs l with
    | none => rw [hr] at h'; cases h'
    | some q =>
      rw [hr] at h'
      simp only [Option.some.injEq] at h'
      obtain ⟨h1, h2, h3, h4⟩ := putAt_spec β o vs l q hr
      subst h'
      refine ⟨by simp; omega, by simp [h2], fun rest => ?_, fun n hn hl => ⟨hl.1, h4 n hn hl.2⟩⟩
      simp only [denL, List.cons_append, setMany_cons, h3]

mutual
theorem SV.okb_ok {n : Nat} : ∀ v : SV, v.okb n = true → v.ok n
  | .one _ _, _ => trivial
  | .int _ _ _, _ => trivial
  | .bool _ _, _ => trivial
  | .str _ _, _ => trivial
  | .ptr i _, h => of_decide_eq_true (p := i < n) h
  | .slc i _ _ _ _ _, h => of_decide_eq_true (p := i < n) h
  | .ifc _ v, h => SV.okb_ok v (by simpa [SV.okb] using h)
  | .agg cs, h => okbL_ok cs (by simpa [SV.okb] using h)
  | .tup cs, h => okbL_ok cs (by simpa [SV.okb] using h)
  | .fn _ a c, h => by
    simp only [SV.okb, Bool.and_eq_true] at h
    exact ⟨okbL_ok a h.1, okbL_ok c h.2⟩
  | .raw _, _ => trivial
  | .xp _, _ => trivial
  | .xs _ _ _, _ => trivial
theorem okbL_ok {n : Nat} : ∀ l : List SV, okbL n l = true → okL n l
  | [], _ => trivial
  | v :: vs, h => by
    simp only [okbL, Bool.and_eq_true] at h
    exact ⟨SV.okb_ok v h.1, okbL_ok vs h.2⟩
end

theorem SV.den_closed {v : SV} (h : v.ok 0) (β : Nat → Nat) : v.den β = v.den id := SV.den_agree (n := 0) (fun i hi => absurd hi (Nat.not_lt_zero i)) v h

theorem denL_closed {l : List SV} (h : okL 0 l) (β : Nat → Nat) : denL β l = denL id l := denL_agree (n := 0) (fun i hi => absurd hi (Nat.not_lt_zero i)) l h

theorem closedL_spec {l : List SV} {vs : List Value} (h : closedL l = some vs) (β : Nat → Nat) : denL β l = vs ∧ okL 0 l := by
  unfold closedL at h
  split at h
  · rename_i hok
    simp only [Option.some.injEq] at h
    have := okbL_ok l hok
    exact ⟨by rw [denL_closed this, h], this⟩
  · cases h

end Go.Rx

/- Tracked memory: what a symbolic state says of a world; loads, stores and new blocks keep it. -/
set_option linter.unusedVariables false
set_option linter.unusedSimpArgs false
namespace Go.Rx

def SObj.At (β : Nat → Nat) (o : SObj) (x : Option Obj) : Prop :=
  match o with
  | .cells cs tot e lo hi => ∃ rest : List Value, x = some (.cells (denL β cs ++ rest).toArray e (lo, hi)) ∧ cs.length + rest.length = tot
  | .ints k l e lo hi => x = some (.cells (l.map (Value.int k)).toArray e (lo, hi))
  | .other ob => x = some ob
  | .unk => True
  | .vals l tot e lo hi => ∃ rest : List Value, x = some (.cells (l ++ rest).toArray e (lo, hi)) ∧ l.length + rest.length = tot

def SObj.ok (n : Nat) (o : SObj) : Prop :=
  match o with
  | .cells cs _ _ _ _ => okL n cs
  | _ => True

theorem SObj.At_agree {β β' : Nat → Nat} {n : Nat} (h : ∀ i, i < n → β' i = β i) {o : SObj} (ho : o.ok n) {x : Option Obj} (hx : o.At β x) : o.At β' x := by
  cases o with
  | cells cs tot e lo hi =>
    simp only [SObj.At] at *
    rw [denL_agree h cs ho]
    exact hx
  | _ => exact hx

theorem SObj.ok_mono {n m : Nat} (h : n ≤ m) {o : SObj} (ho : o.ok n) : o.ok m := by
  cases o with
  | cells cs tot e lo hi => exact okL_mono h cs ho
  | _ => trivial

structure Ctx where
  P : Program
  β0 : Nat → Nat
  n0 : Nat
  Q : SE → List Value → World → Prop

/-- What is known of memory that is not tracked. -/
structure Old (β : Nat → Nat) (s : SS) (w : World) : Prop where
  fr : ∀ b, b < s.w0.heap.size → (∀ i, i < s.n → β i ≠ b) → w.heap[b]? = s.w0.heap[b]?
  sz : s.w0.heap.size ≤ w.heap.size
  tape : w.tape = s.w0.tape
  os : w.os = s.w0.os
  out : w.output = s.w0.output
  pre : ∀ i b, s.pre[i]? = some b → β i = b
  pren : s.pre.length ≤ s.n
  new : ∀ i, s.pre.length ≤ i → i < s.n → s.w0.heap.size ≤ β i

structure St (Γ : Ctx) (β : Nat → Nat) (s : SS) (w : World) : Prop where
  lt : ∀ i, i < s.n → β i < w.heap.size
  inj : ∀ i j, i < s.n → j < s.n → β i = β j → i = j
  at_ : ∀ (i : Nat) (o : SObj), s.objs[i]? = some o → o.At β w.heap[β i]?
  ok : ∀ (i : Nat) (o : SObj), s.objs[i]? = some o → o.ok s.n
  gl : ∀ p, p ∈ s.gl → p.2 < s.n ∧ β p.2 = p.1
  old : s.ext = true → Old β s w
  base : ∀ i, i < Γ.n0 → β i = Γ.β0 i
  n0 : Γ.n0 ≤ s.n

theorem lt_of_get {s : SS} {i : Nat} {o : SObj} (h : s.objs[i]? = some o) : i < s.n := (List.getElem?_eq_some_iff.1 h).1

section
variable {Γ : Ctx} {β : Nat → Nat} {s : SS} {w : World}

/-- The worlds agree but for the count of draws. -/
structure Like (w w' : World) : Prop where
  heap : w'.heap = w.heap
  tape : w'.tape = w.tape
  os : w'.os = w.os
  out : w'.output = w.output

theorem St.like (h : St Γ β s w) {w' : World} (hl : Like w w') : St Γ β s w' where
  lt := by rw [hl.heap]; exact h.lt
  inj := h.inj
  at_ := by rw [hl.heap]; exact h.at_
  ok := h.ok
  gl := h.gl
  old := fun he => let o := h.old he
    { fr := by rw [hl.heap]; exact o.fr
      sz := by rw [hl.heap]; exact o.sz
      tape := hl.tape.trans o.tape
      os := hl.os.trans o.os
      out := hl.out.trans o.out
      pre := o.pre
      pren := o.pren
      new := o.new }
  base := h.base
  n0 := h.n0

theorem St.drew (h : St Γ β s w) (d : Nat) : St Γ β s { w with drawn := d } := h.like ⟨rfl, rfl, rfl, rfl⟩

def upd (β : Nat → Nat) (n b : Nat) : Nat → Nat := fun i => if i = n then b else β i

theorem upd_lt {β : Nat → Nat} {n b i : Nat} (h : i < n) : upd β n b i = β i := by
  unfold upd; rw [if_neg (by omega)]

theorem upd_at {β : Nat → Nat} {n b : Nat} : upd β n b n = b := by
  unfold upd; rw [if_pos rfl]

theorem SS.n_new (s : SS) (o : SObj) : (s.new o).n = s.n + 1 := by simp [SS.n, SS.new]
theorem SS.n_set (s : SS) (i : Nat) (o : SObj) : (s.set i o).n = s.n := by simp [SS.n, SS.set]

theorem heap_alloc (w : World) (ob : Obj) : (w.alloc ob).heap = w.heap.push ob := rfl

theorem get_new (s : SS) (o : SObj) : (s.objs ++ [o])[s.n]? = some o := by simp [SS.n]

theorem St.alloc (h : St Γ β s w) {o : SObj} {ob : Obj} (hat : o.At (upd β s.n w.heap.size) (some ob)) (hok : o.ok (s.n + 1)) :
    St Γ (upd β s.n w.heap.size) (s.new o) (w.alloc ob) where
  lt := by
    intro i hi
    rw [SS.n_new] at hi
    simp only [World.size_alloc]
    by_cases hin : i = s.n
    · subst hin; rw [upd_at]; omega
    · rw [upd_lt (by omega)]; have := h.lt i (by omega); omega
  inj := by
    intro i j hi hj he
    rw [SS.n_new] at hi hj
    by_cases hin : i = s.n <;> by_cases hjn : j = s.n
    · omega
    · subst hin; rw [upd_at, upd_lt (by omega)] at he; have := h.lt j (by omega); omega
    · subst hjn; rw [upd_at, upd_lt (by omega)] at he; have := h.lt i (by omega); omega
    · rw [upd_lt (by omega), upd_lt (by omega)] at he; exact h.inj i j (by omega) (by omega) he
  at_ := by
    intro i o' hi
    simp only [SS.new] at hi
    by_cases hin : i < s.n
    · rw [List.getElem?_append_left hin] at hi
      have h1 := h.at_ i o' hi
      rw [upd_lt hin]
      have h2 : (w.alloc ob).heap[β i]? = w.heap[β i]? := by
        have := h.lt i hin
        rw [heap_alloc, Array.getElem?_push, if_neg (Nat.ne_of_lt this)]
      rw [h2]
      exact SObj.At_agree (fun j hj => upd_lt hj) (h.ok i o' hi) h1
    · have hlt := (List.getElem?_eq_some_iff.1 hi).1
      simp at hlt
      have hin' : i = s.n := by unfold SS.n at *; omega
      subst hin'
      rw [get_new] at hi
      simp only [Option.some.injEq] at hi
      subst hi
      rw [upd_at, heap_alloc, Array.getElem?_push, if_pos rfl]
      exact hat
  ok := by
    intro i o' hi
    rw [SS.n_new]
    simp only [SS.new] at hi
    by_cases hin : i < s.n
    · rw [List.getElem?_append_left hin] at hi
      exact SObj.ok_mono (Nat.le_succ _) (h.ok i o' hi)
    · have hlt := (List.getElem?_eq_some_iff.1 hi).1
      simp at hlt
      have hin' : i = s.n := by unfold SS.n at *; omega
      subst hin'
      rw [get_new] at hi
      simp only [Option.some.injEq] at hi
      subst hi
      exact hok
  gl := by
    intro p hp
    obtain ⟨h1, h2⟩ := h.gl p hp
    rw [SS.n_new, upd_lt h1]
    exact ⟨by omega, h2⟩
  old := fun he => by
    have o' := h.old he
    refine { fr := ?_, sz := ?_, tape := o'.tape, os := o'.os, out := o'.out, pre := ?_, pren := ?_, new := ?_ }
    · intro b hb hne
      have h1 : (w.alloc ob).heap[b]? = w.heap[b]? := by
        have := o'.sz
        rw [heap_alloc, Array.getElem?_push, if_neg (Nat.ne_of_lt (Nat.lt_of_lt_of_le hb this))]
      rw [h1]
      refine o'.fr b hb fun i hi => ?_
      have := hne i (by rw [SS.n_new]; omega)
      rwa [upd_lt hi] at this
    · simp only [World.size_alloc]; exact Nat.le_succ_of_le o'.sz
    · intro i b hb
      have hlt : i < s.pre.length := (List.getElem?_eq_some_iff.1 hb).1
      have hle := o'.pren
      rw [upd_lt (by omega)]
      exact o'.pre i b hb
    · rw [SS.n_new]; exact Nat.le_succ_of_le o'.pren
    · intro i hi hin
      rw [SS.n_new] at hin
      by_cases hc : i = s.n
      · subst hc; rw [upd_at]; exact o'.sz
      · rw [upd_lt (by omega)]; exact o'.new i hi (by omega)
  base := fun i hi => by rw [upd_lt (Nat.lt_of_lt_of_le hi h.n0)]; exact h.base i hi
  n0 := by rw [SS.n_new]; exact Nat.le_succ_of_le h.n0

/-- One tracked block holds something else now. -/
structure Only (w w' : World) (b : Nat) : Prop where
  size : w'.heap.size = w.heap.size
  other : ∀ b', b' ≠ b → w'.heap[b']? = w.heap[b']?
  tape : w'.tape = w.tape
  os : w'.os = w.os
  out : w'.output = w.output

theorem St.put (h : St Γ β s w) {i : Nat} {o o' : SObj} (hi : s.objs[i]? = some o) {w' : World} (hw : Only w w' (β i)) (hat : o'.At β w'.heap[β i]?) (hok : o'.ok s.n) :
    St Γ β (s.set i o') w' where
  lt := by
    intro j hj
    rw [SS.n_set] at hj
    rw [hw.size]; exact h.lt j hj
  inj := by
    intro j k hj hk
    rw [SS.n_set] at hj hk
    exact h.inj j k hj hk
  at_ := by
    intro j o'' hj
    simp only [SS.set] at hj
    by_cases hji : j = i
    · subst hji
      have hlt := lt_of_get hi
      rw [List.getElem?_set_self hlt] at hj
      simp only [Option.some.injEq] at hj
      subst hj
      exact hat
    · rw [List.getElem?_set_ne (Ne.symm hji)] at hj
      rw [hw.other (β j) fun he => hji (h.inj j i (lt_of_get hj) (lt_of_get hi) he)]
      exact h.at_ j o'' hj
  ok := by
    intro j o'' hj
    rw [SS.n_set]
    simp only [SS.set] at hj
    by_cases hji : j = i
    · subst hji
      have hlt := lt_of_get hi
      rw [List.getElem?_set_self hlt] at hj
      simp only [Option.some.injEq] at hj
      subst hj
      exact hok
    · rw [List.getElem?_set_ne (Ne.symm hji)] at hj
      exact h.ok j o'' hj
  gl := by
    intro p hp
    rw [SS.n_set]
    exact h.gl p hp
  old := fun he => by
    have o' := h.old he
    refine { fr := ?_, sz := ?_, tape := hw.tape.trans o'.tape, os := hw.os.trans o'.os, out := hw.out.trans o'.out, pre := o'.pre, pren := ?_, new := ?_ }
    · intro b hb hne
      rw [hw.other b (fun he => hne i (by rw [SS.n_set]; exact lt_of_get hi) he.symm)]
      exact o'.fr b hb fun j hj => hne j (by rw [SS.n_set]; exact hj)
    · rw [hw.size]; exact o'.sz
    · rw [SS.n_set]; exact o'.pren
    · intro j hj hjn
      rw [SS.n_set] at hjn
      exact o'.new j hj hjn
  base := h.base
  n0 := by rw [SS.n_set]; exact h.n0

/-- A block that is not tracked is as it was. -/
theorem Old.heap {β : Nat → Nat} {s : SS} {w : World} (h : Old β s w) {b : Nat} (hb : b < s.w0.heap.size) (hp : b ∉ s.pre) : w.heap[b]? = s.w0.heap[b]? := by
  refine h.fr b hb fun i hi he => ?_
  by_cases hl : i < s.pre.length
  · have h1 := h.pre i _ (List.getElem?_eq_getElem hl)
    exact hp (by rw [← he, h1]; exact List.getElem_mem hl)
  · have := h.new i (by omega) hi
    omega

theorem Old.cell {β : Nat → Nat} {s : SS} {w : World} (h : Old β s w) {a : Addr} (hb : a.block < s.w0.heap.size) (hp : a.block ∉ s.pre) : w.cell? a = s.w0.cell? a := by
  simp only [World.cell?, h.heap hb hp]

theorem add_block (a : Addr) (n : Nat) : (a.add n).block = a.block := by unfold Addr.add; split <;> rfl

/-! ### Loads -/

theorem add_plain (b off j : Nat) : (Addr.mk b off none).add j = ⟨b, off + j, none⟩ := by
  unfold Addr.add
  split
  · rename_i h; subst h; rfl
  · rfl

theorem St.cell (h : St Γ β s w) {id tot lo hi : Nat} {cs : List SV} {e : TypeId} (ho : s.objs[id]? = some (.cells cs tot e lo hi)) {off : Nat} {v : SV} (hv : cs[off]? = some v) :
    w.cell? ⟨β id, off, none⟩ = some (v.den β) := by
  obtain ⟨rest, h1, _⟩ := h.at_ id _ ho
  have hlt := (List.getElem?_eq_some_iff.1 hv).1
  simp only [World.cell?, h1]
  simp [List.getElem?_append_left (show off < (denL β cs).length by rw [denL_length]; exact hlt), denL_get, hv]

theorem St.icell (h : St Γ β s w) {id lo hi : Nat} {k : IntKind} {l : List Int} {e : TypeId} (ho : s.objs[id]? = some (.ints k l e lo hi)) {off : Nat} (hv : off < l.length) :
    w.cell? ⟨β id, off, none⟩ = some (.int k (l.getD off 0)) := by
  have h1 := h.at_ id _ ho
  simp only [SObj.At] at h1
  simp only [World.cell?, h1]
  simp [hv, List.getD]

variable {P : Program}

theorem run_isAgg {t : TypeId} {r : Option Nat} (h : aggSize P t = some r) : (isAgg t).run P w = .ok r.isSome w := by
  unfold aggSize at h
  unfold isAgg underlying
  cases hu : P.underlying t with
  | none => rw [hu] at h; cases h
  | some d =>
    rw [hu] at h
    cases d <;> simp_all <;> (obtain ⟨i, _, rfl⟩ := h; rfl)

theorem run_sizeOf {t : TypeId} {i : TypeInfo} (h : P.info? t = some i) : (sizeOf t).run P w = .ok i.size w := by
  simp [sizeOf, typeInfo, h]

theorem run_sizeOf_agg {t : TypeId} {n : Nat} (h : aggSize P t = some (some n)) : (sizeOf t).run P w = .ok n w := by
  unfold aggSize at h
  cases hu : P.underlying t with
  | none => rw [hu] at h; cases h
  | some d =>
    rw [hu] at h
    cases d <;> simp at h <;> (obtain ⟨i, hi, rfl⟩ := h; exact run_sizeOf hi)

theorem run_loadVar_one {t : TypeId} (h : aggSize P t = some none) {a : Addr} {v : Value} (hc : w.cell? a = some v) : (loadVar t a).run P w = .ok v w := by
  unfold loadVar
  simp only [Sem.run_bind, run_isAgg h, Result.andThen_ok]
  simp [run_load, hc]

theorem run_loadVar_agg {t : TypeId} {n : Nat} (h : aggSize P t = some (some n)) {b off : Nat} {cs : List Value} (hl : cs.length = n) (hc : ∀ j v, cs[j]? = some v → w.cell? ⟨b, off + j, none⟩ = some v) :
    (loadVar t ⟨b, off, none⟩).run P w = .ok (.agg cs.toArray) w := by
  unfold loadVar
  simp only [Sem.run_bind, run_isAgg h, Result.andThen_ok]
  have := run_loadCells_list (P := P) w ⟨b, off, none⟩ cs (fun j v hv => by rw [add_plain]; exact hc j v hv)
  simp [run_sizeOf_agg h, ← hl, this]

theorem run_loadVar_aggA {t : TypeId} {n : Nat} (h : aggSize P t = some (some n)) {a : Addr} {cs : List Value} (hl : cs.length = n) (hc : ∀ j v, cs[j]? = some v → w.cell? (a.add j) = some v) :
    (loadVar t a).run P w = .ok (.agg cs.toArray) w := by
  unfold loadVar
  simp only [Sem.run_bind, run_isAgg h, Result.andThen_ok]
  have := run_loadCells_list (P := P) w a cs hc
  simp [run_sizeOf_agg h, ← hl, this]

theorem extOne_ok {P : Program} {t : TypeId} {w : World} {a : Addr} {v : SV} (h : extOne P t w a = some v) : v.ok 0 := by
  unfold extOne at h
  split at h <;> first | (simp only [Option.some.injEq] at h; subst h; trivial) | cases h

theorem extCells_ok {P : Program} {w : World} {a : Addr} : ∀ (ts : List TypeId) (j : Nat) (vs : List SV), extCells P w a ts j = some vs → okL 0 vs
  | [], j, vs, h => by simp only [extCells, Option.some.injEq] at h; subst h; trivial
  | t :: ts, j, vs, h => by
    unfold extCells at h
    split at h
    · rename_i v vs' hv hvs
      simp only [Option.some.injEq] at h
      subst h
      exact ⟨extOne_ok hv, extCells_ok ts (j + 1) vs' hvs⟩
    · cases h

/-! ### Stores -/

theorem run_storeCells (b off : Nat) (e : TypeId) (lo hi : Nat) : ∀ (vs : List Value) (i : Nat) (w : World) (c : List Value),
    w.heap[b]? = some (.cells c.toArray e (lo, hi)) → (∀ v ∈ vs, v.oneCell' = true) → off + i + vs.length ≤ c.length → (hi ≤ off + i ∨ off + i + vs.length ≤ lo ∨ hi ≤ lo) →
    ∃ w', (storeCells ⟨b, off, none⟩ vs i).run P w = .ok () w' ∧ w'.heap[b]? = some (.cells (setMany c (off + i) vs).toArray e (lo, hi)) ∧ Only w w' b
  | [], i, w, c, hb, _, _, _ => ⟨w, rfl, hb, rfl, fun _ _ => rfl, rfl, rfl, rfl⟩
  | v :: vs, i, w, c, hb, hv, hlen, hfz => by
    simp only [List.length_cons] at hlen hfz
    have hc : w.cell? ⟨b, off + i, none⟩ = some c[off + i] := by
      simp only [World.cell?, hb]
      simp [show off + i < c.length by omega]
    have hf : w.frozen? ⟨b, off + i, none⟩ = false := by
      simp only [World.frozen?, hb, Bool.and_eq_false_iff, decide_eq_false_iff_not]
      omega
    have hlt : b < w.heap.size := by
      rcases Nat.lt_or_ge b w.heap.size with h | h
      · exact h
      · rw [Array.getElem?_eq_none h] at hb; cases hb
    have hb' : (w.setCell ⟨b, off + i, none⟩ v).heap[b]? = some (.cells (c.set (off + i) v).toArray e (lo, hi)) := by
      simp only [World.setCell, Array.getElem?_modify, if_true, hb, Option.map_some]
      simp
    obtain ⟨w', h1, h2, h3⟩ := run_storeCells b off e lo hi vs (i + 1) (w.setCell ⟨b, off + i, none⟩ v) (c.set (off + i) v) hb' (fun x hx => hv x (List.mem_cons_of_mem _ hx)) (by simp; omega) (by omega)
    refine ⟨w', ?_, ?_, ?_⟩
    · simp only [storeCells, Sem.run_bind, add_plain]
      rw [run_store P w _ v _ (hv v (List.mem_cons_self ..)), hc]
      simp only [hf, Bool.false_eq_true, if_false, Result.andThen_ok]
      exact h1
    · rw [h2]; simp only [setMany]; rfl
    · refine ⟨h3.size.trans (World.size_setCell _ _ _), fun b' hb'' => ?_, h3.tape, h3.os, h3.out⟩
      rw [h3.other b' hb'']
      simp [World.setCell, Array.getElem?_modify, Ne.symm hb'']

theorem setMany_length (vs : List Value) : ∀ (c : List Value) (o : Nat), (setMany c o vs).length = c.length := by
  induction vs with
  | nil => intro c o; rfl
  | cons v vs ih => intro c o; simp [setMany, ih]

end
end Go.Rx

/- The tree of ways holds; the operations' laws. -/
set_option linter.unusedVariables false
set_option linter.unusedSimpArgs false
namespace Go.Rx

def SE.exit' : SE → Exit
  | .normal => .normal
  | .exit i => .exit i
  | .goto l => .goto l
  | .ret => .ret

/-- A frame of symbolic values. -/
def actS (β : Nat → Nat) (a : List SV) : Act := { tmps := (denL β a).toArray, defers := [] }

/-- What is known behind a piece of work: the tracked blocks of before are where they were, and more may have come. -/
structure Ext (Γ : Ctx) (β : Nat → Nat) (s : SS) (β' : Nat → Nat) (s' : SS) (w' : World) : Prop where
  st : St Γ β' s' w'
  le : s.n ≤ s'.n
  agree : ∀ i, i < s.n → β' i = β i

def T.holds (Γ : Ctx) : T → Prop
  | .leaf e vs s => ∀ β w, St Γ β s w → okL s.n vs → Γ.Q e (denL β vs) w
  | .bad _ => False
  | .need p t => p ∧ T.holds Γ t
  | .split b t f => (b = true → T.holds Γ t) ∧ (b = false → T.holds Γ f)
  | .choose q k => ∀ t, T.holds Γ (k (q.cut t))
  | .both a b => T.holds Γ a ∧ T.holds Γ b
  | .call f args s X out k => ∀ β w, St Γ β s w → okL s.n args → Calls Γ.P f (denL β args).toArray w fun e w' =>
      ∃ (x : X) (β' : Nat → Nat) (bs : List Nat), e = .returned ((out x).1.den β') ∧ Ext Γ β s β' (reS s (out x).2 w' bs) w' ∧ (out x).1.ok (out x).2.length ∧ T.holds Γ (k x w' bs)
  | .loop _ body a s X out k Y out' k' => ∀ β w, St Γ β s w → okL s.n a → (Code.loop body).wp Γ.P (fun e a' w' =>
      (∃ (x : X) (β' : Nat → Nat) (bs : List Nat), e = (out x).1.exit' ∧ a' = actS β' (out x).2.1 ∧ Ext Γ β s β' (reS s (out x).2.2 w' bs) w' ∧ okL (out x).2.2.length (out x).2.1 ∧
        (out x).2.1.length = a.length ∧ T.holds Γ (k x w' bs)) ∨
      (∃ (x : Y) (β' : Nat → Nat) (bs : List Nat), e = (out' x).1.exit' ∧ a' = actS β' (out' x).2.1 ∧ Ext Γ β s β' (reS s (out' x).2.2 w' bs) w' ∧ okL (out' x).2.2.length (out' x).2.1 ∧
        (out' x).2.1.length = a.length ∧ T.holds Γ (k' x w' bs))) (actS β a) w

variable {Γ : Ctx} {β : Nat → Nat} {s : SS} {w : World}

theorem Ext.refl (h : St Γ β s w) : Ext Γ β s β s w := ⟨h, Nat.le_refl _, fun _ _ => rfl⟩

theorem Ext.trans {β' β'' : Nat → Nat} {s' s'' : SS} {w' w'' : World} (h : Ext Γ β s β' s' w') (h' : Ext Γ β' s' β'' s'' w'') : Ext Γ β s β'' s'' w'' :=
  ⟨h'.st, Nat.le_trans h.le h'.le, fun i hi => (h'.agree i (Nat.lt_of_lt_of_le hi h.le)).trans (h.agree i hi)⟩

/-- What an operation that yields a value comes to. -/
def Good (Γ : Ctx) (β : Nat → Nat) (s : SS) (r : Result Value) (K : SV → SS → T) : Prop :=
  ∃ v s' β' w', r = .ok (v.den β') w' ∧ Ext Γ β s β' s' w' ∧ v.ok s'.n ∧ (K v s').holds Γ

/-- The same for one that leaves the memory as it is. -/
def Same (Γ : Ctx) (β : Nat → Nat) (s : SS) (w : World) (r : Result Value) (K : SV → T) : Prop :=
  ∃ v, r = .ok (v.den β) w ∧ v.ok s.n ∧ (K v).holds Γ

theorem Same.good {r : Result Value} {K : SV → SS → T} (hs : St Γ β s w) (h : Same Γ β s w r fun v => K v s) : Good Γ β s r K :=
  let ⟨v, h1, h2, h3⟩ := h
  ⟨v, s, β, w, h1, Ext.refl hs, h2, h3⟩

theorem holds_bad {why : String} {p : Prop} (h : (T.bad why).holds Γ) : p := h.elim

/-! ### Loads and stores -/

theorem xCell_sound {id off : Nat} {K : SV → T} (h : (xCell s id off K).holds Γ) (hs : St Γ β s w) :
    ∃ v, w.cell? ⟨β id, off, none⟩ = some (v.den β) ∧ v.ok s.n ∧ (K v).holds Γ := by
  unfold xCell at h
  split at h
  · rename_i cs _ _ _ _ ho
    split at h
    · rename_i v hv
      exact ⟨v, hs.cell ho hv, okL_get (hs.ok id _ ho) hv, h⟩
    · exact h.elim
  · rename_i k l _ _ _ ho
    obtain ⟨hlt, h⟩ := h
    exact ⟨.int k (l.getD off 0) false, hs.icell ho hlt, trivial, h⟩
  · exact h.elim

theorem xLoad_var {t : TypeId} {id off : Nat} {K : SV → T} (h : (xLoad Γ.P t (.ptr id off) s K).holds Γ) (hs : St Γ β s w) :
    Same Γ β s w ((loadVar t ⟨β id, off, none⟩).run Γ.P w) K := by
  simp only [xLoad] at h
  split at h
  · exact h.elim
  · rename_i ha
    obtain ⟨v, h1, h2, h3⟩ := xCell_sound h hs
    exact ⟨v, run_loadVar_one ha h1, h2, h3⟩
  · rename_i n ha
    split at h
    · rename_i cs _ _ _ _ ho
      split at h
      · rename_i l hl
        refine ⟨.agg l, ?_, takeAt_ok hl (hs.ok id _ ho), h⟩
        have hlen := takeAt_length hl
        have := run_loadVar_agg (P := Γ.P) (w := w) ha (b := β id) (off := off) (cs := denL β l) (by rw [denL_length]; exact hlen) (fun j v hv => by
          rw [denL_get] at hv
          cases hj : l[j]? with
          | none => rw [hj] at hv; cases hv
          | some x =>
            rw [hj] at hv
            simp only [Option.map_some, Option.some.injEq] at hv
            have hjlt := (List.getElem?_eq_some_iff.1 hj).1
            rw [takeAt_get hl j (by omega)] at hj
            rw [hs.cell ho hj, hv])
        rw [this]
        simp only [SV.den]
      · exact h.elim
    · exact h.elim

theorem xExt_sound {t : TypeId} {a : Addr} {K : SV → T} (h : (xExt Γ.P t a s K).holds Γ) (hs : St Γ β s w) :
    Same Γ β s w ((loadVar t a).run Γ.P w) K := by
  unfold xExt at h
  split at h
  · rename_i he
    have o := hs.old he
    split at h
    · exact h.elim
    · rename_i ts hts
      split at h
      · exact h.elim
      · rename_i vs hvs
        obtain ⟨⟨hb, hp, hc⟩, h⟩ := h
        have hok := extCells_ok ts 0 vs hvs
        have hc' : ∀ (j : Nat) (v : SV), vs[j]? = some v → w.cell? (a.add j) = some (v.den id) := fun j v hj => by
          rw [o.cell (by rw [add_block]; exact hb) (by rw [add_block]; exact hp)]; exact hc j v hj
        split at h
        · exact h.elim
        · rename_i ha
          split at h
          · rename_i v
            refine ⟨v, run_loadVar_one ha ?_, SV.ok_mono (Nat.zero_le _) v hok.1, h⟩
            rw [SV.den_closed hok.1 β]
            exact hc' 0 v rfl
          · exact h.elim
        · rename_i n ha
          split at h
          · rename_i hn
            refine ⟨.agg vs, ?_, okL_mono (Nat.zero_le _) vs hok, h⟩
            have := run_loadVar_aggA (P := Γ.P) (w := w) ha (a := a) (cs := denL id vs) (by rw [denL_length]; exact hn) (fun j v hv => by
              rw [denL_get] at hv
              cases hj : vs[j]? with
              | none => rw [hj] at hv; cases hv
              | some x =>
                rw [hj] at hv
                simp only [Option.map_some, Option.some.injEq] at hv
                rw [hc' j x hj, hv])
            rw [this]
            simp only [SV.den, denL_closed hok β]
          · exact h.elim
  · exact h.elim

theorem xLoad_sound {t : TypeId} {a : SV} {K : SV → T} (h : (xLoad Γ.P t a s K).holds Γ) (hs : St Γ β s w) :
    Same Γ β s w ((Instr.loadAt t (a.den β)).run Γ.P w) K := by
  cases a with
  | xp a =>
    have := xExt_sound (t := t) (a := a) (K := K) h hs
    simpa [Instr.loadAt, Instr.sureAddr, SV.den] using this
  | ptr id off =>
    have := xLoad_var h hs
    simpa [Instr.loadAt, Instr.sureAddr, SV.den] using this
  | _ => exact (show False from h).elim

theorem thawed_spec {lo hi off n : Nat} (h : thawed lo hi off n = true) : hi ≤ off ∨ off + n ≤ lo ∨ hi ≤ lo := by
  simpa [thawed] using h

/-- Cells written into a tracked row. -/
theorem put_cells {id tot lo hi : Nat} {e : TypeId} {cs cs' vs : List SV} {off : Nat} (hs : St Γ β s w) (ho : s.objs[id]? = some (.cells cs tot e lo hi)) (hp : putAt off vs cs = some cs')
    (hf : thawed lo hi off vs.length = true) (h1 : vs.all SV.isOne = true) (hok : okL s.n vs) :
    ∃ w', (storeCells ⟨β id, off, none⟩ (denL β vs)).run Γ.P w = .ok () w' ∧ St Γ β (s.set id (.cells cs' tot e lo hi)) w' := by
  obtain ⟨rest, hb, htot⟩ := hs.at_ id _ ho
  obtain ⟨p1, p2, p3, p4⟩ := putAt_spec β off vs cs cs' hp
  have := thawed_spec hf
  obtain ⟨w', r1, r2, r3⟩ := run_storeCells (P := Γ.P) (β id) off e lo hi (denL β vs) 0 w (denL β cs ++ rest) hb (fun v hv => by
      rw [denL_map] at hv
      obtain ⟨x, hx, rfl⟩ := List.mem_map.1 hv
      exact SV.isOne_den (List.all_eq_true.1 h1 x hx) β) (by rw [denL_length, List.length_append, denL_length]; omega) (by rw [denL_length]; omega)
  refine ⟨w', r1, hs.put ho r3 ?_ (p4 _ hok (hs.ok id _ ho))⟩
  exact ⟨rest, by rw [r2, Nat.add_zero, p3], by omega⟩

/-- Cells written right behind the known ones. -/
theorem push_cells {id tot lo hi : Nat} {e : TypeId} {cs vs : List SV} (hs : St Γ β s w) (ho : s.objs[id]? = some (.cells cs tot e lo hi))
    (hf : thawed lo hi cs.length vs.length = true) (hroom : cs.length + vs.length ≤ tot) (h1 : vs.all SV.isOne = true) (hok : okL s.n vs) :
    ∃ w', (storeCells ⟨β id, cs.length, none⟩ (denL β vs)).run Γ.P w = .ok () w' ∧ St Γ β (s.set id (.cells (cs ++ vs) tot e lo hi)) w' := by
  obtain ⟨rest, hb, htot⟩ := hs.at_ id _ ho
  have := thawed_spec hf
  obtain ⟨w', r1, r2, r3⟩ := run_storeCells (P := Γ.P) (β id) cs.length e lo hi (denL β vs) 0 w (denL β cs ++ rest) hb (fun v hv => by
      rw [denL_map] at hv
      obtain ⟨x, hx, rfl⟩ := List.mem_map.1 hv
      exact SV.isOne_den (List.all_eq_true.1 h1 x hx) β) (by rw [denL_length, List.length_append, denL_length]; omega) (by rw [denL_length]; omega)
  refine ⟨w', r1, hs.put ho r3 ?_ (okL_append (hs.ok id _ ho) hok)⟩
  refine ⟨rest.drop vs.length, ?_, by rw [List.length_append, List.length_drop]; omega⟩
  rw [r2, Nat.add_zero]
  have key : ∀ (a vs rest : List Value), vs.length ≤ rest.length → setMany (a ++ rest) a.length vs = a ++ vs ++ rest.drop vs.length := by
    intro a vs
    induction vs generalizing a with
    | nil => intro rest _; simp [setMany]
    | cons v vs ih =>
      intro rest hr
      cases rest with
      | nil => simp at hr
      | cons r rest =>
        simp only [List.length_cons] at hr
        simp only [setMany]
        have e1 : (a ++ r :: rest).set a.length v = (a ++ [v]) ++ rest := by
          rw [List.set_append_right _ _ (Nat.le_refl _)]; simp
        have e2 : a.length + 1 = (a ++ [v]).length := by simp
        rw [e1, e2, ih (a ++ [v]) rest (by omega)]
        simp
  have h2 := key (denL β cs) (denL β vs) rest (by rw [denL_length]; omega)
  rw [denL_length, denL_length] at h2
  rw [h2, denL_append]

theorem xStore_sound {t : TypeId} {a v : SV} {K : SS → T} (h : (xStore Γ.P t a v s K).holds Γ) (hs : St Γ β s w) (hv : v.ok s.n) :
    ∃ s' w', (Instr.storeAt t (a.den β) (v.den β)).run Γ.P w = .ok () w' ∧ Ext Γ β s β s' w' ∧ (K s').holds Γ := by
  cases a with
  | ptr id off =>
    simp only [xStore] at h
    split at h
    · exact h.elim
    · rename_i i hi
      split at h
      · rename_i hsz
        split at h
        · rename_i hone
          have hrun : ∀ w', (storeCells ⟨β id, off, none⟩ (denL β v.cells)).run Γ.P w = .ok () w' → (Instr.storeAt t (.pointer (some ⟨β id, off, none⟩)) (v.den β)).run Γ.P w = .ok () w' := by
            intro w' hw
            simp only [Instr.storeAt, Instr.sureAddr, storeVar, Sem.run_bind, Sem.run_pure, Result.andThen_ok, run_sizeOf hi, SV.cells_den]
            simp [denL_length, hsz, hw]
          split at h
          · rename_i cs tot e lo hi' ho
            split at h
            · rename_i cs' hp
              split at h
              · rename_i hf
                obtain ⟨w', r1, r2⟩ := put_cells hs ho hp hf hone (SV.cells_ok hv)
                exact ⟨_, w', hrun w' r1, ⟨r2, by rw [SS.n_set]; exact Nat.le_refl _, fun _ _ => rfl⟩, h⟩
              · exact h.elim
            · exact h.elim
          · rename_i k l e lo hi' ho
            split at h
            · rename_i k' n _
              split at h
              · rename_i hk
                subst hk
                obtain ⟨hlt, hf, h⟩ := h
                have hb := hs.at_ id _ ho
                simp only [SObj.At] at hb
                have := thawed_spec hf
                obtain ⟨w', r1, r2, r3⟩ := run_storeCells (P := Γ.P) (β id) off e lo hi' [.int k n] 0 w (l.map (Value.int k)) hb (by simp [Value.oneCell']) (by simp; omega) (by simp; omega)
                refine ⟨_, w', hrun w' ?_, ⟨hs.put ho r3 (o' := .ints k (l.set off n) e lo hi') ?_ trivial, by rw [SS.n_set]; exact Nat.le_refl _, fun _ _ => rfl⟩, h⟩
                · simpa [SV.cells, denL, SV.den] using r1
                · simp only [SObj.At, r2, Nat.add_zero, setMany]
                  simp [List.map_set]
              · exact h.elim
            · exact h.elim
          · exact h.elim
        · exact h.elim
      · exact h.elim
  | _ => exact (show False from h).elim

/-! ### New blocks -/

theorem xNew_sound {cs : List SV} {e : TypeId} {K : SV → SS → T} (h : (xNew s cs e K).holds Γ) (hs : St Γ β s w) (hok : okL s.n cs) :
    Good Γ β s (.ok (.pointer (some ⟨w.heap.size, 0, none⟩)) (w.alloc (.cells (denL β cs).toArray e))) K := by
  unfold xNew at h
  split at h
  · rename_i hone
    refine ⟨.ptr s.n 0, s.new (.cells cs cs.length e 0 0), upd β s.n w.heap.size, w.alloc (.cells (denL β cs).toArray e), ?_, ⟨hs.alloc (o := .cells cs cs.length e 0 0) ?_ (okL_mono (Nat.le_succ _) cs hok), ?_, fun i hi => upd_lt hi⟩, ?_, h⟩
    · simp only [SV.den, upd_at]
    · refine ⟨[], ?_, by simp⟩
      rw [denL_agree (fun i hi => upd_lt hi) cs hok, List.append_nil]
    · rw [SS.n_new]; exact Nat.le_succ _
    · rw [SS.n_new]; exact Nat.lt_succ_self _
  · exact h.elim

theorem zeroS_spec {t : TypeId} {z : SV} (h : zeroS Γ.P t = some z) : ∃ i v, Γ.P.info? t = some i ∧ i.zero = some v ∧ (∀ β, z.den β = v) ∧ (∀ n, z.ok n) := by
  unfold zeroS at h
  split at h
  · rename_i i hi
    split at h
    · rename_i v hv
      exact ⟨i, v, hi, hv, fun β => SV.ofValue_den h β, fun n => SV.ofValue_ok h n⟩
    · cases h
  · cases h

theorem run_zeroValue {P : Program} {t : TypeId} {i : TypeInfo} {v : Value} (hi : P.info? t = some i) (hv : i.zero = some v) : (zeroValue t).run P w = .ok v w := by
  simp [zeroValue, typeInfo, hi, hv]

theorem xAlloc_sound {e : TypeId} {K : SV → SS → T} (h : (xAlloc Γ.P e s K).holds Γ) (hs : St Γ β s w) :
    Good Γ β s ((Instr.alloc e true (.tuple #[])).run Γ.P w) K := by
  unfold xAlloc at h
  split at h
  · rename_i z hz
    obtain ⟨i, v, hi, hv, hd, hk⟩ := zeroS_spec hz
    have := xNew_sound h hs (SV.cells_ok (hk s.n))
    have hrun : (Instr.alloc e true (.tuple #[])).run Γ.P w = .ok (.pointer (some ⟨w.heap.size, 0, none⟩)) (w.alloc (.cells (denL β z.cells).toArray e)) := by
      simp only [Instr.alloc, Sem.run_bind, run_zeroValue hi hv, Result.andThen_ok]
      simp [newVar, newRow, ← SV.cells_den, hd β]
    rw [hrun]; exact this
  · exact h.elim

theorem run_box {e : TypeId} {v : SV} : (Instr.box e (v.den β)).run Γ.P w = .ok (.pointer (some ⟨w.heap.size, 0, none⟩)) (w.alloc (.cells (denL β v.cells).toArray e)) := by
  simp [Instr.box, newVar, newRow, SV.cells_den]

end Go.Rx

/- The operations' laws: literals, fields, indexing, slicing, len, cap, operators. -/
set_option linter.unusedVariables false
set_option linter.unusedSimpArgs false
namespace Go.Rx

variable {Γ : Ctx} {β : Nat → Nat} {s : SS} {w : World}

theorem run_underlying' {P : Program} {t : TypeId} {d : TypeDesc} (h : P.underlying t = some d) (w : World) : (underlying t).run P w = .ok d w := run_underlying h w

theorem run_typeInfo {P : Program} {t : TypeId} {i : TypeInfo} (h : P.info? t = some i) (w : World) : (typeInfo t).run P w = .ok i w := by
  simp [typeInfo, h]

/-! ### Literals -/

theorem fieldPlaces_run {P : Program} : ∀ (fs : List Field) (l : List (Nat × Nat)), fieldPlaces P fs = some l →
    (fs.mapM (m := Sem) fun f => do pure (f.offset, ← sizeOf f.type)).run P w = .ok l w
  | [], l, h => by simp [fieldPlaces] at h; subst h; rfl
  | f :: fs, l, h => by
    simp only [fieldPlaces] at h
    split at h
    · rename_i i l' hi hl'
      simp only [Option.some.injEq] at h
      subst h
      have ih := fieldPlaces_run fs l' hl'
      simp only [List.mapM_cons, Sem.run_bind, run_sizeOf hi, Result.andThen_ok, Sem.run_pure, ih]
    · cases h

theorem foldl_setMany (vs : List Value) : ∀ (k off : Nat) (a : Array Value), (vs.zipIdx k).foldl (fun cs (c, j) => cs.setIfInBounds (off + j) c) a = (setMany a.toList (off + k) vs).toArray := by
  induction vs with
  | nil => intro k off a; simp [setMany]
  | cons v vs ih =>
    intro k off a
    simp only [List.zipIdx_cons, List.foldl_cons, setMany]
    rw [ih (k + 1) off]
    simp [Nat.add_assoc]

theorem fillS_spec (place : Nat → Option (Nat × Nat)) : ∀ (parts : List (Nat × SV)) (cells cs : List SV), fillS place cells parts = some cs →
    Instr.fill place (denL β cells).toArray (parts.map fun p => (p.1, p.2.den β)) = some (denL β cs).toArray ∧ (∀ n, okL n cells → (∀ p ∈ parts, p.2.ok n) → okL n cs)
  | [], cells, cs, h => by
    simp only [fillS, Option.some.injEq] at h
    subst h
    exact ⟨rfl, fun n hn _ => hn⟩
  | (i, v) :: rest, cells, cs, h => by
    simp only [fillS] at h
    split at h
    · cases h
    · rename_i off size hp
      split at h
      · rename_i hsz
        split at h
        · rename_i cs' hput
          obtain ⟨p1, p2, p3, p4⟩ := putAt_spec β off v.cells cells cs' hput
          obtain ⟨ih1, ih2⟩ := fillS_spec place rest cs' cs h
          refine ⟨?_, fun n hn hall => ih2 n (p4 n (SV.cells_ok (hall (i, v) (List.mem_cons_self ..))) hn) fun p hp => hall p (List.mem_cons_of_mem _ hp)⟩
          simp only [List.map_cons, Instr.fill, hp, SV.cells_den]
          rw [if_neg (by simp [denL_length, hsz]; omega)]
          have e : (denL β v.cells).toArray.zipIdx.foldl (fun cs (c, j) => cs.setIfInBounds (off + j) c) (denL β cells).toArray = (denL β cs').toArray := by
            have := foldl_setMany (denL β v.cells) 0 off (denL β cells).toArray
            have p3' := p3 []
            simp only [List.append_nil] at p3'
            rw [p3']
            simpa using this
          rw [e]
          exact ih1
        · cases h
      · cases h

theorem evP_ok {a : List SV} : ∀ (ps : List (Nat × Operand)) (l : List (Nat × SV)), evP s a ps = some l → (∀ x v, ev s a x = some v → v.ok s.n) → ∀ p ∈ l, p.2.ok s.n
  | [], l, h, _ => by simp [evP] at h; subst h; simp
  | (i, x) :: ps, l, h, hx => by
    simp only [evP] at h
    split at h
    · rename_i v vs hv hvs
      simp only [Option.some.injEq] at h
      subst h
      intro p hp
      rcases List.mem_cons.1 hp with rfl | hp
      · exact hx x v hv
      · exact evP_ok ps vs hvs hx p hp
    · cases h

theorem xBuild_sound {t : TypeId} {parts : List (Nat × SV)} {K : SV → T} (h : (xBuild Γ.P t parts K).holds Γ) (hok : ∀ p ∈ parts, p.2.ok s.n) :
    Same Γ β s w ((Instr.build t (parts.map fun p => (p.1, p.2.den β)).toArray).run Γ.P w) K := by
  unfold xBuild at h
  split at h
  · exact h.elim
  · rename_i z hz
    obtain ⟨i, v, hi, hv, hd, hk⟩ := zeroS_spec hz
    have hzc : v.cells = (denL β z.cells).toArray := by rw [← hd β, SV.cells_den]
    split at h
    · rename_i fields hu
      split at h
      · rename_i places hpl
        split at h
        · rename_i cs hf
          obtain ⟨f1, f2⟩ := fillS_spec (β := β) _ parts z.cells cs hf
          refine ⟨.agg cs, ?_, f2 s.n (SV.cells_ok (hk _)) hok, h⟩
          have hm : (fields.mapM (m := Sem) fun f => do pure (f.offset, ← sizeOf f.type)).run Γ.P w = .ok places.toArray w := by
            rw [Array.mapM_eq_mapM_toList]
            simp only [Sem.run_map, fieldPlaces_run (w := w) _ _ hpl, Result.andThen_ok]
          simp only [Instr.build, Sem.run_bind, run_zeroValue hi hv, Result.andThen_ok, run_underlying' hu, hm, hzc]
          simp only [List.getElem?_toArray, f1, Sem.run_pure]
          rfl
        · exact h.elim
      · exact h.elim
    · rename_i len elem hu
      split at h
      · rename_i ie hie
        split at h
        · rename_i cs hf
          obtain ⟨f1, f2⟩ := fillS_spec (β := β) _ parts z.cells cs hf
          refine ⟨.agg cs, ?_, f2 s.n (SV.cells_ok (hk _)) hok, h⟩
          simp only [Instr.build, Sem.run_bind, run_zeroValue hi hv, Result.andThen_ok, run_underlying' hu, run_sizeOf hie, hzc]
          simp only [f1, Sem.run_pure]
          rfl
        · exact h.elim
      · exact h.elim
    · exact h.elim

theorem rep_den (n : Nat) (z : List SV) : denL β (rep n z) = (List.replicate n (denL β z)).flatten := by
  induction n with
  | zero => rfl
  | succ n ih => simp [rep, denL_append, ih, List.replicate_succ]

theorem rep_ok {n m : Nat} {z : List SV} (h : okL m z) : okL m (rep n z) := by
  induction n with
  | zero => trivial
  | succ n ih => exact okL_append h ih

theorem zeros_eq (z : List Value) (c : Nat) : ((Array.range (c * z.length)).map fun i => z.toArray[i % z.length]!) = (List.replicate c z).flatten.toArray := by
  apply Array.ext'
  rw [Array.toList_map, Array.toList_range]
  induction c with
  | zero => simp
  | succ c ih =>
    rw [Nat.succ_mul, Nat.add_comm, List.replicate_succ, List.flatten_cons, List.range_add, List.map_append]
    have e1 : (List.range z.length).map (fun i => z.toArray[i % z.length]!) = z := by
      apply List.ext_getElem?
      intro i
      by_cases hi : i < z.length
      · simp [hi, Nat.mod_eq_of_lt hi]
      · simp [hi, List.getElem?_eq_none (Nat.le_of_not_lt hi)]
    have e2 : ((List.range (c * z.length)).map fun x => z.length + x).map (fun i => z.toArray[i % z.length]!) = (List.range (c * z.length)).map fun i => z.toArray[i % z.length]! := by
      rw [List.map_map]
      apply List.map_congr_left
      intro i _
      simp [Nat.add_mod_left]
    rw [e1, e2, ih]

theorem xBuildSlice_sound {t : TypeId} {len : Nat} {parts : List (Nat × SV)} {K : SV → SS → T} (h : (xBuildSlice Γ.P t len parts s K).holds Γ) (hs : St Γ β s w) (hok : ∀ p ∈ parts, p.2.ok s.n) :
    Good Γ β s ((Instr.buildSlice t len (parts.map fun p => (p.1, p.2.den β)).toArray).run Γ.P w) K := by
  unfold xBuildSlice at h
  split at h
  · rename_i elem hu
    split at h
    · rename_i inf z hi hz
      obtain ⟨i', v, hi', hv, hd, hk⟩ := zeroS_spec hz
      rw [hi] at hi'
      simp only [Option.some.injEq] at hi'
      subst hi'
      split at h
      · rename_i hc
        obtain ⟨hsz, hle⟩ := hc
        split at h
        · rename_i cs hf
          have hzc : v.cells = (denL β z.cells).toArray := by rw [← hd β, SV.cells_den]
          have okz : okL s.n (rep len z.cells) := rep_ok (SV.cells_ok (hk _))
          obtain ⟨f1, f2⟩ := fillS_spec (β := β) _ parts (rep len z.cells) cs hf
          have okc := f2 s.n okz hok
          have hrun : (Instr.buildSlice t len (parts.map fun p => (p.1, p.2.den β)).toArray).run Γ.P w = .ok (.slice (some ⟨w.heap.size, 0, none⟩) len len) (w.alloc (.cells (denL β cs).toArray elem)) := by
            have hle' : ¬ len * inf.size > 2 ^ 24 := by omega
            simp only [Instr.buildSlice, Sem.run_bind, run_underlying' hu, Result.andThen_ok, run_sizeOf hi, hle', if_false]
            by_cases h0 : len * inf.size = 0
            · simp only [h0, if_true, Sem.run_pure, Sem.run_bind, Result.andThen_ok]
              have e0 : denL β (rep len z.cells) = [] := by
                apply List.eq_nil_of_length_eq_zero
                rw [rep_den]
                simp [List.length_flatten, denL_length, hsz, h0]
              have e1 : ∀ f : Nat → Value, (Array.range 0).map f = #[] := fun f => by apply Array.eq_empty_of_size_eq_zero; simp
              rw [e0] at f1
              simp only [e1]
              have f1' : Instr.fill (fun i => some (i * inf.size, inf.size)) #[] (parts.map fun p => (p.1, p.2.den β)) = some (denL β cs).toArray := f1
              simp only [f1', Sem.run_bind, newRow, run_newObj, Result.andThen_ok, Sem.run_pure]
              rfl
            · simp only [h0, if_false, Sem.run_bind, run_zeroValue hi hv, Result.andThen_ok, Sem.run_pure]
              have e1 := zeros_eq (denL β z.cells) len
              rw [denL_length, hsz] at e1
              have e2 : (Array.range (len * inf.size)).map (fun x => v.cells[x % v.cells.size]!) = (denL β (rep len z.cells)).toArray := by
                rw [rep_den, ← e1, hzc]
                simp [denL_length, hsz]
              simp only [e2, f1, Sem.run_bind, newRow, run_newObj, Result.andThen_ok, Sem.run_pure]
              rfl
          refine ⟨_, _, upd β s.n w.heap.size, _, ?_, ⟨hs.alloc (o := .cells cs cs.length elem 0 0) (ob := .cells (denL β cs).toArray elem) ?_ (okL_mono (Nat.le_succ _) cs okc), ?_, fun i hi => upd_lt hi⟩, ?_, h⟩
          · rw [hrun]
            simp only [SV.den, upd_at]
          · refine ⟨[], ?_, by simp⟩
            rw [List.append_nil, denL_agree (fun i hi => upd_lt hi) _ okc]
          · rw [SS.n_new]; exact Nat.le_succ _
          · rw [SS.n_new]; exact Nat.lt_succ_self _
        · exact h.elim
      · exact h.elim
    · exact h.elim
  · exact h.elim

/-! ### Fields, parts, elements -/

theorem run_fieldPlace {P : Program} {b off : Nat} {f : Field} {i : TypeInfo} (hi : P.info? f.type = some i) (h0 : i.size ≠ 0) :
    (fieldPlace ⟨b, off, none⟩ f).run P w = .ok ⟨b, off + f.offset, none⟩ w := by
  simp [fieldPlace, run_sizeOf hi, h0, add_plain]

theorem xFieldAddr_sound {t : TypeId} {a : SV} {f : Nat} {K : SV → T} (h : (xFieldAddr Γ.P t a f K).holds Γ) (ha : a.ok s.n) :
    Same Γ β s w ((Instr.fieldAt t (a.den β) f).run Γ.P w) K := by
  unfold xFieldAddr at h
  split at h
  · rename_i fields hu
    split at h
    · rename_i fd hfd
      split at h
      · rename_i i hi
        split at h
        · exact h.elim
        · rename_i h0
          split at h
          · rename_i id off
            refine ⟨_, ?_, ?_, h⟩
            · simp [Instr.fieldAt, run_underlying' hu, hfd, SV.den, Instr.sureAddr, run_fieldPlace hi h0]
            · exact ha
          · refine ⟨_, ?_, ?_, h⟩
            · simp [Instr.fieldAt, run_underlying' hu, hfd, SV.den, Instr.sureAddr, fieldPlace, run_sizeOf hi, h0]
            · trivial
          · exact h.elim
      · exact h.elim
    · exact h.elim
  · exact h.elim

theorem partS_run {t : TypeId} {cs : List SV} {off : Nat} {v : SV} (h : partS Γ.P t cs off = some v) :
    (part t (denL β cs).toArray off).run Γ.P w = .ok (v.den β) w ∧ (∀ n, okL n cs → v.ok n) := by
  unfold partS at h
  split at h
  · cases h
  · rename_i ha
    refine ⟨?_, fun n hn => okL_get hn h⟩
    simp only [part, Sem.run_bind, run_isAgg ha, Result.andThen_ok, Option.isSome_none, Bool.false_eq_true, if_false, List.getElem?_toArray, denL_get, h, Option.map_some]
    rfl
  · rename_i n ha
    cases ht : takeAt off n cs with
    | none => rw [ht] at h; cases h
    | some l =>
      rw [ht] at h
      simp only [Option.map_some, Option.some.injEq] at h
      subst h
      refine ⟨?_, fun m hm => takeAt_ok ht hm⟩
      obtain ⟨t1, rfl⟩ := takeAt_spec off n cs l ht
      simp only [part, Sem.run_bind, run_isAgg ha, Result.andThen_ok, Option.isSome_some, if_true, run_sizeOf_agg ha, Sem.run_pure, SV.den]
      congr 2
      simp [denL_map, List.extract_eq_drop_take', List.map_drop, List.map_take]

theorem xField_sound {t : TypeId} {x : SV} {f : Nat} {K : SV → T} (h : (xField Γ.P t x f K).holds Γ) (hx : x.ok s.n) :
    Same Γ β s w ((Instr.field t (x.den β) f).run Γ.P w) K := by
  unfold xField at h
  split at h
  · rename_i fields hu
    split at h
    · rename_i fd hfd
      split at h
      · rename_i cs
        split at h
        · rename_i v hv
          obtain ⟨p1, p2⟩ := partS_run (β := β) (w := w) hv
          refine ⟨v, ?_, p2 _ hx, h⟩
          simp [Instr.field, run_underlying' hu, hfd, SV.den, asAgg, p1]
        · exact h.elim
      · exact h.elim
    · exact h.elim
  · exact h.elim

theorem xIn_spec {i : Int} {n : Nat} {lit : Bool} {t : T} (h : (xIn i n lit t).holds Γ) : (0 ≤ i ∧ i < (n : Int)) ∧ t.holds Γ := by
  unfold xIn at h
  split at h
  · split at h
    · exact ⟨by assumption, h⟩
    · exact h.elim
  · exact h

theorem xIndexAddr_sound {t : TypeId} {x ix : SV} {K : SV → T} (h : (xIndexAddr Γ.P t x ix K).holds Γ) (hx : x.ok s.n) :
    Same Γ β s w ((Instr.indexAt t (x.den β) (ix.den β)).run Γ.P w) K := by
  unfold xIndexAddr at h
  split at h
  · rename_i k i li
    split at h
    · rename_i len elem hu
      split at h
      · rename_i id off
        split at h
        · rename_i inf hi
          obtain ⟨hin, h⟩ := xIn_spec h
          refine ⟨_, ?_, ?_, h⟩
          · simp [Instr.indexAt, SV.den, asIntOf, run_underlying' hu, Instr.sureAddr, hin, run_sizeOf hi, add_plain]
          · exact hx
        · exact h.elim
      · split at h
        · rename_i inf hi
          obtain ⟨hin, h⟩ := xIn_spec h
          refine ⟨_, ?_, ?_, h⟩
          · simp [Instr.indexAt, SV.den, asIntOf, run_underlying' hu, Instr.sureAddr, hin, run_sizeOf hi]
          · trivial
        · exact h.elim
      · exact h.elim
    · rename_i elem hu
      split at h
      · rename_i id off len cap ll lc
        split at h
        · rename_i inf hi
          obtain ⟨hin, h⟩ := xIn_spec h
          refine ⟨_, ?_, ?_, h⟩
          · simp [Instr.indexAt, SV.den, asIntOf, run_underlying' hu, hin, run_sizeOf hi, add_plain]
          · exact hx
        · exact h.elim
      · rename_i A len cap
        split at h
        · rename_i inf hi
          obtain ⟨hin, hA, h⟩ := xIn_spec h
          refine ⟨_, ?_, ?_, h⟩
          · cases A with
            | none => cases hA
            | some a => simp [Instr.indexAt, SV.den, asIntOf, run_underlying' hu, hin, run_sizeOf hi]
          · trivial
        · exact h.elim
      · exact h.elim
    · exact h.elim
  · exact h.elim

theorem xIndex_sound {t : TypeId} {x ix : SV} {K : SV → T} (h : (xIndex Γ.P t x ix K).holds Γ) (hx : x.ok s.n) :
    Same Γ β s w ((Instr.index t (x.den β) (ix.den β)).run Γ.P w) K := by
  unfold xIndex at h
  split at h
  · rename_i k i li
    split at h
    · rename_i len elem hu
      split at h
      · rename_i cs
        split at h
        · rename_i inf hi
          obtain ⟨hin, h⟩ := xIn_spec h
          split at h
          · rename_i v hv
            obtain ⟨p1, p2⟩ := partS_run (β := β) (w := w) hv
            refine ⟨v, ?_, p2 _ hx, h⟩
            simp [Instr.index, SV.den, asIntOf, run_underlying' hu, hin, run_sizeOf hi, p1]
          · exact h.elim
        · exact h.elim
      · exact h.elim
    · rename_i hu
      split at h
      · rename_i str ls
        obtain ⟨hin, h⟩ := xIn_spec h
        refine ⟨_, ?_, by trivial, h⟩
        have hlt : i.toNat < str.size := by omega
        have e1 : str[i.toNat]? = some (str.data.toList.getD i.toNat 0) := by
          rw [getElem?_pos str i.toNat hlt]
          congr 1
          simp only [List.getD_eq_getElem?_getD]
          rw [List.getElem?_eq_getElem (by simpa using hlt)]
          rfl
        simp only [Instr.index, SV.den, asIntOf, Sem.run_bind, Sem.run_pure, Result.andThen_ok, run_underlying' hu, hin.1, if_true, e1]
      · exact h.elim
    · exact h.elim
  · exact h.elim

/-! ### Slicing -/

theorem xBound_sound {x : Option SV} {dflt : Nat} {dl : Bool} {y : Nat} {yl : Bool} {K : Nat → Bool → T} (h : (xBound x dflt dl y yl K).holds Γ) :
    ∃ n l, (K n l).holds Γ ∧ (∀ code, (match x.map (SV.den β) with
      | some v => (Instr.sliceBound v y code).run Γ.P w
      | none => .ok dflt w) = .ok n w) := by
  unfold xBound at h
  split at h
  · exact ⟨dflt, dl, h, fun _ => rfl⟩
  · rename_i k i li
    have key : 0 ≤ i ∧ i ≤ (y : Int) → ∀ code, (Instr.sliceBound (Value.int k i) y code).run Γ.P w = .ok i.toNat w := fun hi code => by
      simp [Instr.sliceBound, asIntOf, hi]
    split at h
    · split at h
      · rename_i hin
        exact ⟨i.toNat, true, h, fun code => key hin code⟩
      · exact h.elim
    · obtain ⟨hin, h⟩ := h
      exact ⟨i.toNat, li, h, fun code => key hin code⟩
  · exact h.elim

theorem xBounds_sound {len : Nat} {ll : Bool} {cap : Nat} {lc : Bool} {low high max : Option SV} {K : Nat → Bool → Nat → Bool → Nat → Bool → T}
    (h : (xBounds len ll cap lc low high max K).holds Γ) (isSlice : Bool) :
    ∃ l l0 hh lh m lm, (K l l0 hh lh m lm).holds Γ ∧ (Instr.sliceBounds isSlice len cap (low.map (SV.den β)) (high.map (SV.den β)) (max.map (SV.den β))).run Γ.P w = .ok (l, hh, m) w := by
  unfold xBounds at h
  split at h
  · exact h.elim
  · rename_i hne
    obtain ⟨m, lm, h, hm⟩ := xBound_sound (β := β) (w := w) h
    obtain ⟨hh, lh, h, hhh⟩ := xBound_sound (β := β) (w := w) h
    obtain ⟨l, l0, h, hl⟩ := xBound_sound (β := β) (w := w) h
    refine ⟨l, l0, hh, lh, m, lm, h, ?_⟩
    cases max with
    | none =>
      simp only [Option.map_none] at hm
      have hm' : cap = m := by simpa using hm .index
      subst hm'
      cases high with
      | none =>
        have hh' : len = hh := by simpa using hhh .index
        subst hh'
        cases low with
        | none =>
          have hl' : 0 = l := by simpa using hl .index
          subst hl'
          simp [Instr.sliceBounds]
        | some v =>
          have := hl .sliceB
          simp only [Option.map_some] at this
          simp [Instr.sliceBounds, this]
      | some v =>
        have h1 := fun code => hhh code
        simp only [Option.map_some] at h1
        cases low with
        | none =>
          have hl' : 0 = l := by simpa using hl .index
          subst hl'
          simp [Instr.sliceBounds, h1]
        | some v =>
          have h2 := hl .sliceB
          simp only [Option.map_some] at h2
          simp [Instr.sliceBounds, h1, h2]
    | some mv =>
      have h0 := fun code => hm code
      simp only [Option.map_some] at h0
      cases high with
      | none => exact (hne _ rfl rfl).elim
      | some v =>
        have h1 := fun code => hhh code
        simp only [Option.map_some] at h1
        cases low with
        | none =>
          have hl' : 0 = l := by simpa using hl .index
          subst hl'
          simp [Instr.sliceBounds, h0, h1]
        | some v =>
          have h2 := hl .slice3C
          simp only [Option.map_some] at h2
          simp [Instr.sliceBounds, h0, h1, h2]

theorem add_slice (b off l m k : Nat) : (if m = l then (⟨b, off, none⟩ : Addr) else (⟨b, off, none⟩ : Addr).add (l * k)) = ⟨b, if m = l then off else off + l * k, none⟩ := by
  split
  · rfl
  · exact add_plain _ _ _

theorem xSlice_sound {t : TypeId} {x : SV} {low high max : Option SV} {K : SV → T} (h : (xSlice Γ.P t x low high max K).holds Γ) (hx : x.ok s.n) :
    Same Γ β s w ((Instr.sliceAt t (x.den β) (low.map (SV.den β)) (high.map (SV.den β)) (max.map (SV.den β))).run Γ.P w) K := by
  unfold xSlice at h
  split at h
  · rename_i hu
    split at h
    · rename_i str ls
      split at h
      · obtain ⟨l, l0, hh, lh, m, lm, h, hb⟩ := xBounds_sound (β := β) (w := w) h false
        refine ⟨_, ?_, by trivial, h⟩
        simp only [Option.map_none] at hb
        simp [Instr.sliceAt, Instr.slice, run_underlying' hu, SV.den, hb]
      · exact h.elim
    · exact h.elim
  · rename_i elem hu
    split at h
    · rename_i inf hi
      split at h
      · rename_i id off len cap ll lc
        obtain ⟨l, l0, hh, lh, m, lm, h, hb⟩ := xBounds_sound (β := β) (w := w) h true
        refine ⟨_, ?_, ?_, h⟩
        · simp only [Instr.sliceAt, Instr.slice, Sem.run_bind, run_underlying' hu, Result.andThen_ok, SV.den, hb, run_sizeOf hi, Sem.run_pure, Option.map_some]
          rw [← add_slice]
          split <;> rfl
        · exact hx
      · rename_i A len cap
        obtain ⟨l, l0, hh, lh, m, lm, h, hb⟩ := xBounds_sound (β := β) (w := w) h true
        refine ⟨_, ?_, by trivial, h⟩
        simp only [Instr.sliceAt, Instr.slice, Sem.run_bind, run_underlying' hu, Result.andThen_ok, SV.den, hb, run_sizeOf hi, Sem.run_pure]
      · rename_i len cap _
        obtain ⟨l, l0, hh, lh, m, lm, h, hb⟩ := xBounds_sound (β := β) (w := w) h true
        refine ⟨_, ?_, by trivial, h⟩
        simp only [Instr.sliceAt, Instr.slice, Sem.run_bind, run_underlying' hu, Result.andThen_ok, SV.den, hb, run_sizeOf hi, Sem.run_pure, Option.map_none]
        split <;> rfl
      · exact h.elim
    · exact h.elim
  · rename_i n elem hu
    split at h
    · rename_i inf hi
      split at h
      · rename_i id off
        obtain ⟨l, l0, hh, lh, m, lm, h, hb⟩ := xBounds_sound (β := β) (w := w) h false
        refine ⟨_, ?_, ?_, h⟩
        · simp only [Instr.sliceAt, Sem.run_bind, run_underlying' hu, Result.andThen_ok, SV.den, Instr.sureAddr, hb, run_sizeOf hi, Sem.run_pure]
          rw [← add_slice]
        · exact hx
      · exact h.elim
    · exact h.elim
  · rename_i arr hu
    split at h
    · rename_i n elem hua
      split at h
      · rename_i inf hi
        split at h
        · rename_i id off
          obtain ⟨l, l0, hh, lh, m, lm, h, hb⟩ := xBounds_sound (β := β) (w := w) h false
          refine ⟨_, ?_, ?_, h⟩
          · simp only [Instr.sliceAt, Instr.slice, Sem.run_bind, run_underlying' hu, Result.andThen_ok, SV.den, asAddr, run_underlying' hua, hb, run_sizeOf hi, Sem.run_pure]
            rw [← add_slice]
          · exact hx
        · exact h.elim
      · exact h.elim
    · exact h.elim
  · exact h.elim

/-! ### len, cap -/

theorem xLen_sound {t ty : TypeId} {ts : List TypeId} {x : SV} {xs : List SV} {K : SV → T} (h : (xLen Γ.P t x K).holds Γ) :
    Same Γ β s w ((Builtin.len_ (t :: ts).toArray ty (denL β (x :: xs)).toArray).run Γ.P w) K := by
  unfold xLen at h
  split at h
  · rename_i hu
    split at h
    · refine ⟨_, ?_, by trivial, h⟩
      simp [Builtin.len_, denL, SV.den, run_underlying' hu, goInt]
    · exact h.elim
  · rename_i n _ hu
    refine ⟨_, ?_, by trivial, h⟩
    simp [Builtin.len_, denL, SV.den, run_underlying' hu, goInt]
  · rename_i arr hu
    split at h
    · rename_i n _ hua
      refine ⟨_, ?_, by trivial, h⟩
      simp [Builtin.len_, denL, SV.den, run_underlying' hu, run_underlying' hua, goInt]
    · exact h.elim
  · rename_i e hu
    split at h
    · refine ⟨_, ?_, by trivial, h⟩
      simp [Builtin.len_, denL, SV.den, run_underlying' hu, goInt]
    · refine ⟨_, ?_, by trivial, h⟩
      simp [Builtin.len_, denL, SV.den, run_underlying' hu, goInt]
    · refine ⟨_, ?_, by trivial, h⟩
      simp [Builtin.len_, denL, SV.den, run_underlying' hu, goInt]
    · exact h.elim
  · exact h.elim

theorem xCap_sound {t ty : TypeId} {ts : List TypeId} {x : SV} {xs : List SV} {K : SV → T} (h : (xCap Γ.P t x K).holds Γ) :
    Same Γ β s w ((Builtin.cap_ (t :: ts).toArray ty (denL β (x :: xs)).toArray).run Γ.P w) K := by
  unfold xCap at h
  split at h
  · rename_i n _ hu
    refine ⟨_, ?_, by trivial, h⟩
    simp [Builtin.cap_, denL, SV.den, run_underlying' hu, goInt]
  · rename_i e hu
    split at h
    · refine ⟨_, ?_, by trivial, h⟩
      simp [Builtin.cap_, denL, SV.den, run_underlying' hu, goInt]
    · refine ⟨_, ?_, by trivial, h⟩
      simp [Builtin.cap_, denL, SV.den, run_underlying' hu, goInt]
    · refine ⟨_, ?_, by trivial, h⟩
      simp [Builtin.cap_, denL, SV.den, run_underlying' hu, goInt]
    · exact h.elim
  · exact h.elim

end Go.Rx

/- The operations' laws: operators, conversions, assertions, methods, append, copy. -/
set_option linter.unusedVariables false
set_option linter.unusedSimpArgs false
namespace Go.Rx

variable {Γ : Ctx} {β : Nat → Nat} {s : SS} {w : World}

/-! ### Equality -/

theorem plainObj_spec {i : Nat} (h : plainObj s i = true) (hs : St Γ β s w) : ∃ c e, w.heap[β i]? = some (.cells c e (0, 0)) := by
  unfold plainObj at h
  split at h
  · rename_i cs tot e lo hi ho
    simp only [Bool.and_eq_true, beq_iff_eq] at h
    obtain ⟨rfl, rfl⟩ := h
    obtain ⟨rest, h1, _⟩ := hs.at_ i _ ho
    exact ⟨_, _, h1⟩
  · rename_i k l e lo hi ho
    simp only [Bool.and_eq_true, beq_iff_eq] at h
    obtain ⟨rfl, rfl⟩ := h
    have h1 := hs.at_ i _ ho
    exact ⟨_, _, h1⟩
  · cases h

theorem run_sameAddr {P : Program} {a b o o' : Nat} {c c' : Array Value} {e e' : TypeId} (hne : a ≠ b) (ha : w.heap[a]? = some (.cells c e (0, 0))) (hb : w.heap[b]? = some (.cells c' e' (0, 0))) :
    (sameAddr ⟨a, o, none⟩ ⟨b, o', none⟩).run P w = .ok false w := by
  have fa : ∀ k sp, w.frozen? ⟨a, k, sp⟩ = false := fun k sp => by simp [World.frozen?, ha]
  have fb : ∀ k sp, w.frozen? ⟨b, k, sp⟩ = false := fun k sp => by simp [World.frozen?, hb]
  have sa : w.shape? a = some (e, c.size) := by simp [World.shape?, ha]
  have sb : w.shape? b = some (e', c'.size) := by simp [World.shape?, hb]
  have hne' : (a == b) = false := by simpa using hne
  simp [sameAddr, hne', fa, fb, noView, viewAt, sa, sb, mayBeOne, stringish]

theorem isNilPtr_spec {a : SV} (h : isNilPtr a = true) : a.den β = .pointer none := by
  unfold isNilPtr at h
  split at h
  · rfl
  · cases h

theorem isNilIface_spec {a : SV} (h : isNilIface a = true) : a.den β = .nilIface := by
  unfold isNilIface at h
  split at h
  · rfl
  · cases h

theorem isNilSlice_spec {a : SV} (h : isNilSlice a = true) : ∃ n c, a.den β = .slice none n c := by
  unfold isNilSlice at h
  split at h
  · exact ⟨_, _, rfl⟩
  · cases h

theorem equalIn_nil_xs {P : Program} {t e : TypeId} {d : Nat} {A : Option Addr} {n c n' c' : Nat} (hu : P.underlying t = some (.slice e)) :
    (Op.equalIn (d + 1) t (.slice none n c) (.slice A n' c')).run P w = .ok A.isNone w := by
  cases A <;> simp [Op.equalIn, run_underlying' hu]

theorem equalIn_xs_nil {P : Program} {t e : TypeId} {d : Nat} {A : Option Addr} {n c n' c' : Nat} (hu : P.underlying t = some (.slice e)) :
    (Op.equalIn (d + 1) t (.slice A n c) (.slice none n' c')).run P w = .ok A.isNone w := by
  cases A <;> simp [Op.equalIn, run_underlying' hu]

theorem xEqBase_sound {t : TypeId} {a b : SV} {K : Bool → Bool → T} (d : Nat) (h : (xEqBase Γ.P t a b s K).holds Γ) (hs : St Γ β s w) (ha : a.ok s.n) (hb : b.ok s.n) :
    ∃ r l, (Op.equalIn (d + 1) t (a.den β) (b.den β)).run Γ.P w = .ok r w ∧ (K r l).holds Γ := by
  unfold xEqBase at h
  split at h
  · rename_i hu
    split at h
    · exact ⟨_, _, by simp [Op.equalIn, run_underlying' hu, SV.den], h⟩
    · exact h.elim
  · rename_i k hu
    split at h
    · split at h
      · rename_i hk
        exact ⟨_, _, by simp [Op.equalIn, run_underlying' hu, SV.den, hk], h⟩
      · exact h.elim
    · exact h.elim
  · rename_i hu
    split at h
    · exact ⟨_, _, by simp [Op.equalIn, run_underlying' hu, SV.den], h⟩
    · exact h.elim
  · rename_i elem hu
    split at h
    · rename_i na
      split at h
      · rename_i nb
        exact ⟨_, _, by simp [Op.equalIn, run_underlying' hu, isNilPtr_spec na, isNilPtr_spec nb], h⟩
      · split at h
        · exact ⟨_, _, by simp [Op.equalIn, run_underlying' hu, isNilPtr_spec na, SV.den], h⟩
        · exact ⟨_, _, by simp [Op.equalIn, run_underlying' hu, isNilPtr_spec na, SV.den], h⟩
        · exact h.elim
    · split at h
      · split at h
        · rename_i nb
          exact ⟨_, _, by simp [Op.equalIn, run_underlying' hu, isNilPtr_spec nb, SV.den], h⟩
        · exact h.elim
      · rename_i i o _
        split at h
        · rename_i nb
          exact ⟨_, _, by simp [Op.equalIn, run_underlying' hu, isNilPtr_spec nb, SV.den], h⟩
        · split at h
          · rename_i j o' _
            split at h
            · rename_i inf hi
              split at h
              · exact h.elim
              · rename_i h0
                split at h
                · rename_i hij
                  subst hij
                  refine ⟨_, _, ?_, h⟩
                  simp only [Op.equalIn, Sem.run_bind, run_underlying' hu, Result.andThen_ok, SV.den, run_sizeOf hi, ne_eq, h0, not_false_eq_true, if_true, sameAddr]
                  simp
                  rw [Bool.eq_iff_iff]; simp
                · rename_i hij
                  split at h
                  · rename_i hp
                    rw [Bool.and_eq_true] at hp
                    obtain ⟨c, e, hca⟩ := plainObj_spec hp.1 hs
                    obtain ⟨c', e', hcb⟩ := plainObj_spec hp.2 hs
                    refine ⟨_, _, ?_, h⟩
                    have hne : β i ≠ β j := fun he => hij (hs.inj i j ha hb he)
                    simp only [Op.equalIn, Sem.run_bind, run_underlying' hu, Result.andThen_ok, SV.den, run_sizeOf hi, ne_eq, h0, not_false_eq_true, if_true]
                    exact run_sameAddr hne hca hcb
                  · exact h.elim
            · exact h.elim
          · exact h.elim
      · exact h.elim
  · rename_i e hu
    split at h
    · rename_i na
      obtain ⟨n, c, hna⟩ := isNilSlice_spec (β := β) na
      split at h
      · rename_i nb
        obtain ⟨n', c', hnb⟩ := isNilSlice_spec (β := β) nb
        exact ⟨_, _, by simp [Op.equalIn, run_underlying' hu, hna, hnb], h⟩
      · split at h
        · exact ⟨_, _, by simp [Op.equalIn, run_underlying' hu, hna, SV.den], h⟩
        · exact ⟨_, _, by rw [hna]; exact equalIn_nil_xs hu, h⟩
        · exact h.elim
    · split at h
      · split at h
        · rename_i nb
          obtain ⟨n', c', hnb⟩ := isNilSlice_spec (β := β) nb
          exact ⟨_, _, by simp [Op.equalIn, run_underlying' hu, hnb, SV.den], h⟩
        · exact h.elim
      · split at h
        · rename_i nb
          obtain ⟨n', c', hnb⟩ := isNilSlice_spec (β := β) nb
          exact ⟨_, _, by rw [hnb]; exact equalIn_xs_nil hu, h⟩
        · exact h.elim
      · exact h.elim
  · exact h.elim

theorem xEq_sound' {t : TypeId} {a b : SV} {K : Bool → Bool → T} (d : Nat) (h : (xEq Γ.P t a b s K).holds Γ) (hs : St Γ β s w) (ha : a.ok s.n) (hb : b.ok s.n) :
    ∃ r l, (Op.equalIn (d + 1 + 1) t (a.den β) (b.den β)).run Γ.P w = .ok r w ∧ (K r l).holds Γ := by
  unfold xEq at h
  split at h
  · rename_i ms hu
    split at h
    · rename_i na
      split at h
      · rename_i nb
        exact ⟨_, _, by simp [Op.equalIn, run_underlying' hu, isNilIface_spec na, isNilIface_spec nb], h⟩
      · split at h
        · exact ⟨_, _, by simp [Op.equalIn, run_underlying' hu, isNilIface_spec na, SV.den], h⟩
        · exact h.elim
    · split at h
      · rename_i ta va _
        split at h
        · rename_i nb
          exact ⟨_, _, by simp [Op.equalIn, run_underlying' hu, isNilIface_spec nb, SV.den], h⟩
        · split at h
          · rename_i tb vb _
            split at h
            · rename_i htt
              subst htt
              split at h
              · rename_i inf hi
                split at h
                · rename_i hc
                  obtain ⟨r, l, h1, h2⟩ := xEqBase_sound (β := β) d h hs ha hb
                  refine ⟨r, l, ?_, h2⟩
                  rw [Op.equalIn]
                  simp only [Sem.run_bind, run_underlying' hu, Result.andThen_ok, SV.den, ne_eq, not_true_eq_false, if_false, run_typeInfo hi, hc, Bool.not_true, Bool.false_eq_true]
                  exact h1
                · exact h.elim
              · exact h.elim
            · rename_i htt
              refine ⟨_, _, ?_, h⟩
              rw [Op.equalIn]
              simp only [Sem.run_bind, run_underlying' hu, Result.andThen_ok, SV.den, ne_eq, htt, not_false_eq_true, if_true, Sem.run_pure]
          · exact h.elim
      · exact h.elim
  · exact xEqBase_sound (β := β) (d + 1) h hs ha hb

theorem xEq_sound {t : TypeId} {a b : SV} {K : Bool → Bool → T} (h : (xEq Γ.P t a b s K).holds Γ) (hs : St Γ β s w) (ha : a.ok s.n) (hb : b.ok s.n) :
    ∃ r l, (Op.equal t (a.den β) (b.den β)).run Γ.P w = .ok r w ∧ (K r l).holds Γ := xEq_sound' 9998 h hs ha hb

/-! ### Operators -/

theorem isConstOp_spec {x : Operand} (h : isConstOp x = true) : ∃ v, x = .const v := by
  unfold isConstOp at h
  split at h
  · exact ⟨_, rfl⟩
  · cases h

theorem eqGuard_plain {P : Program} {op : BinOp} {t : TypeId} {x y : Operand} {a b : Value} (hagg : ∀ c c', ¬ (a = .agg c ∧ b = .agg c')) (hnil : a = .nilIface → b = .nilIface → (∃ v, x = .const v) ∨ (∃ v, y = .const v)) :
    (eqGuard op t x y a b).run P w = .ok () w := by
  have key : ∀ o : BinOp, (o = .eql ∨ o = .neq) → (eqGuard o t x y a b).run P w = .ok () w := by
    intro o ho
    cases a with
    | nilIface =>
      cases b with
      | nilIface => rcases hnil rfl rfl with ⟨v, rfl⟩ | ⟨v, rfl⟩ <;> rcases ho with rfl | rfl <;> first | rfl | (cases x <;> rfl)
      | _ => rcases ho with rfl | rfl <;> rfl
    | agg c =>
      cases b with
      | agg c' => exact (hagg c c' ⟨rfl, rfl⟩).elim
      | _ => rcases ho with rfl | rfl <;> rfl
    | _ => rcases ho with rfl | rfl <;> rfl
  cases op <;> first
    | exact key _ (.inl rfl)
    | exact key _ (.inr rfl)
    | rfl

theorem xEq_noAgg {P : Program} {t : TypeId} {c c' : List SV} {K : Bool → Bool → T} (h : (xEq P t (.agg c) (.agg c') s K).holds Γ) : False := by
  unfold xEq xEqBase at h
  split at h
  · exact h
  · split at h <;> exact h

/-- A value that '==' compares by the type. -/
def EqDen (v : Value) : Prop := (∃ b, v = .bool b) ∨ (∃ a, v = .pointer a) ∨ (∃ a n c, v = .slice a n c) ∨ (∃ t x, v = .iface t x) ∨ v = .nilIface

theorem eqForm_den {v : SV} (h : eqForm v = true) : EqDen (v.den β) := by
  unfold eqForm at h
  split at h <;> first
    | exact .inl ⟨_, rfl⟩
    | exact .inr (.inl ⟨_, rfl⟩)
    | exact .inr (.inr (.inl ⟨_, _, _, rfl⟩))
    | exact .inr (.inr (.inr (.inl ⟨_, _, rfl⟩)))
    | exact .inr (.inr (.inr (.inr rfl)))
    | cases h

theorem binOp_eql {t : TypeId} {a b : Value} (ha : EqDen a) (hb : EqDen b) : binOp .eql t a b = (do pure (.bool (← Op.equal t a b))) := by
  rcases ha with ⟨_, rfl⟩ | ⟨_, rfl⟩ | ⟨_, _, _, rfl⟩ | ⟨_, _, rfl⟩ | rfl <;> rcases hb with ⟨_, rfl⟩ | ⟨_, rfl⟩ | ⟨_, _, _, rfl⟩ | ⟨_, _, rfl⟩ | rfl <;> rfl

theorem binOp_neq {t : TypeId} {a b : Value} (ha : EqDen a) (hb : EqDen b) : binOp .neq t a b = (do pure (.bool (!(← Op.equal t a b)))) := by
  rcases ha with ⟨_, rfl⟩ | ⟨_, rfl⟩ | ⟨_, _, _, rfl⟩ | ⟨_, _, rfl⟩ | rfl <;> rcases hb with ⟨_, rfl⟩ | ⟨_, rfl⟩ | ⟨_, _, _, rfl⟩ | ⟨_, _, rfl⟩ | rfl <;> rfl

theorem xBin_sound {op : BinOp} {t : TypeId} {x y : Operand} {a b : SV} {K : SV → T} (h : (xBin Γ.P op t x y a b s K).holds Γ) (hs : St Γ β s w) (ha : a.ok s.n) (hb : b.ok s.n) :
    Same Γ β s w ((do eqGuard op t x y (a.den β) (b.den β); binOp op t (a.den β) (b.den β)).run Γ.P w) K := by
  unfold xBin at h
  split at h
  · rename_i k n ln k' m lm
    have hg : (eqGuard op t x y (.int k n) (.int k' m)).run Γ.P w = .ok () w :=
      eqGuard_plain (by simp) (by simp)
    simp only [Same, SV.den, Sem.run_bind, hg, Result.andThen_ok]
    split at h
    · split at h
      · split at h
        · rename_i h0
          exact ⟨_, by simp [binOp, Op.shift, show ¬ m < 0 by omega, SV.den], by trivial, h⟩
        · exact h.elim
      · obtain ⟨h0, h⟩ := h
        exact ⟨_, by simp [binOp, Op.shift, show ¬ m < 0 by omega, SV.den], by trivial, h⟩
    · split at h
      · split at h
        · rename_i h0
          exact ⟨_, by simp [binOp, Op.shift, show ¬ m < 0 by omega, SV.den], by trivial, h⟩
        · exact h.elim
      · obtain ⟨h0, h⟩ := h
        exact ⟨_, by simp [binOp, Op.shift, show ¬ m < 0 by omega, SV.den], by trivial, h⟩
    · split at h
      · rename_i hk
        subst hk
        split at h
        · exact ⟨_, by simp [binOp, Op.intArith, SV.den], by trivial, h⟩
        · exact ⟨_, by simp [binOp, Op.intArith, SV.den], by trivial, h⟩
        · exact ⟨_, by simp [binOp, Op.intArith, SV.den], by trivial, h⟩
        · split at h
          · split at h
            · exact h.elim
            · rename_i h0
              exact ⟨_, by simp [binOp, Op.intDiv, h0, SV.den], by trivial, h⟩
          · obtain ⟨h0, h⟩ := h
            exact ⟨_, by simp [binOp, Op.intDiv, h0, SV.den], by trivial, h⟩
        · split at h
          · split at h
            · exact h.elim
            · rename_i h0
              exact ⟨_, by simp [binOp, Op.intDiv, h0, SV.den], by trivial, h⟩
          · obtain ⟨h0, h⟩ := h
            exact ⟨_, by simp [binOp, Op.intDiv, h0, SV.den], by trivial, h⟩
        · exact ⟨_, by simp [binOp, Op.intBits, SV.den], by trivial, h⟩
        · exact ⟨_, by simp [binOp, Op.intBits, SV.den], by trivial, h⟩
        · exact ⟨_, by simp [binOp, Op.intBits, SV.den], by trivial, h⟩
        · exact ⟨_, by simp [binOp, Op.intBits, SV.den], by trivial, h⟩
        · exact ⟨_, by simp [binOp, Op.intCmp, SV.den], by trivial, h⟩
        · exact ⟨_, by simp [binOp, Op.intCmp, SV.den], by trivial, h⟩
        · exact ⟨_, by simp [binOp, Op.intCmp, SV.den], by trivial, h⟩
        · exact ⟨_, by simp [binOp, Op.intCmp, SV.den], by trivial, h⟩
        · exact ⟨_, by simp [binOp, Op.intCmp, SV.den], by trivial, h⟩
        · exact ⟨_, by simp [binOp, Op.intCmp, SV.den], by trivial, h⟩
        · exact h.elim
      · exact h.elim
  · rename_i u lu v lv
    have hg : (eqGuard op t x y (.string u) (.string v)).run Γ.P w = .ok () w :=
      eqGuard_plain (by simp) (by simp)
    simp only [Same, SV.den, Sem.run_bind, hg, Result.andThen_ok]
    split at h
    · exact ⟨_, by simp [binOp, Op.stringOp, SV.den], by trivial, h⟩
    · exact ⟨_, by simp [binOp, Op.stringOp, SV.den], by trivial, h⟩
    · exact ⟨_, by simp [binOp, Op.stringOp, SV.den], by trivial, h⟩
    · split at h
      · split at h
        · exact h.elim
        · rename_i h0
          exact ⟨_, by simp only [binOp, Op.stringOp, h0, if_false, Sem.run_pure, SV.den], by trivial, h⟩
      · obtain ⟨h0, h⟩ := h
        exact ⟨_, by simp only [binOp, Op.stringOp, show ¬ (((u.size + v.size : Nat) : Int) > IntKind.i64.max) by omega, if_false, Sem.run_pure, SV.den], by trivial, h⟩
    · exact h.elim
  · rename_i hni hns
    split at h
    · exact h.elim
    · rename_i hnn
      split at h
      rotate_left
      · exact h.elim
      rename_i hform
      rw [Bool.and_eq_true] at hform
      have main : (eqGuard op t x y (a.den β) (b.den β)).run Γ.P w = .ok () w := by
        refine eqGuard_plain ?_ ?_
        · rintro c c' ⟨e1, e2⟩
          have fa := eqForm_den (β := β) hform.1
          rw [e1] at fa
          rcases fa with ⟨_, h⟩ | ⟨_, h⟩ | ⟨_, _, _, h⟩ | ⟨_, _, h⟩ | h <;> cases h
        · intro e1 e2
          have i1 : isNilIface a = true := by
            cases a with
            | one v hv => cases v <;> simp_all [SV.den, isNilIface]
            | raw v => exact absurd hform.1 (by simp [eqForm])
            | _ => simp [SV.den] at e1
          have i2 : isNilIface b = true := by
            cases b with
            | one v hv => cases v <;> simp_all [SV.den, isNilIface]
            | raw v => exact absurd hform.2 (by simp [eqForm])
            | _ => simp [SV.den] at e2
          simp only [i1, i2, Bool.and_self, Bool.true_and, Bool.not_eq_true', Bool.not_eq_false, Bool.or_eq_true] at hnn
          rcases hnn with hx | hx
          · exact .inl (isConstOp_spec hx)
          · exact .inr (isConstOp_spec hx)
      have fa := eqForm_den (β := β) hform.1
      have fb := eqForm_den (β := β) hform.2
      split at h
      · obtain ⟨r, l, h1, h2⟩ := xEq_sound (β := β) h hs ha hb
        refine ⟨_, ?_, by trivial, h2⟩
        simp only [Sem.run_bind, main, Result.andThen_ok, binOp_eql fa fb, Sem.run_map, h1]
        rfl
      · obtain ⟨r, l, h1, h2⟩ := xEq_sound (β := β) h hs ha hb
        refine ⟨_, ?_, by trivial, h2⟩
        simp only [Sem.run_bind, main, Result.andThen_ok, binOp_neq fa fb, Sem.run_map, h1]
        rfl
      · exact h.elim

theorem xUn_sound {op : UnOp} {x : SV} {K : SV → T} (h : (xUn op x K).holds Γ) : Same Γ β s w ((Op.unary op (x.den β)).run Γ.P w) K := by
  unfold xUn at h
  split at h
  · exact ⟨_, rfl, by trivial, h⟩
  · exact ⟨_, by simp only [Op.unary, Op.intBits, Sem.run_pure, SV.den], by trivial, h⟩
  · exact ⟨_, rfl, by trivial, h⟩
  · exact h.elim


/-! ### What is appended, copied, converted -/

theorem intsAt_spec (k : IntKind) (l : List Int) : ∀ (n off : Nat), off + n ≤ l.length → denL β (intsAt k l off n) = ((l.drop off).take n).map (Value.int k) ∧ (intsAt k l off n).length = n ∧ (∀ m, okL m (intsAt k l off n))
  | 0, off, _ => by simp [intsAt, denL, okL]
  | n + 1, off, h => by
    obtain ⟨h1, h2, h3⟩ := intsAt_spec k l n (off + 1) (by omega)
    refine ⟨?_, by simp [intsAt, h2], fun m => ⟨trivial, h3 m⟩⟩
    have hlt : off < l.length := by omega
    rw [List.drop_eq_getElem_cons hlt, List.take_succ_cons, List.map_cons, ← h1]
    simp [intsAt, denL, SV.den, List.getD, hlt]

theorem xFirst_sound {n : Nat} {x : SV} {K : List SV → T} (h : (xFirst n x s K).holds Γ) (hs : St Γ β s w) :
    ∃ vs, vs.length = n ∧ okL s.n vs ∧ (K vs).holds Γ ∧ (∀ size m, n = m * size → ∀ w', Like w w' → (Builtin.firstCells size m (x.den β)).run Γ.P w' = .ok (denL β vs).toArray w') ∧
      (∀ size m, n = m * size → ∀ w', Like w w' → ∀ b o nn c, x.den β = .slice (some ⟨b, o, none⟩) nn c → (loadCells ⟨b, o, none⟩ n).run Γ.P w' = .ok (denL β vs).toArray w') := by
  unfold xFirst at h
  split at h
  · rename_i id off nn c ll lc
    split at h
    · rename_i cs tot e lo hi ho
      split at h
      · rename_i l hl
        have hlen := takeAt_length hl
        have key : ∀ w', Like w w' → (loadCells ⟨β id, off, none⟩ n).run Γ.P w' = .ok (denL β l).toArray w' := by
          intro w' hw
          have hs' := hs.like hw
          have := run_loadCells_list (P := Γ.P) w' ⟨β id, off, none⟩ (denL β l) (fun j v hv => by
            rw [add_plain]
            rw [denL_get] at hv
            cases hj : l[j]? with
            | none => rw [hj] at hv; cases hv
            | some x =>
              rw [hj] at hv
              simp only [Option.map_some, Option.some.injEq] at hv
              have hjlt := (List.getElem?_eq_some_iff.1 hj).1
              rw [takeAt_get hl j (by omega)] at hj
              rw [hs'.cell ho hj, hv])
          rwa [denL_length, hlen] at this
        refine ⟨l, hlen, takeAt_ok hl (hs.ok id _ ho), h, fun size m hm w' hw => ?_, fun size m hm w' hw b o nn' c' he => ?_⟩
        · simp only [SV.den, Builtin.firstCells, ← hm]
          exact key w' hw
        · simp only [SV.den, Value.slice.injEq, Option.some.injEq, Addr.mk.injEq] at he
          obtain ⟨⟨rfl, rfl, _⟩, _⟩ := he
          exact key w' hw
      · exact h.elim
    · rename_i k l e lo hi ho
      obtain ⟨hle, h⟩ := h
      obtain ⟨i1, i2, i3⟩ := intsAt_spec (β := β) k l n off hle
      have key : ∀ w', Like w w' → (loadCells ⟨β id, off, none⟩ n).run Γ.P w' = .ok (denL β (intsAt k l off n)).toArray w' := by
        intro w' hw
        have hs' := hs.like hw
        have := run_loadCells_list (P := Γ.P) w' ⟨β id, off, none⟩ (denL β (intsAt k l off n)) (fun j v hv => by
          rw [add_plain]
          have hjlt := (List.getElem?_eq_some_iff.1 hv).1
          rw [denL_length, i2] at hjlt
          rw [hs'.icell ho (show off + j < l.length by omega)]
          rw [i1] at hv
          simp only [List.getElem?_map, List.getElem?_take_of_lt hjlt, List.getElem?_drop] at hv
          rw [List.getElem?_eq_getElem (show off + j < l.length by omega)] at hv
          simp only [Option.map_some, Option.some.injEq] at hv
          rw [← hv]
          simp [List.getD, show off + j < l.length by omega])
        rwa [denL_length, i2] at this
      refine ⟨_, i2, i3 _, h, fun size m hm w' hw => ?_, fun size m hm w' hw b o nn' c' he => ?_⟩
      · simp only [SV.den, Builtin.firstCells, ← hm]
        exact key w' hw
      · simp only [SV.den, Value.slice.injEq, Option.some.injEq, Addr.mk.injEq] at he
        obtain ⟨⟨rfl, rfl, _⟩, _⟩ := he
        exact key w' hw
    · exact h.elim
  · split at h
    · rename_i hn
      subst hn
      refine ⟨[], rfl, trivial, h, fun size m hm w' hw => ?_, fun size m hm w' hw b o nn' c' he => ?_⟩
      · simp [SV.den, Builtin.firstCells, denL]
      · simp [SV.den] at he
    · exact h.elim
  · exact h.elim

end Go.Rx

/- The operations' laws: make, append, copy, conversions, assertions, methods. -/
set_option linter.unusedVariables false
set_option linter.unusedSimpArgs false
namespace Go.Rx

variable {Γ : Ctx} {β : Nat → Nat} {s : SS} {w : World}

/-! ### make -/

theorem wrap64_of {n : Int} (h0 : 0 ≤ n) (h1 : n < 2 ^ 63) : IntKind.i64.wrap n = n := by
  have e : n % 2 ^ 64 = n := Int.emod_eq_of_lt h0 (by omega)
  simp only [IntKind.wrap, IntKind.bits, IntKind.signed, e]
  rw [if_neg (by simp; omega)]

theorem run_makeSlice {P : Program} {t elem : TypeId} {inf : TypeInfo} {n c : Int} {k k' : IntKind} {z : Value} (hu : P.underlying t = some (.slice elem)) (hi : P.info? elem = some inf)
    (h0 : 0 ≤ n) (h1 : n ≤ c) (h2 : (inf.bytes : Int) * c ≤ 2 ^ 48) (h3 : c < 2 ^ 63) (hz : inf.zero = some z) (hsz : z.cells.size = inf.size) :
    (Instr.makeSlice t (.int k n) (.int k' c)).run P w = .ok (.slice (some ⟨w.heap.size, 0, none⟩) n.toNat c.toNat) (w.alloc (.cells (List.replicate c.toNat z.cells.toList).flatten.toArray elem)) := by
  have e1 := wrap64_of h0 (by omega : n < 2 ^ 63)
  have e2 := wrap64_of (by omega : 0 ≤ c) h3
  simp only [Instr.makeSlice, Sem.run_bind, run_underlying' hu, Result.andThen_ok, asInt, asIntOf, Sem.run_pure, run_typeInfo hi, e1, e2]
  have hc1 : ¬ ((inf.bytes : Int) * c > 2 ^ 48) := by omega
  have hn : ¬ n < 0 := by omega
  have hc0 : ¬ c < 0 := by omega
  have hnc : ¬ n > c := by omega
  simp only [hc0, hc1, hn, hnc, decide_false, Bool.or_false, Bool.false_eq_true, or_false, if_false, Sem.run_bind, run_askRoom, Result.andThen_ok, run_sizeOf hi]
  by_cases hcz : c.toNat * inf.size = 0
  · simp only [hcz, if_true, Sem.run_pure, Sem.run_bind, Result.andThen_ok, newRow, run_newObj]
    have : (List.replicate c.toNat z.cells.toList).flatten = [] := by
      apply List.eq_nil_of_length_eq_zero
      simp [List.length_flatten, hsz, hcz]
    have e0 : ∀ f : Nat → Value, (Array.range 0).map f = #[] := fun f => by apply Array.eq_empty_of_size_eq_zero; simp
    simp [this, e0]
  · simp only [hcz, if_false, Sem.run_bind, run_zeroValue hi hz, Result.andThen_ok, Sem.run_pure, newRow, run_newObj]
    have := zeros_eq z.cells.toList c.toNat
    simp only [Array.length_toList, hsz, Array.toArray_toList] at this
    rw [hsz, this]
    rfl

theorem zeroOk_spec {P : Program} {e : TypeId} {n : Nat} (h : zeroOk P e n = true) : ∃ i v, P.info? e = some i ∧ i.zero = some v ∧ v.cells.size = n := by
  unfold zeroOk at h
  split at h
  · rename_i z hz
    let Γ : Ctx := { P := P, β0 := id, n0 := 0, Q := fun _ _ _ => True }
    obtain ⟨i, v, hi, hv, hd, hk⟩ := zeroS_spec (Γ := Γ) hz
    refine ⟨i, v, hi, hv, ?_⟩
    rw [← hd id, SV.cells_den]
    simpa [denL_length] using h
  · cases h

theorem xMakeSlice_sound {t : TypeId} {len cap : SV} {K : SV → SS → T} (h : (xMakeSlice Γ.P t len cap s K).holds Γ) (hs : St Γ β s w) :
    Good Γ β s ((Instr.makeSlice t (len.den β) (cap.den β)).run Γ.P w) K := by
  unfold xMakeSlice at h
  split at h
  · rename_i elem hu
    split at h
    · rename_i inf hi
      split at h
      · rename_i k n ln k' c lc
        split at h
        · split at h
          · rename_i hc
            obtain ⟨h0, h1, h2, h3⟩ := hc
            split at h
            · rename_i z hz
              obtain ⟨i', v, hi', hv, hd, hk⟩ := zeroS_spec hz
              rw [hi] at hi'
              simp only [Option.some.injEq] at hi'
              subst hi'
              split at h
              · rename_i hsz
                split at h
                · rename_i hone
                  have hvc : v.cells = (denL β z.cells).toArray := by rw [← hd β, SV.cells_den]
                  have hrun := run_makeSlice (w := w) (k := k) (k' := k') (z := v) hu hi h0 h1 h2 h3 hv (by rw [hvc]; simp [denL_length, hsz])
                  refine ⟨_, _, upd β s.n w.heap.size, _, ?_, ⟨hs.alloc (o := .cells (rep c.toNat z.cells) (rep c.toNat z.cells).length elem 0 0) (ob := .cells (denL β (rep c.toNat z.cells)).toArray elem) ?_ (okL_mono (Nat.le_succ _) _ (rep_ok (SV.cells_ok (hk _)))), ?_, fun i hi => upd_lt hi⟩, ?_, h⟩
                  rotate_left
                  · refine ⟨[], ?_, by simp⟩
                    rw [List.append_nil, denL_agree (fun i hi => upd_lt hi) _ (rep_ok (SV.cells_ok (hk s.n)))]
                  · rw [SS.n_new]; exact Nat.le_succ _
                  · rw [SS.n_new]; exact Nat.lt_succ_self _
                  · simp only [SV.den, upd_at]
                    rw [hrun, hvc, rep_den]
                · exact h.elim
              · exact h.elim
            · exact h.elim
          · exact h.elim
        · split at h
          · rename_i kk z hz
            split at h
            · rename_i hz1
              obtain ⟨rfl, hsz⟩ := hz1
              obtain ⟨⟨h0, h1, h2, h3⟩, h⟩ := h
              have hrun := run_makeSlice (w := w) (k := k) (k' := k') hu hi h0 h1 h2 h3 hz (by simp [Value.cells, hsz])
              refine ⟨_, _, upd β s.n w.heap.size, _, ?_, ⟨hs.alloc (o := .ints kk (List.replicate c.toNat 0) elem 0 0) (ob := .cells ((List.replicate c.toNat 0).map (Value.int kk)).toArray elem) ?_ trivial, ?_, fun i hi => upd_lt hi⟩, ?_, h⟩
              rotate_left
              · rfl
              · rw [SS.n_new]; exact Nat.le_succ _
              · rw [SS.n_new]; exact Nat.lt_succ_self _
              · simp only [SV.den, upd_at]
                rw [hrun]
                simp [Value.cells]
            · exact h.elim
          · split at h
            · rename_i hz1
              simp only [Bool.and_eq_true, decide_eq_true_eq] at hz1
              obtain ⟨⟨_, rfl⟩, hzok⟩ := hz1
              obtain ⟨⟨h1, h2, h3⟩, h⟩ := h
              obtain ⟨i', z, hi', hz, hzs⟩ := zeroOk_spec hzok
              rw [hi] at hi'
              simp only [Option.some.injEq] at hi'
              subst hi'
              have hrun := run_makeSlice (w := w) (k := k) (k' := k') (z := z) hu hi (Int.le_refl 0) h1 h2 h3 hz hzs
              refine ⟨_, _, upd β s.n w.heap.size, _, ?_, ⟨hs.alloc (o := .vals [] (c.toNat * inf.size) elem 0 0) (ob := .cells (List.replicate c.toNat z.cells.toList).flatten.toArray elem) ?_ trivial, ?_, fun i hi => upd_lt hi⟩, ?_, h⟩
              rotate_left
              · exact ⟨(List.replicate c.toNat z.cells.toList).flatten, rfl, by simp [List.length_flatten, hzs]⟩
              · rw [SS.n_new]; exact Nat.le_succ _
              · rw [SS.n_new]; exact Nat.lt_succ_self _
              · simp only [SV.den, upd_at]
                rw [hrun]
                simp
            · exact h.elim
      · exact h.elim
    · exact h.elim
  · exact h.elim

/-! ### Assertions, conversions -/

theorem xAssert_sound {x : SV} {xt asserted : TypeId} {ok : Bool} {K : SV → T} (h : (xAssert Γ.P x asserted ok K).holds Γ) (hx : x.ok s.n) :
    Same Γ β s w ((Instr.typeAssert (x.den β) xt asserted ok).run Γ.P w) K := by
  unfold xAssert at h
  have hfail : ∀ (st dy : Option TypeId) (m : String), (assertFails Γ.P asserted ok K).holds Γ →
      ∃ v, (if ok = true then (do pure (.tuple #[← zeroValue asserted, .bool false])) else runtimePanic (.typeAssertion st dy asserted m) : Sem Value).run Γ.P w = .ok (v.den β) w ∧ v.ok s.n ∧ (K v).holds Γ := by
    intro st dy m hf
    unfold assertFails at hf
    split at hf
    · rename_i hok
      split at hf
      · rename_i z hz
        obtain ⟨i, v, hi, hv, hd, hk⟩ := zeroS_spec hz
        refine ⟨.tup [z, .bool false true], ?_, ⟨hk _, trivial, trivial⟩, hf⟩
        simp [hok, run_zeroValue hi hv, SV.den, denL, hd β]
      · exact hf.elim
    · exact hf.elim
  have hhold : ∀ v : SV, v.ok s.n → (assertHolds ok v K).holds Γ →
      ∃ r, (pure (if ok = true then .tuple #[v.den β, .bool true] else v.den β) : Sem Value).run Γ.P w = .ok (SV.den β r) w ∧ r.ok s.n ∧ (K r).holds Γ := by
    intro v hv hk
    unfold assertHolds at hk
    split at hk
    · rename_i hok
      exact ⟨.tup [v, .bool true true], by simp [hok, SV.den, denL], ⟨hv, trivial, trivial⟩, hk⟩
    · rename_i hok
      exact ⟨v, by simp [hok], hv, hk⟩
  split at h
  · rename_i want hu
    split at h
    · rename_i hn
      obtain ⟨v, h1, h2, h3⟩ := hfail none none "" h
      refine ⟨v, ?_, h2, h3⟩
      rw [isNilIface_spec hn]
      simp only [Instr.typeAssert, Sem.run_bind, run_underlying' hu, Result.andThen_ok]
      exact h1
    · split at h
      · rename_i t v _
        split at h
        · rename_i inf hi
          split at h
          · rename_i hm
            obtain ⟨r, h1, h2, h3⟩ := hhold (.ifc t v) hx h
            refine ⟨r, ?_, h2, h3⟩
            simp only [Instr.typeAssert, Sem.run_bind, run_underlying' hu, Result.andThen_ok, SV.den, run_typeInfo hi, hm]
            exact h1
          · rename_i m hm
            obtain ⟨r, h1, h2, h3⟩ := hfail none (some t) m h
            refine ⟨r, ?_, h2, h3⟩
            simp only [Instr.typeAssert, Sem.run_bind, run_underlying' hu, Result.andThen_ok, SV.den, run_typeInfo hi, hm]
            exact h1
        · exact h.elim
      · exact h.elim
  · rename_i d hd hu
    split at h
    · rename_i hn
      obtain ⟨v, h1, h2, h3⟩ := hfail (some xt) none "" h
      refine ⟨v, ?_, h2, h3⟩
      rw [isNilIface_spec hn]
      simp only [Instr.typeAssert, Sem.run_bind, run_underlying' hu, Result.andThen_ok]
      cases d <;> first | exact (hd _ rfl).elim | exact h1
    · split at h
      · rename_i t v _
        split at h
        · rename_i htt
          obtain ⟨r, h1, h2, h3⟩ := hhold v hx h
          refine ⟨r, ?_, h2, h3⟩
          simp only [Instr.typeAssert, Sem.run_bind, run_underlying' hu, Result.andThen_ok, SV.den]
          cases d <;> first | exact (hd _ rfl).elim | (simp only [htt, if_true]; exact h1)
        · rename_i htt
          obtain ⟨r, h1, h2, h3⟩ := hfail (some xt) (some t) "" h
          refine ⟨r, ?_, h2, h3⟩
          simp only [Instr.typeAssert, Sem.run_bind, run_underlying' hu, Result.andThen_ok, SV.den]
          cases d <;> first | exact (hd _ rfl).elim | (simp only [htt, if_false]; exact h1)
      · exact h.elim
  · exact h.elim

theorem intsOf_spec : ∀ (cs : List SV) (ns : List Int) (l : Bool), intsOf cs = some (ns, l) → denL β cs = ns.map (Value.int .u8)
  | [], ns, l, h => by
    simp only [intsOf, Option.some.injEq, Prod.mk.injEq] at h
    rw [← h.1]; rfl
  | c :: cs, ns, l, h => by
    unfold intsOf at h
    split at h
    · rename_i heq; cases heq
    · rename_i n lit r heq
      simp only [List.cons.injEq] at heq
      obtain ⟨rfl, rfl⟩ := heq
      split at h
      · rename_i ns' lr hr
        simp only [Option.some.injEq, Prod.mk.injEq] at h
        rw [← h.1]
        simp only [denL, SV.den, List.map_cons, intsOf_spec _ ns' lr hr]
      · cases h
    · cases h

theorem bytesS_den (l : List UInt8) (lit : Bool) : denL β (bytesS l lit) = l.map fun b => Value.int .u8 (b.toNat : Int) := by
  induction l with
  | nil => rfl
  | cons b bs ih => simp [bytesS, denL, SV.den, ih]

theorem bytesS_ok (l : List UInt8) (lit : Bool) (n : Nat) : okL n (bytesS l lit) := by
  induction l with
  | nil => trivial
  | cons b bs ih => exact ⟨trivial, ih⟩

theorem run_stringToBytes {P : Program} {e : TypeId} {u : ByteArray} : ∃ c, u.size ≤ c ∧ c = (Question.appendCap u.size 0 e).cut (w.tape w.drawn (.appendCap u.size 0 e)) ∧
    ∃ w', Like w w' ∧ (Conv.stringToBytes e u).run P w = .ok (.slice (some ⟨w.heap.size, 0, none⟩) u.size c)
      (w'.alloc (.cells (u.data.toList.map (fun (b : UInt8) => Value.int .u8 (b.toNat : Int)) ++ List.replicate (c - u.size) (Value.int .u8 0)).toArray e (c, c + 1))) := by
  refine ⟨_, ?_, rfl, { w with drawn := w.drawn + 1 }, ⟨rfl, rfl, rfl, rfl⟩, ?_⟩
  · simp only [Question.cut]; exact Nat.le_add_right _ _
  · generalize hc : (Question.appendCap u.size 0 e).cut (w.tape w.drawn (.appendCap u.size 0 e)) = c
    have hle : u.size ≤ c := by rw [← hc]; simp only [Question.cut]; exact Nat.le_add_right _ _
    simp only [Conv.stringToBytes, Sem.run_bind, run_choose, Question.forced, Bool.false_eq_true, if_false, hc, Result.andThen_ok, newRow, run_newObj, Sem.run_pure, markStringish, run_shape]
    have hsz : ((u.data.map fun b => Value.int IntKind.u8 (b.toNat : Int)) ++ Array.replicate (c - u.size) (Value.int IntKind.u8 0)).size = c := by
      simp; have : u.data.size = u.size := rfl; omega
    have hs1 : World.shape? { w with drawn := w.drawn + 1, heap := w.heap.push (.cells ((u.data.map fun b => Value.int IntKind.u8 (b.toNat : Int)) ++ Array.replicate (c - u.size) (Value.int IntKind.u8 0)) e) } w.heap.size = some (e, c) := by
      simp [World.shape?, hsz]
    simp only [hs1, run_freeze, Result.andThen_ok]
    congr 1
    simp only [World.freeze, World.alloc]
    simp only [Nat.one_ne_zero, if_false]
    congr 1
    apply Array.ext_getElem?
    intro i
    simp only [Array.getElem?_modify, Array.getElem?_push]
    by_cases hi : i = w.heap.size
    · subst hi
      simp
    · simp [hi, Ne.symm hi]

theorem bytesOf_mk (ns : List Int) : bytesOf ns = ⟨(ns.map fun n => UInt8.ofNat n.toNat).toArray⟩ := by
  have key : ∀ (ns : List Int) (r : ByteArray), ns.foldl (fun r n => r.push (UInt8.ofNat n.toNat)) r = ⟨r.data ++ (ns.map fun n => UInt8.ofNat n.toNat).toArray⟩ := by
    intro ns
    induction ns with
    | nil => intro r; simp
    | cons n ns ih =>
      intro r
      simp only [List.foldl_cons, ih, List.map_cons]
      congr 1
      simp [ByteArray.push]
  have := key ns ByteArray.empty
  unfold bytesOf
  rw [this]
  congr 1
  simp [ByteArray.empty, ByteArray.emptyWithCapacity]
  rfl

theorem intAt_of {w : World} {a : Addr} {k : IntKind} {n : Int} (h : w.cell? a = some (.int k n)) : intAt w a = n := by simp [intAt, h]

/-- The bytes of a slice that is not tracked, as cells. -/
theorem ext_cells {A : Option Addr} {n : Nat} (o : Old β s w) (hc : canBytes s.w0 s.pre A n) : ∀ a, A = some a → ∀ j v, (valsAt s.w0 A n)[j]? = some v → w.cell? (a.add j) = some v := by
  rintro a rfl j v hj
  unfold valsAt at hj
  have hlt := (List.getElem?_eq_some_iff.1 hj).1
  simp only [List.length_map, List.length_range] at hlt
  rcases hc with h0 | ⟨a', ha, hb, hp, hi⟩
  · omega
  · simp only [Option.some.injEq] at ha
    subst ha
    obtain ⟨b, hb'⟩ := hi j hlt
    rw [o.cell (by rw [add_block]; exact hb) (by rw [add_block]; exact hp), hb']
    simp [hlt, intAt_of hb'] at hj
    rw [← hj]

theorem ext_string {A : Option Addr} {n cap : Nat} (o : Old β s w) (hc : canBytes s.w0 s.pre A n) :
    (Conv.bytesToString (.slice A n cap)).run Γ.P w = .ok (.string (bytesAt s.w0 A n)) w := by
  cases A with
  | none =>
    rcases hc with rfl | ⟨a, h, _⟩
    · simp [Conv.bytesToString, bytesAt]; rfl
    · cases h
  | some a =>
    have hl := run_loadCells_list (P := Γ.P) w a (valsAt s.w0 (some a) n) (ext_cells o hc a rfl)
    have hlen : (valsAt s.w0 (some a) n).length = n := by simp [valsAt]
    rw [hlen] at hl
    have e1 : valsAt s.w0 (some a) n = ((List.range n).map fun i => intAt s.w0 (a.add i)).map (Value.int .u8) := by simp [valsAt]
    rw [e1] at hl
    rw [run_bytesToString w a n cap _ hl]
    have := bytesOf_mk ((List.range n).map fun i => intAt s.w0 (a.add i))
    unfold bytesOf at this
    rw [this]
    simp [bytesAt]

theorem byteVals_map {l : List Value} (h : byteVals l) : l = (l.map valInt).map (Value.int .u8) := by
  induction l with
  | nil => rfl
  | cons v vs ih =>
    obtain ⟨b, hb⟩ := h v (by simp)
    simp only [List.map_cons]
    rw [← ih fun u hu => h u (by simp [hu])]
    rw [hb]; rfl

theorem St.vcell (h : St Γ β s w) {id tot lo hi : Nat} {l : List Value} {e : TypeId} (ho : s.objs[id]? = some (.vals l tot e lo hi)) {off : Nat} {v : Value} (hv : l[off]? = some v) :
    w.cell? ⟨β id, off, none⟩ = some v := by
  obtain ⟨rest, h1, _⟩ := h.at_ id _ ho
  have hlt := (List.getElem?_eq_some_iff.1 hv).1
  simp only [World.cell?, h1]
  simp [List.getElem?_append_left hlt, hv]

theorem vals_load {id tot lo hi off len : Nat} {l : List Value} {e : TypeId} (hs : St Γ β s w) (ho : s.objs[id]? = some (.vals l tot e lo hi)) (hle : off + len ≤ l.length) :
    (loadCells ⟨β id, off, none⟩ len).run Γ.P w = .ok ((l.drop off).take len).toArray w := by
  have := run_loadCells_list (P := Γ.P) w ⟨β id, off, none⟩ ((l.drop off).take len) (fun j v hv => by
    rw [add_plain]
    have hjlt := (List.getElem?_eq_some_iff.1 hv).1
    simp only [List.length_take, List.length_drop] at hjlt
    rw [List.getElem?_take_of_lt (show j < len by omega), List.getElem?_drop] at hv
    exact hs.vcell ho hv)
  have e1 : ((l.drop off).take len).length = len := by simp; omega
  rwa [e1] at this

theorem xConvert_sound {src dst : TypeId} {x : SV} {K : SV → SS → T} (h : (xConvert Γ.P src dst x s K).holds Γ) (hs : St Γ β s w) :
    Good Γ β s ((convert src dst (x.den β)).run Γ.P w) K := by
  unfold xConvert at h
  split at h
  · rename_i ds k hsrc hdst
    split at h
    · refine Same.good hs ⟨_, ?_, by trivial, h⟩
      cases ds <;> simp [convert, run_underlying' hsrc, run_underlying' hdst, SV.den, Conv.intToInt]
    · exact h.elim
  · rename_i ds hsrc hdst
    split at h
    · refine Same.good hs ⟨_, ?_, by trivial, h⟩
      cases ds <;> simp [convert, run_underlying' hsrc, run_underlying' hdst, SV.den]
    · rename_i id off len cap ll lc
      split at h
      · rename_i e
        split at h
        · rename_i he
          split at h
          · obtain ⟨vs, f1, f2, f3, f4, f5⟩ := xFirst_sound h hs
            split at f3
            · rename_i ns lit hns
              refine Same.good hs ⟨_, ?_, by trivial, f3⟩
              have hl := f5 1 len (by omega) w ⟨rfl, rfl, rfl, rfl⟩ (β id) off len cap rfl
              rw [intsOf_spec _ _ _ hns] at hl
              simp only [SV.den]
              rw [run_convert_bytes_string w src dst e _ _ _ hsrc he hdst]
              exact run_bytesToString w _ len cap ns hl
            · exact f3.elim
          · split at h
            · rename_i l e' lo hi ho
              obtain ⟨hle, h⟩ := h
              refine Same.good hs ⟨_, ?_, by trivial, h⟩
              simp only [SV.den]
              rw [run_convert_bytes_string w src dst e _ _ _ hsrc he hdst]
              refine run_bytesToString w _ len cap _ ?_
              have hx : (xFirst len (.slc id off len cap ll lc) s fun _ => T.leaf .normal [] s).holds { Γ with Q := fun _ _ _ => True } := by
                simp only [xFirst, ho]
                exact ⟨hle, fun _ _ _ _ => True.intro⟩
              obtain ⟨i1, i2, i3⟩ := intsAt_spec (β := β) .u8 l len off hle
              have := run_loadCells_list (P := Γ.P) w ⟨β id, off, none⟩ (((l.drop off).take len).map (Value.int .u8)) (fun j v hv => by
                rw [add_plain]
                have hjlt := (List.getElem?_eq_some_iff.1 hv).1
                simp only [List.length_map, List.length_take, List.length_drop] at hjlt
                rw [hs.icell ho (show off + j < l.length by omega)]
                simp only [List.getElem?_map, List.getElem?_take_of_lt (show j < len by omega), List.getElem?_drop] at hv
                rw [List.getElem?_eq_getElem (show off + j < l.length by omega)] at hv
                simp only [Option.map_some, Option.some.injEq] at hv
                rw [← hv]
                simp [List.getD, show off + j < l.length by omega])
              have e1 : (((l.drop off).take len).map (Value.int .u8)).length = len := by simp; omega
              rwa [e1] at this
            · rename_i l e' tot lo hi ho
              obtain ⟨⟨hle, hbv⟩, h⟩ := h
              refine Same.good hs ⟨_, ?_, by trivial, h⟩
              simp only [SV.den]
              rw [run_convert_bytes_string w src dst e _ _ _ hsrc he hdst]
              refine run_bytesToString w _ len cap _ ?_
              have := vals_load (Γ := Γ) hs ho hle
              rwa [byteVals_map hbv] at this
            · exact h.elim
        · exact h.elim
      · exact h.elim
    · rename_i A nn cc
      split at h
      · rename_i hext
        split at h
        · rename_i e
          split at h
          · rename_i he
            obtain ⟨hcb, h⟩ := h
            refine Same.good hs ⟨_, ?_, by trivial, h⟩
            simp only [SV.den]
            rw [run_convert_bytes_string w src dst e _ _ _ hsrc he hdst]
            exact ext_string (hs.old hext) hcb
          · exact h.elim
        · exact h.elim
      · exact h.elim
    · rename_i nn cc _
      split at h
      · rename_i e
        split at h
        · rename_i he
          refine Same.good hs ⟨_, ?_, by trivial, h⟩
          simp only [SV.den]
          rw [run_convert_bytes_string w src dst e _ _ _ hsrc he hdst]
          simp [Conv.bytesToString]
        · exact h.elim
      · exact h.elim
    · exact h.elim
  · rename_i ds e hsrc hdst
    split at h
    · rename_i u l
      split at h
      · rename_i he
        obtain ⟨c, c1, c2, w', c3, c4⟩ := run_stringToBytes (w := w) (P := Γ.P) (e := e) (u := u)
        have hrun : (convert src dst (SV.den β (.str u l))).run Γ.P w = (Conv.stringToBytes e u).run Γ.P w := by
          cases ds <;> simp [convert, run_underlying' hsrc, run_underlying' hdst, run_underlying' he, SV.den]
        have h := h (w.tape w.drawn (.appendCap u.size 0 e))
        rw [← c2] at h
        have hs' := hs.like c3
        have hsz : w'.heap.size = w.heap.size := by rw [c3.heap]
        refine ⟨_, _, upd β s.n w'.heap.size, _, ?_, ⟨hs'.alloc (ob := .cells (u.data.toList.map (fun (b : UInt8) => Value.int .u8 (b.toNat : Int)) ++ List.replicate (c - u.size) (Value.int .u8 0)).toArray e (c, c + 1)) ?_ ?_, ?_, fun i hi => upd_lt hi⟩, ?_, h⟩
        · rw [hrun, c4]
          simp only [SV.den, upd_at, hsz]
        · cases l
          · simp only [Bool.false_eq_true, if_false, SObj.At]
            congr 2
            simp
          · simp only [if_true]
            refine ⟨List.replicate (c - u.size) (.int .u8 0), by rw [bytesS_den], ?_⟩
            have : (bytesS u.data.toList true).length = u.size := by rw [← denL_length β, bytesS_den]; simp
            rw [this, List.length_replicate]; omega
        · cases l
          · trivial
          · exact bytesS_ok _ _ _
        · rw [SS.n_new]; exact Nat.le_succ _
        · rw [SS.n_new]; exact Nat.lt_succ_self _
      · exact h.elim
    · exact h.elim
  · exact h.elim

end Go.Rx

