/- Arguments: what their readings say of memory. -/
import Derived.Test.YtdmnoagahjbjhaaGreatDoorM0
import Derived.Deep.Slices
import Derived.ChangeSame
set_option linter.unusedVariables false
set_option linter.unusedSimpArgs false
open Go.ChangeShapes Go.WideShapes
namespace Go.Rx

instance : Inhabited Comp := ⟨⟨0, []⟩⟩

theorem lt_of_cell {w : World} {a : Addr} {v : Value} (h : w.cell? a = some v) : a.block < w.heap.size := by
  refine Decidable.byContradiction fun hn => ?_
  have : w.heap[a.block]? = none := by simp; omega
  simp [World.cell?, this] at h

/-- The types of a slice of components. -/
structure CompTypes (P : Program) (T E U : TypeId) (f0 f1 : Field) : Prop where
  t : P.underlying T = some (.slice E)
  e : P.underlying E = some (.struct #[f0, f1])
  ec : P.cellsOf E = 2
  eb : 0 < P.bytesOf E
  i : P.underlying f0.type = some (.int .i64)
  io : f0.offset = 0
  ic : P.cellsOf f0.type = 1
  y : P.underlying f1.type = some (.slice U)
  yo : f1.offset = 1
  yc : P.cellsOf f1.type = 1
  u : P.underlying U = some (.int .u8)
  uc : P.cellsOf U = 1
  ub : 0 < P.bytesOf U

section
variable {H : Type} {enc : TypeId × Value → H} {P : Program} {w : World} {fuel : Nat} {cs : List Value} {x : DataW H × List MemPlace}

theorem weightsAll_of {E : TypeId} : ∀ {l : List (DataW H)} {d : DataW H}, d ∈ l → ∀ n ∈ d.weights P E, n ∈ DataW.weightsAll P E l
  | _ :: l, d, hd, n, hn => by
    simp only [DataW.weightsAll, List.mem_append]
    rcases List.mem_cons.1 hd with rfl | h
    · exact .inl hn
    · exact .inr (weightsAll_of h n hn)

theorem bts_of_trod {T U : TypeId} (hT : P.underlying T = some (.slice U)) (hU : P.underlying U = some (.int .u8)) (hUc : P.cellsOf U = 1) (hb : 0 < P.bytesOf U)
    (h : DataW.trod enc P w 0 (fun _ => true) true fuel T cs = some x) (hsz : ∀ n ∈ x.1.weights P T, n ≤ reachBytes) :
    ∃ A n cap l, cs = [.slice A n cap] ∧ Bts w w.heap.size A n l ∧ n ≤ reachBytes := by
  rcases open_ints hT hU hUc h with ⟨rfl, _⟩ | ⟨a, len, cap, zs, rfl, _, hl, hm, hz, rfl, hc, hwf⟩
  · exact ⟨none, 0, 0, [], rfl, ⟨rfl, fun h => absurd h (Nat.lt_irrefl 0)⟩, Nat.zero_le _⟩
  · simp only [if_true] at hz
    refine ⟨some a, len, cap, (zs.take len).map (fun n => UInt8.ofNat n.toNat), rfl, ⟨by simp; omega, fun hn => ⟨a, rfl, ?_, ?_⟩⟩, ?_⟩
    · have := lt_of_cell (hc 0 (by omega))
      simpa [Addr.add] using this
    · intro i b hi
      rw [Nat.mul_one]
      simp only [List.getElem?_map, Option.map_eq_some_iff] at hi
      obtain ⟨z, hz', rfl⟩ := hi
      rw [List.getElem?_take] at hz'
      split at hz'
      · have h1 := hwf z (List.mem_of_getElem? hz')
        have h2 : 0 ≤ z ∧ z ≤ 255 := by simpa [Lit.wf, IntKind.min, IntKind.max, IntKind.bits, IntKind.signed] using h1
        have h3 := hc i (List.getElem?_eq_some_iff.1 hz').1
        rw [List.getD_eq_getElem?_getD, hz'] at h3
        rw [h3]
        simp
        omega
      · cases hz'
    · have := hsz (((lits (H := H) .u8 (zs.take len)).length + (lits (H := H) .u8 (zs.drop len)).length) * P.bytesOf U) (by simp [DataW.weights, hT])
      simp only [lits, List.length_map, List.length_take, List.length_drop] at this
      have h2 : len * 1 ≤ (min len zs.length + (zs.length - len)) * P.bytesOf U := Nat.mul_le_mul (by omega) hb
      omega

theorem comps_of_trod {T E U : TypeId} {f0 f1 : Field} (k : CompTypes P T E U f0 f1) (h : DataW.trod enc P w 0 (fun _ => true) true fuel T cs = some x) (hsz : ∀ n ∈ x.1.weights P T, n ≤ reachBytes) :
    ∃ A n cap l, cs = [.slice A n cap] ∧ CompsAt w w.heap.size A n l ∧ n ≤ reachBytes := by
  rcases Go.Deep.open_slice k.t h with ⟨rfl, _⟩ | ⟨a, len, cap, m, n, D, Pl, rfl, _, hl, hm, hmm, rfl, hx⟩
  · exact ⟨none, 0, 0, [], rfl, ⟨rfl, fun h => absurd h (Nat.lt_irrefl 0)⟩, Nat.zero_le _⟩
  · simp only [if_true] at hmm
    subst hmm
    rw [k.ec] at hx
    have hone : ∀ i, i < len → ∃ c : Comp, CompAt w w.heap.size (a.add (i * 2)) c := by
      intro i hi
      obtain ⟨cs', h1, h2⟩ := hx i (by omega)
      obtain ⟨_, hlen, hcell⟩ := World.cells?_some h1
      obtain ⟨y0, y1, n', he, _, h3, h4⟩ := trod_struct2 k.e h2
      rw [k.io, k.ic] at h3
      rw [k.yo, k.yc] at h4
      obtain ⟨z, e0, _, _⟩ := DataW.trod_int k.i h3
      have hD : D i = .agg [y0.1, y1.1] := congrArg Prod.fst he
      obtain ⟨A, n1, cap1, l, e1, hbt, hr⟩ := bts_of_trod k.y k.u k.uc k.ub h4 (fun v hv => by
        refine hsz v ?_
        simp only [DataW.weights, k.t, List.mem_cons, List.mem_append]
        refine .inr (.inl (weightsAll_of (List.mem_map.2 ⟨i, List.mem_range.2 hi, rfl⟩) v ?_))
        rw [hD]
        simp only [DataW.weights, k.e, DataW.weightsEach, List.map_cons, List.map_nil, List.mem_append]
        exact .inr (.inl hv))
      match cs', hlen, e0, e1, hcell with
      | [c0, c1], _, e0, e1, hcell =>
        simp at e0 e1
        subst e0 e1
        have g0 := hcell 0 (by omega)
        have g1 := hcell 1 (by omega)
        simp only [List.getElem?_cons_zero] at g0
        simp only [List.getElem?_cons_succ, List.getElem?_cons_zero] at g1
        refine ⟨⟨z, l⟩, ?_, by simpa [Addr.add] using g0, ⟨A, n1, cap1, g1, hbt⟩, ?_⟩
        · have := lt_of_cell g0
          simpa [add_block] using this
        · have := hbt.1
          have : reachBytes < 2 ^ 48 := by decide
          show (l.length : Int) < 2 ^ 48
          omega
    obtain ⟨f, hf⟩ := Go.Deep.choose_lt hone
    refine ⟨some a, len, m, (List.range len).map f, rfl, ⟨by simp, fun hn => ⟨a, rfl, ?_, fun i c hi => ?_⟩⟩, ?_⟩
    · have := (hf 0 hn).1
      simpa [add_block] using this
    · simp only [List.getElem?_map, Option.map_eq_some_iff] at hi
      obtain ⟨j, hj, rfl⟩ := hi
      obtain ⟨h1, h2⟩ := List.getElem?_eq_some_iff.1 hj
      simp at h1 h2
      subst h2
      exact hf i h1
    · have := hsz _ (by simp only [DataW.weights, k.t]; exact List.mem_cons_self ..)
      simp only [List.length_map, List.length_range] at this
      have h2 : len * 1 ≤ (len + (m - len)) * P.bytesOf E := Nat.mul_le_mul (by omega) k.eb
      omega

theorem lists_of_trod {L T E U : TypeId} {f0 f1 : Field} (k : CompTypes P T E U f0 f1) (hL : P.underlying L = some (.slice T)) (hTc : P.cellsOf T = 1) (hTb : 0 < P.bytesOf T) (h : DataW.trod enc P w 0 (fun _ => true) true fuel L cs = some x) (hsz : ∀ n ∈ x.1.weights P L, n ≤ reachBytes) :
    ∃ A n cap l, cs = [.slice A n cap] ∧ ListsAt w w.heap.size A n l ∧ n ≤ reachBytes := by
  rcases Go.Deep.open_slice1 hL hTc h with ⟨rfl, _⟩ | ⟨a, len, cap, m, n, V, D, Pl, rfl, _, hl, hm, hmm, rfl, hx⟩
  · exact ⟨none, 0, 0, [], rfl, ⟨rfl, fun h => absurd h (Nat.lt_irrefl 0)⟩, Nat.zero_le _⟩
  · simp only [if_true] at hmm
    subst hmm
    have hone : ∀ i, i < len → ∃ l : List Comp, ListAt w w.heap.size (a.add (i * 1)) l := by
      intro i hi
      obtain ⟨h1, h2⟩ := hx i (by omega)
      obtain ⟨A, n1, cap1, l, e1, hcs, hr⟩ := comps_of_trod k h2 (fun v hv => by
        refine hsz v ?_
        simp only [DataW.weights, hL, List.mem_cons, List.mem_append]
        exact .inr (.inl (weightsAll_of (List.mem_map.2 ⟨i, List.mem_range.2 hi, rfl⟩) v hv)))
      simp at e1
      rw [Nat.mul_one]
      refine ⟨l, lt_of_cell h1, A, n1, cap1, by rw [h1, e1], hcs, ?_⟩
      have : reachBytes < 2 ^ 48 := by decide
      omega
    obtain ⟨f, hf⟩ := Go.Deep.choose_lt hone
    refine ⟨some a, len, m, (List.range len).map f, rfl, ⟨by simp, fun hn => ⟨a, rfl, ?_, fun i c hi => ?_⟩⟩, ?_⟩
    · have := (hf 0 hn).1
      simpa [add_block] using this
    · simp only [List.getElem?_map, Option.map_eq_some_iff] at hi
      obtain ⟨j, hj, rfl⟩ := hi
      obtain ⟨h1, h2⟩ := List.getElem?_eq_some_iff.1 hj
      simp at h1 h2
      subst h2
      exact hf i h1
    · have := hsz _ (by simp only [DataW.weights, hL]; exact List.mem_cons_self ..)
      simp only [List.length_map, List.length_range] at this
      have h2 : len * 1 ≤ (len + (m - len)) * P.bytesOf T := Nat.mul_le_mul (by omega) hTb
      omega

end

end Go.Rx
