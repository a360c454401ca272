/- The loop of zzParse6. -/
import Derived.Test.YtdmnoagahjbjhaaGreatDoorJ10
set_option linter.unusedVariables false
set_option linter.unusedSimpArgs false
set_option maxRecDepth 20000
namespace Go.Proofs.YtdmnoagahjbjhaaGreatDoor
open Go Go.Rx Go.RowKit

theorem digCall {Q : SE → List Value → World → Prop} {s : SS} {w : World} {bs : List Nat} {n0 : Nat} {β0 : Nat → Nat} {x y : UInt8} {lit : Bool} {k : Int → World → List Nat → T} (hf : KFine bs w s) (hx : x = y)
    (hk : ∀ w' bs', Keep bs w w' → (∀ b ∈ bs', b ∈ bs ∨ w.heap.size ≤ b) → (k (digOf y) w' bs').holds { P := Tryz.prog, β0 := β0, n0 := n0, Q := Q }) :
    (T.call 354 [.int .u8 (x.toNat : Int) lit] s Int (fun y => (.int .i64 y false, s.objs)) k).holds { P := Tryz.prog, β0 := β0, n0 := n0, Q := Q } := by
  subst hx
  refine callK (R := fun y _ _ => y = digOf x) hf (fun y => ⟨rfl, trivial⟩) (fun β w0 hst ho hb => ?_) (fun y w0 w' bs' _ hr _ hb hbs => by subst hr; exact hk w' bs' hb hbs)
  refine (zzDigit_c x w0).mono ?_
  rintro e w' ⟨v, rfl, rfl, hb'⟩
  exact ⟨_, rfl, hb', rfl⟩

theorem ok6 (m : Nat) (hm : 1 < m) : (SV.ptr 0 0).ok m ∧ (SV.ptr 1 0).ok m := ⟨Nat.lt_trans Nat.zero_lt_one hm, hm⟩

theorem zer_ok (m : Nat) : okL m zer16 := by simp [zer16, okL, SV.ok]

theorem sixteen_ok (m : Nat) (q : Nat → Int) : okL m (sixteen q) := by simp [sixteen, okL, SV.ok]

theorem pObjs6_ok (l : List Int) : (pObjs6 l).length = 2 ∧ ∀ o ∈ pObjs6 l, o.ok 2 := ⟨rfl, fun o ho => by
  simp only [pObjs6, List.mem_cons, List.not_mem_nil, or_false] at ho
  rcases ho with rfl | rfl
  · exact zer_ok 2
  · exact trivial⟩

theorem qObjs6_ok (q : Nat → Int) : (qObjs6 q).length = 2 ∧ ∀ o ∈ qObjs6 q, o.ok 2 := ⟨rfl, fun o ho => by
  simp only [qObjs6, List.mem_cons, List.not_mem_nil, or_false] at ho
  rcases ho with rfl | rfl
  · exact zer_ok 2
  · exact sixteen_ok 2 q⟩

theorem list16 {l : List Int} (h : l.length = 16) : l = [l.getD 0 0, l.getD 1 0, l.getD 2 0, l.getD 3 0, l.getD 4 0, l.getD 5 0, l.getD 6 0, l.getD 7 0, l.getD 8 0, l.getD 9 0, l.getD 10 0, l.getD 11 0, l.getD 12 0, l.getD 13 0, l.getD 14 0, l.getD 15 0] := by
  apply List.ext_getElem
  · simp [h]
  · intro i h1 h2
    have hi : i < 16 := by omega
    have e : l.getD i 0 = l[i] := by simp [List.getD, h1]
    rw [← e]
    match i, hi with
    | 0, _ | 1, _ | 2, _ | 3, _ | 4, _ | 5, _ | 6, _ | 7, _ | 8, _ | 9, _ | 10, _ | 11, _ | 12, _ | 13, _ | 14, _ | 15, _ => rfl
    | n + 16, h => omega

theorem ints_cells {β : Nat → Nat} {l : List Int} {w : World} (h : ObjsAt β (pObjs6 l) w) (hl : l.length = 16) : ObjsAt β (qObjs6 fun j => l.getD j 0) w := by
  intro i o hi
  match i, hi with
  | 0, hi => exact h 0 o hi
  | 1, hi =>
    have := h 1 _ rfl
    simp only [qObjs6, List.getElem?_cons_succ, List.getElem?_cons_zero, Option.some.injEq] at hi
    subst hi
    refine ⟨[], ?_, rfl⟩
    rw [show w.heap[β 1]? = _ from this]
    rw [show denL β (sixteen fun j => l.getD j 0) = l.map (Value.int .u8) by rw [list16 hl]; rfl]
    simp
  | i + 2, hi => simp [qObjs6] at hi

theorem cells_ints {β : Nat → Nat} {q : Nat → Int} {w : World} (h : ObjsAt β (qObjs6 q) w) : ObjsAt β (pObjs6 [q 0, q 1, q 2, q 3, q 4, q 5, q 6, q 7, q 8, q 9, q 10, q 11, q 12, q 13, q 14, q 15]) w := by
  intro i o hi
  match i, hi with
  | 0, hi => exact h 0 o hi
  | 1, hi =>
    obtain ⟨rest, h1, h2⟩ := h 1 _ rfl
    simp only [pObjs6, List.getElem?_cons_succ, List.getElem?_cons_zero, Option.some.injEq] at hi
    subst hi
    have hr : rest = [] := List.eq_nil_of_length_eq_zero (by have : (sixteen q).length = 16 := rfl; omega)
    subst hr
    show w.heap[β 1]? = _
    rw [h1]
    simp [denL, SV.den, sixteen]
  | i + 2, hi => simp [pObjs6] at hi

def Inv6 (P : List Nat) (Q : Option (List Nat)) (z : P6) : Prop :=
  z.l.length = 16 ∧ ∃ G R tl, R ≠ [] ∧ (∀ g ∈ R ++ tl.getD [], g < 65536) ∧ z.s = ⟨(jn R ++ tlText tl).toArray⟩ ∧ z.i = 2 * G.length ∧ z.l.take z.i = by2 G ∧ 2 * (G.length + R.length + (tl.getD []).length) ≤ 16 ∧
    ((tl = Q ∧ G ++ R = P ∧ z.e = -1) ∨ (tl = none ∧ ∃ B, Q = some B ∧ G ++ R = P ++ B ∧ z.e = ((2 * P.length : Nat) : Int)))

def End6 (P : List Nat) (Q : Option (List Nat)) (o : O6) : Prop :=
  o.s.size = 0 ∧ o.i = 2 * (P ++ Q.getD []).length ∧ (∀ j, j < o.i → o.q j = (by2 (P ++ Q.getD [])).getD j 0) ∧ (Q = none → o.e = -1) ∧ (∀ B, Q = some B → o.e = ((2 * P.length : Nat) : Int))

theorem getD_take {l : List Int} {n j : Nat} (h : j < n) : (l.take n).getD j 0 = l.getD j 0 := by
  rw [List.getD_eq_getElem?_getD, List.getD_eq_getElem?_getD, List.getElem?_take_of_lt h]

theorem split6 {g : Nat} {R : List Nat} {tl : Option (List Nat)} : ∃ rest, jn (g :: R) ++ tlText tl = hexText g ++ rest ∧ ((R = [] ∧ tl = none ∧ rest = []) ∨ (R ≠ [] ∧ rest = 58 :: (jn R ++ tlText tl)) ∨ (∃ B, R = [] ∧ tl = some B ∧ rest = 58 :: 58 :: jn B)) := by
  cases R with
  | nil =>
    cases tl with
    | none => exact ⟨[], by simp [jn, tlText], .inl ⟨rfl, rfl, rfl⟩⟩
    | some B => exact ⟨58 :: 58 :: jn B, by simp [jn, tlText], .inr (.inr ⟨B, rfl, rfl, rfl⟩)⟩
  | cons y r => exact ⟨58 :: (jn (y :: r) ++ tlText tl), by simp [jn], .inr (.inl ⟨by simp, rfl⟩)⟩

theorem round6 (P : List Nat) (Q : Option (List Nat)) (β : Nat → Nat) (w0 w1 : World) (z : P6) (g : Nat → Value) (hk01 : Keep (blocks β 2) w0 w1) (hI : Inv6 P Q z) :
    (xCode Tryz.prog (hkp6 z) 1000 306 (loopOf Tryz.prog 306 10) (mkFrame ((Lp6 .normal).zip (p6Svs z)) g 172 0) (fun e a s => .leaf e (sel Lp6 e a) s) (SS.mk (pObjs6 z.l) [] true w1 (blocks β 2))).holds
      { P := Tryz.prog, β0 := β, n0 := 2, Q := rQT β (blocks β 2) p6Svs (fun z => pObjs6 z.l) (fun z => 16 - z.i) (fun z _ => Inv6 P Q z) (.exit 0) o6Svs (fun o => qObjs6 o.q) (fun o _ => End6 P Q o) .ret (fun _ : Unit => []) (fun _ => qObjs6 fun _ => 0) (fun _ _ => False) w0 z } := by
  obtain ⟨hl, G, R, tl, hR, hlt, hs, hi, htk, hsz, hph⟩ := hI
  cases R with
  | nil => exact absurd rfl hR
  | cons g0 R =>
  obtain ⟨rest, hrest, hcase⟩ := split6 (g := g0) (R := R) (tl := tl)
  rw [hrest] at hs
  have hg0 : g0 < 65536 := hlt g0 (by simp)
  have hDl : (hexDs g0).length ≤ 4 := hexDs_len 3 g0 (by omega)
  have hDp := hexDs_pos g0
  have hD16 := hexDs_lt g0
  have hsize : z.s.size = (hexDs g0).length + rest.length := by rw [hs, bsize, hexText_ds]; simp
  simp only [List.length_cons] at hsz
  refine holds_eq (r306 z w1 (blocks β 2) g) (splitD (fun hi16 => ?_) (fun h => absurd (show (z.i : Int) < 16 by omega) h))
  have hget : ∀ j, (z.s.data.toList.getD j 0) = (hexText g0 ++ rest).getD j 0 := fun j => by rw [hs]
  have hdig : ∀ j (hj : j < (hexDs g0).length), (z.s.data.toList.getD j 0) = hexd ((hexDs g0)[j]) := fun j hj => by
    rw [hget, hexText_ds, List.getD_eq_getElem?_getD, List.getElem?_append_left (by simpa using hj), List.getElem?_map, List.getElem?_eq_getElem hj]
    rfl
  have hrest0 : ∀ c r, rest = c :: r → (z.s.data.toList.getD (hexDs g0).length 0) = c := fun c r hr => by
    rw [hget, hexText_ds, List.getD_eq_getElem?_getD, List.getElem?_append_right (by simp), hr]
    simp
  have hcolon : rest = [] ∨ ∃ r, rest = 58 :: r := by
    rcases hcase with ⟨_, _, h⟩ | ⟨_, h⟩ | ⟨B, _, _, h⟩
    · exact .inl h
    · exact .inr ⟨_, h⟩
    · exact .inr ⟨_, h⟩
  refine loopTK (w := w1) (bs := blocks β 2) ⟨rfl, Keep.refl _ _, fun b hb => .inl hb⟩ rfl 2 rfl Lp6d (d6Svs z) (fun _ => pObjs6 z.l) (fun p : Nat × Nat => 5 - p.1)
    (fun _ p _ => p.1 ≤ (hexDs g0).length ∧ p.2 = hexFold ((hexDs g0).take p.1)) (fun _ p _ => p = ((hexDs g0).length, g0)) (fun _ _ _ => False) (fun _ => hkp6 z) 1000
    (by simp) (by simp [Lp6d]) (by simp [Lp6d]) (fun _ => ⟨trivial, (ok6 2 (by omega)).1, trivial, (ok6 2 (by omega)).2, trivial, trivial, trivial, trivial, trivial⟩) (fun _ => pObjs6_ok _) rfl rfl (by simp) (by simp)
    (fun _ => ⟨⟨trivial, (ok6 2 (by omega)).1, trivial, (ok6 2 (by omega)).2, trivial, trivial, trivial, trivial, trivial⟩, pObjs6_ok _⟩) (fun _ => ⟨trivial, pObjs6_ok _⟩) ?_ ?_ ?_ ?_
  · rintro β2 w2 ⟨off, acc⟩ w3 g2 hk12 ⟨hoff, hacc⟩ hk23 hk13 hblk
    dsimp only at hoff hacc
    have hend : off = (hexDs g0).length → ∀ (w4 : World) (bs4 : List Nat), Keep (blocks β2 2) w2 w4 → (∀ b ∈ bs4, b ∈ blocks β2 2 ∨ w2.heap.size ≤ b) →
        (T.leaf (.exit 2) (d6Svs z (off, acc)) (SS.mk (pObjs6 z.l) [] true w4 bs4)).holds { P := Tryz.prog, β0 := β2, n0 := 2, Q := rQT β2 (blocks β2 2) (d6Svs z) (fun _ => pObjs6 z.l) (fun p : Nat × Nat => 5 - p.1) (fun p _ => p.1 ≤ (hexDs g0).length ∧ p.2 = hexFold ((hexDs g0).take p.1)) (.exit 2) (d6Svs z) (fun _ => pObjs6 z.l) (fun p _ => p = ((hexDs g0).length, g0)) .ret (fun _ : Unit => []) (fun _ => pObjs6 z.l) (fun _ _ => False) w2 (off, acc) } := fun he w4 bs4 hk4 hbs4 => by
      refine leafK ⟨rfl, hk4, hbs4⟩ fun β' w' hst hk' => ⟨.inl ⟨(off, acc), rfl, ?_, hst.objsAt rfl (pObjs6_ok _).2, ?_⟩, hk'⟩
      · have h0 := hst.base 0 (by show 0 < 2; omega)
        have h1 := hst.base 1 (by show 1 < 2; omega)
        simp only [d6Svs, denL, SV.den]
        rw [h0, h1]
      · rw [hacc, he, List.take_of_length_le (Nat.le_refl _), hexDs_fold]
    refine holds_eq (r306d z (off, acc) w3 (blocks β2 2) g2) (splitD (fun hlt1 => ?_) (fun hge => ?_))
    · have hlt2 : off < z.s.size := by dsimp only at hlt1; omega
      refine needT (by dsimp only; omega) ?_
      dsimp only
      rcases Nat.lt_or_ge off (hexDs g0).length with hin | hout
      · have hd := hdig off hin
        have hdl := hD16 _ (List.getElem_mem hin)
        refine digCall (y := hexd ((hexDs g0)[off])) ⟨rfl, Keep.refl _ _, fun b hb => .inl hb⟩ (by rw [Int.toNat_natCast]; exact hd) fun w4 bs4 hk4 hbs4 => ?_
        rw [digOf_hexd _ hdl]
        refine splitD (fun _ => ?_) (fun h => absurd (by omega) h)
        refine needT (by omega) ?_
        refine digCall (y := hexd ((hexDs g0)[off])) (w := w3) (bs := blocks β2 2) ⟨rfl, hk4, hbs4⟩ (by rw [Int.toNat_natCast]; exact hd) fun w5 bs5 hk5 hbs5 => ?_
        rw [digOf_hexd _ hdl]
        refine splitD (fun h => absurd h (by omega)) (fun _ => ?_)
        refine leafK ⟨rfl, hk23.trans hk5, fun b hb => (hbs5 b hb).imp id (Nat.le_trans hk23.size)⟩ fun β' w' hst hk' => ⟨(off + 1, hexFold ((hexDs g0).take (off + 1))), by show 5 - (off + 1) < 5 - off; omega, ?_, hst.objsAt rfl (pObjs6_ok _).2, ⟨by show off + 1 ≤ _; omega, rfl⟩, hk'⟩
        have hfl := hexFold_lt ((hexDs g0).take off) fun d hd => hD16 d (List.mem_of_mem_take hd)
        have hfl2 : hexFold ((hexDs g0).take off) < 65536 := Nat.lt_of_lt_of_le hfl (by
          rw [List.length_take]
          exact Nat.pow_le_pow_right (by omega) (show min off _ ≤ 4 by omega))
        have e1 : hexFold ((hexDs g0).take (off + 1)) = acc * 16 + (hexDs g0)[off] := by
          rw [List.take_add_one, List.getElem?_eq_getElem hin, hacc]
          exact hexFold_snoc _ _
        have e2 : IntKind.i64.wrap ((acc : Int) * (2 : Int) ^ 4) = ((acc * 16 : Nat) : Int) := by
          rw [show (acc : Int) * (2 : Int) ^ 4 = ((acc * 16 : Nat) : Int) by rw [Int.natCast_mul]; rfl]
          exact wrapi (by omega) (by omega)
        have e3 : IntKind.i64.wrap (IntKind.i64.wrap ((acc : Int) * (2 : Int) ^ 4) + ((hexDs g0)[off] : Int)) = ((hexFold ((hexDs g0).take (off + 1)) : Nat) : Int) := by
          rw [e1, e2, wrapi (by omega) (by omega)]; omega
        have e4 : IntKind.i64.wrap ((off : Int) + 1) = ((off + 1 : Nat) : Int) := by rw [wrapi (by omega) (by omega)]; omega
        have h0 := hst.base 0 (by show 0 < 2; omega)
        have h1 := hst.base 1 (by show 1 < 2; omega)
        rw [e3, e4]
        simp only [d6Svs, denL, SV.den]
        rw [h0, h1]
      · have he : off = (hexDs g0).length := by omega
        obtain ⟨r, hr⟩ : ∃ r, rest = 58 :: r := by
          rcases hcolon with h | h
          · rw [h] at hsize; simp at hsize; omega
          · exact h
        have hd := hrest0 58 r hr
        refine digCall (y := 58) ⟨rfl, Keep.refl _ _, fun b hb => .inl hb⟩ (by rw [Int.toNat_natCast, he]; exact hd) fun w4 bs4 hk4 hbs4 => ?_
        rw [digOf_colon]
        refine splitD (fun h => absurd h (by omega)) (fun _ => ?_)
        exact hend he w4 bs4 (hk23.trans hk4) fun b hb => (hbs4 b hb).imp id (Nat.le_trans hk23.size)
    · refine hend (by dsimp only at hge; omega) w3 _ hk23 fun b hb => .inl hb
  · intro β2 w2 hst hk12
    exact ⟨(0, 0), rfl, fun i o hi => hst.at_ i o hi, Nat.zero_le _, rfl⟩
  · rintro w2 ⟨off, acc⟩ w3 he hk12 hk13 g2 bs3 hbs3
    simp only [Prod.mk.injEq] at he
    obtain ⟨he1, he2⟩ := he
    have he2' := he2.symm
    clear he2
    subst he1 he2'
    have hbl3 : ∀ b ∈ bs3, b ∈ blocks β 2 ∨ w0.heap.size ≤ b := fun b hb => (hbs3 b hb).1.imp id (Nat.le_trans hk01.size)
    have hk03 : Keep (blocks β 2) w0 w3 := hk01.trans hk13
    have ei : IntKind.i64.wrap ((z.i : Int) + 2) = ((z.i + 2 : Nat) : Int) := by rw [wrapi (by omega) (by omega)]; omega
    have ei1 : IntKind.i64.wrap ((z.i : Int) + 1) = ((z.i + 1 : Nat) : Int) := by rw [wrapi (by omega) (by omega)]; omega
    have e1 : z.s.extract (((hexDs g0).length : Nat) : Int).toNat z.s.size = ⟨rest.toArray⟩ := by
      rw [Int.toNat_natCast, hs, ext_mk, hexText_ds, ← List.length_map (f := hexd), List.drop_left]
    obtain ⟨l', hl'⟩ : ∃ l', l' = (z.l.set (0 + (z.i : Int).toNat * 1) (IntKind.u8.wrap ((g0 : Int).fdiv ((2 : Int) ^ 8)))).set (0 + (IntKind.i64.wrap ((z.i : Int) + 1)).toNat * 1) (IntKind.u8.wrap (g0 : Int)) := ⟨_, rfl⟩
    have hl16 : l'.length = 16 := by rw [hl']; simp [hl]
    have htk' : l'.take (z.i + 2) = by2 (G ++ [g0]) := by
      have q1 : IntKind.u8.wrap ((g0 : Int).fdiv ((2 : Int) ^ 8)) = ((g0 / 256 : Nat) : Int) := by
        rw [show (g0 : Int).fdiv ((2 : Int) ^ 8) = ((g0 / 256 : Nat) : Int) by rw [Int.fdiv_eq_ediv_of_nonneg _ (by decide)]; rfl]
        exact u8_wrap (by omega)
      have q2 : IntKind.u8.wrap (g0 : Int) = ((g0 % 256 : Nat) : Int) := by
        show ((g0 : Int)) % 256 = _
        omega
      rw [hl', ei1, q1, q2, by2_snoc, ← htk]
      simp only [Nat.zero_add, Nat.mul_one, Int.toNat_natCast]
      exact take_set2 hl (by omega) rfl
    have hexit : ∀ (s' : ByteArray) (e' : Int), (∀ q : Nat → Int, (∀ j, j < z.i + 2 → q j = (by2 (G ++ [g0])).getD j 0) → End6 P Q ⟨s', e', z.i + 2, q⟩) → (T.leaf (.exit 0) [.str s' false, .ptr 0 0, .bool false true, .ptr 1 0, .int .i64 e' false, .int .i64 (IntKind.i64.wrap ((z.i : Int) + 2)) false] (SS.mk (pObjs6 ((z.l.set (0 + (z.i : Int).toNat * 1) (IntKind.u8.wrap ((g0 : Int).fdiv ((2 : Int) ^ 8)))).set (0 + (IntKind.i64.wrap ((z.i : Int) + 1)).toNat * 1) (IntKind.u8.wrap (g0 : Int)))) [] true w3 bs3)).holds
        { P := Tryz.prog, β0 := β, n0 := 2, Q := rQT β (blocks β 2) p6Svs (fun z => pObjs6 z.l) (fun z => 16 - z.i) (fun z _ => Inv6 P Q z) (.exit 0) o6Svs (fun o => qObjs6 o.q) (fun o _ => End6 P Q o) .ret (fun _ : Unit => []) (fun _ => qObjs6 fun _ => 0) (fun _ _ => False) w0 z } := fun s' e' hE => by
      rw [← hl', ei]
      refine leafK ⟨rfl, hk03, hbl3⟩ fun β' w' hst hk' => ⟨.inl ⟨⟨s', e', z.i + 2, fun j => l'.getD j 0⟩, rfl, ?_, ints_cells (hst.objsAt rfl (pObjs6_ok _).2) hl16, hE _ fun j hj => ?_⟩, hk'⟩
      · have h0 := hst.base 0 (by show 0 < 2; omega)
        have h1 := hst.base 1 (by show 1 < 2; omega)
        simp only [o6Svs, denL, SV.den]
        rw [h0, h1]
      · rw [← htk', getD_take hj]
    have hnext : ∀ (s' : ByteArray) (e' : Int), Inv6 P Q ⟨s', e', z.i + 2, l'⟩ → (T.leaf .normal [.str s' false, .ptr 0 0, .bool false true, .ptr 1 0, .int .i64 e' false, .int .i64 (IntKind.i64.wrap ((z.i : Int) + 2)) false] (SS.mk (pObjs6 ((z.l.set (0 + (z.i : Int).toNat * 1) (IntKind.u8.wrap ((g0 : Int).fdiv ((2 : Int) ^ 8)))).set (0 + (IntKind.i64.wrap ((z.i : Int) + 1)).toNat * 1) (IntKind.u8.wrap (g0 : Int)))) [] true w3 bs3)).holds
        { P := Tryz.prog, β0 := β, n0 := 2, Q := rQT β (blocks β 2) p6Svs (fun z => pObjs6 z.l) (fun z => 16 - z.i) (fun z _ => Inv6 P Q z) (.exit 0) o6Svs (fun o => qObjs6 o.q) (fun o _ => End6 P Q o) .ret (fun _ : Unit => []) (fun _ => qObjs6 fun _ => 0) (fun _ _ => False) w0 z } := fun s' e' hE => by
      rw [← hl', ei]
      refine leafK ⟨rfl, hk03, hbl3⟩ fun β' w' hst hk' => ⟨⟨s', e', z.i + 2, l'⟩, by show 16 - (z.i + 2) < 16 - z.i; omega, ?_, hst.objsAt rfl (pObjs6_ok _).2, hE, hk'⟩
      have h0 := hst.base 0 (by show 0 < 2; omega)
      have h1 := hst.base 1 (by show 1 < 2; omega)
      simp only [p6Svs, denL, SV.den]
      rw [h0, h1]
    dsimp only
    refine splitT (fun h => by have := eq_of_beq h; omega) (fun _ => splitD (fun hlt2 => ?_) (fun hge2 => ?_))
    · obtain ⟨r, hr⟩ : ∃ r, rest = 58 :: r := by
        rcases hcolon with h | h
        · rw [h] at hsize; simp at hsize; omega
        · exact h
      have hrl : rest.length = r.length + 1 := by rw [hr]; rfl
      have hsz1 : (z.s.extract (((hexDs g0).length : Nat) : Int).toNat z.s.size).size = r.length + 1 := by rw [e1, bsize, hrl]
      refine needT (by omega) (splitT (fun h46 => ?_) (fun _ => ?_))
      · have := hrest0 58 r hr
        rw [Int.toNat_natCast, this] at h46
        simp at h46
      refine needT (by omega) (needT (by simp; omega) (needT rfl (needT (by omega) (needT (by rw [ei1]; simp; omega) (needT rfl (needT (by omega) ?_))))))
      have e2 : (z.s.extract (((hexDs g0).length : Nat) : Int).toNat z.s.size).extract 1 (z.s.extract (((hexDs g0).length : Nat) : Int).toNat z.s.size).size = ⟨r.toArray⟩ := by
        rw [e1, ext_mk, hr]; rfl
      refine splitT (fun h => by rw [hsz1] at h; have := eq_of_beq h; omega) (fun _ => needT (by rw [hsz1]; omega) (splitT (fun hne => ?_) (fun _ => splitT (fun h1 => ?_) (fun h1 => ?_))))
      · have hne2 : (((((z.s.extract (((hexDs g0).length : Nat) : Int).toNat z.s.size).data.toList.getD 0 0).toNat : Nat) : Int) != 58) = true := hne
        rw [e1, hr] at hne2
        simp at hne2
      · rw [hsz1] at h1
        have hr0 : r = [] := List.eq_nil_of_length_eq_zero (by have := eq_of_beq h1; omega)
        subst hr0
        rcases hcase with ⟨_, _, h⟩ | ⟨hne, h⟩ | ⟨B, _, _, h⟩
        · rw [hr] at h; simp at h
        · rw [hr] at h
          cases R with
          | nil => exact absurd rfl hne
          | cons y R' =>
            obtain ⟨d, t, _, hd⟩ := jn_cons y R'
            rw [hd] at h
            simp at h
        · rw [hr] at h; simp at h
      have hr1 : 1 ≤ r.length := by
        rcases Nat.eq_zero_or_pos r.length with h | h
        · rw [hsz1, h] at h1; simp at h1
        · exact h
      have hsz2 : ((z.s.extract (((hexDs g0).length : Nat) : Int).toNat z.s.size).extract 1 (z.s.extract (((hexDs g0).length : Nat) : Int).toNat z.s.size).size).size = r.length := by rw [e2, bsize]
      refine needT (by rw [hsz1]; omega) (needT (by rw [hsz2]; omega) (splitT (fun h58 => ?_) (fun h58 => ?_)))
      · have h58' : ((((((z.s.extract (((hexDs g0).length : Nat) : Int).toNat z.s.size).extract 1 (z.s.extract (((hexDs g0).length : Nat) : Int).toNat z.s.size).size).data.toList.getD 0 0).toNat : Nat) : Int) == 58) = true := h58
        rw [e2] at h58'
        rcases hcase with ⟨_, _, h⟩ | ⟨hne, h⟩ | ⟨B, hR0, htl, h⟩
        · rw [hr] at h; simp at h
        · rw [hr] at h
          cases R with
          | nil => exact absurd rfl hne
          | cons y R' =>
            obtain ⟨d, t, hd1, hd⟩ := jn_cons y R'
            rw [hd] at h
            simp only [List.cons.injEq, true_and, List.cons_append] at h
            rw [h] at h58'
            have h5 : (((hexd d).toNat : Nat) : Int) = 58 := by simpa using h58'
            have h6 := (hexd_ne d hd1).1
            exact absurd (UInt8.toNat_inj.1 (by show (hexd d).toNat = 58; omega)) h6
        · subst hR0 htl
          have hrB : r = 58 :: jn B := by rw [hr] at h; simpa using h
          rcases hph with ⟨hQ, hP, he⟩ | ⟨h, _⟩
          · refine splitD (fun h => absurd h (by omega)) (fun _ => needT (by rw [hsz2]; omega) ?_)
            have e3 : ((z.s.extract (((hexDs g0).length : Nat) : Int).toNat z.s.size).extract 1 (z.s.extract (((hexDs g0).length : Nat) : Int).toNat z.s.size).size).extract 1 ((z.s.extract (((hexDs g0).length : Nat) : Int).toNat z.s.size).extract 1 (z.s.extract (((hexDs g0).length : Nat) : Int).toNat z.s.size).size).size = ⟨(jn B).toArray⟩ := by
              rw [e2, ext_mk, hrB]; rfl
            have hlP : z.i + 2 = 2 * P.length := by rw [← hP]; simp; omega
            refine splitT (fun hz => hexit _ _ fun q hq => ?_) (fun hz => hnext _ _ ?_)
            · have hz' : (jn B).length = 0 := by rw [e3, bsize] at hz; have := eq_of_beq hz; omega
              have hB : B = [] := by
                cases B with
                | nil => rfl
                | cons y B' =>
                  obtain ⟨d, t, _, hd⟩ := jn_cons y B'
                  rw [hd] at hz'
                  simp at hz'
              subst hB
              refine ⟨by rw [e3, bsize]; exact hz', ?_, ?_, fun h => ?_, fun B' h => ?_⟩
              · rw [← hQ]; simpa using hlP
              · rw [← hQ]
                simpa [hP] using hq
              · rw [← hQ] at h; cases h
              · show IntKind.i64.wrap ((z.i : Int) + 2) = _
                rw [ei, hlP]
            · have hB : B ≠ [] := fun hB => by
                subst hB
                rw [e3] at hz
                simp [jn, ByteArray.size] at hz
              refine ⟨hl16, G ++ [g0], B, none, hB, ?_, ?_, by show z.i + 2 = _; simp; omega, htk', ?_, .inr ⟨rfl, B, hQ.symm, by rw [hP], ?_⟩⟩
              · intro g hg
                exact hlt g (by simp at hg ⊢; exact .inr hg)
              · rw [e3]; simp [tlText]
              · simp at hsz ⊢; omega
              · show IntKind.i64.wrap ((z.i : Int) + 2) = _
                rw [ei, hlP]
          · cases h
      · have h58' : ((((((z.s.extract (((hexDs g0).length : Nat) : Int).toNat z.s.size).extract 1 (z.s.extract (((hexDs g0).length : Nat) : Int).toNat z.s.size).size).data.toList.getD 0 0).toNat : Nat) : Int) == 58) = false := h58
        rw [e2] at h58'
        rcases hcase with ⟨_, _, h⟩ | ⟨hne, h⟩ | ⟨B, hR0, htl, h⟩
        · rw [hr] at h; simp at h
        · refine hnext _ _ ⟨hl16, G ++ [g0], R, tl, hne, fun g hg => hlt g (by simp at hg ⊢; exact .inr hg), ?_, by show z.i + 2 = _; simp; omega, htk', by simp; omega, ?_⟩
          · rw [e2]
            rw [hr] at h
            simp only [List.cons.injEq, true_and] at h
            rw [h]
          · rcases hph with ⟨h1, h2, h3⟩ | ⟨h1, B, h2, h3, h4⟩
            · exact .inl ⟨h1, by rw [← h2]; simp, h3⟩
            · exact .inr ⟨h1, B, h2, by rw [← h3]; simp, h4⟩
        · rw [hr] at h
          simp only [List.cons.injEq, true_and] at h
          rw [h] at h58'
          simp at h58'
    · have hr0 : rest = [] := List.eq_nil_of_length_eq_zero (by omega)
      refine needT (by omega) (needT (by simp; omega) (needT rfl (needT (by omega) (needT (by rw [ei1]; simp; omega) (needT rfl (needT (by omega) ?_))))))
      have hsz1 : (z.s.extract (((hexDs g0).length : Nat) : Int).toNat z.s.size).size = 0 := by rw [e1, bsize, hr0]; rfl
      refine splitT (fun _ => hexit _ _ fun q hq => ?_) (fun h => by rw [hsz1] at h; simp at h)
      rcases hcase with ⟨hR0, htl, _⟩ | ⟨hne, h⟩ | ⟨B, hR0, htl, h⟩
      · subst hR0 htl
        rcases hph with ⟨h1, h2, h3⟩ | ⟨_, B, h2, h3, h4⟩
        · subst h1
          refine ⟨hsz1, ?_, ?_, fun _ => h3, fun B h => by cases h⟩
          · show z.i + 2 = 2 * (P ++ []).length
            rw [← h2]; simp; omega
          · simpa [← h2] using hq
        · subst h2
          refine ⟨hsz1, ?_, ?_, fun h => (by cases h), fun B' h => by cases h; exact h4⟩
          · show z.i + 2 = 2 * (P ++ B).length
            rw [← h3]; simp; omega
          · simpa [← h3] using hq
      · rw [hr0] at h; simp at h
      · rw [hr0] at h; simp at h
  · rintro w2 p w3 h
    exact h.elim

end Go.Proofs.YtdmnoagahjbjhaaGreatDoor
