/- Joined texts: zzParse6, joined; zzFields4: the trees; zzFields4; zzFields4, joined; ZZParseAddr, zzParseIP: the trees; ZZParseAddr, joined; The text of an address is read back: plain law; zzParseIP; To16, ip4StB, ip6StB; FnNetFromIP: the tree; FnNetFromIP, of NetFromIP's contract; NetFromIP, of NewComponent's contract; NewComponent, validateComponent: trees. -/
import Derived.Test.YtdmnoagahjbjhaaGreatDoorM32
import Derived.Test.YtdmnoagahjbjhaaGreatDoorM7
import Derived.Test.YtdmnoagahjbjhaaGreatDoorM31
import Derived.Test.YtdmnoagahjbjhaaGreatDoorJ7
import Derived.Test.YtdmnoagahjbjhaaGreatDoorM8
import Derived.Test.YtdmnoagahjbjhaaGreatDoorJ10
import Derived.Test.YtdmnoagahjbjhaaGreatDoorJ9
section
/- zzParse6, joined. -/
set_option linter.unusedVariables false
set_option linter.unusedSimpArgs false
set_option maxRecDepth 20000
namespace Go.Proofs.YtdmnoagahjbjhaaGreatDoor
open Go Go.Rx Go.RowKit

theorem loop6z {s s0 : SS} {a a0 : List SV} {w : World} {P : List Nat} {Q6 : Option (List Nat)} {Q : SE → List Value → World → Prop} {k : O6 × (Nat → Value) → World → List Nat → T} {k' : Unit × (Nat → Value) → World → List Nat → T} (hf : Fine w s) (hgl : s.gl = []) (hobj : s.objs = [.cells zer16 16 196 0 0, .cells zer16 16 196 0 0])
    (hN : a.length = 172) (sv : ByteArray) (e : Int) (hsel : ∀ β, selV Lp6 .normal (denL β a) = denL β (p6Svs ⟨sv, e, 0, List.replicate 16 0⟩)) (hI : Inv6 P Q6 ⟨sv, e, 0, List.replicate 16 0⟩)
    (hk : ∀ o w' g bs, Below w.heap.size w w' → (∀ b ∈ bs, w.heap.size ≤ b) → End6 P Q6 o → (k (o, g) w' bs).holds (ctx Tryz.prog Q)) :
    (T.loop 306 (loopOf Tryz.prog 306 10) a s (LoopHook.X lhp6) (LoopHook.out lhp6 a0 s0) k (LoopHook.Y lhp6) (LoopHook.out' lhp6 a0 s0) k').holds (ctx Tryz.prog Q) := by
  refine loopT (w := w) hf hgl 2 (by show s.objs.length = 2; rw [hobj]; rfl) Lp6 p6Svs (fun z => pObjs6 z.l) (fun z => 16 - z.i) (fun _ z _ => Inv6 P Q6 z) (fun _ o _ => End6 P Q6 o) (fun _ _ _ => False) hkp6 1000
    hN (by simp [Lp6]) (by simp [Lp6]) (fun _ => ⟨trivial, (ok6 2 (by omega)).1, trivial, (ok6 2 (by omega)).2, trivial, trivial, trivial⟩) (fun _ => pObjs6_ok _) rfl rfl (by simp) (by simp) (fun _ => ⟨⟨trivial, (ok6 2 (by omega)).1, trivial, (ok6 2 (by omega)).2, trivial, trivial, trivial⟩, qObjs6_ok _⟩) (fun _ => ⟨trivial, qObjs6_ok _⟩) ?_ ?_ ?_ ?_
  · rintro β w0 z w1 g hb0 hI hkp hge
    exact round6 P Q6 β w0 w1 z g hkp hI
  · intro β w0 hst hb
    refine ⟨_, hsel β, cells_ints (q := fun _ => 0) fun i o hi => ?_, hI⟩
    match i, hi with
    | 0, hi => exact hst.at_ 0 o (by rw [hobj]; exact hi)
    | 1, hi =>
      simp only [qObjs6, List.getElem?_cons_succ, List.getElem?_cons_zero, Option.some.injEq] at hi
      subst hi
      exact hst.at_ 1 (.cells zer16 16 196 0 0) (by rw [hobj]; rfl)
    | i + 2, hi => simp [qObjs6] at hi
  · rintro w0 x w' hsh hb0 hb1 g bs hbs
    exact hk x w' g bs hb1 hbs hsh
  · rintro w0 q' w' h
    exact h.elim

theorem parse6_c (P : List Nat) (Q : Option (List Nat)) (w : World) (hg : ∀ g ∈ P ++ Q.getD [], g < 65536) (hQ : (Q = none ∧ P.length = 8) ∨ (∃ B, Q = some B ∧ P.length + B.length ≤ 7)) :
    Calls Tryz.prog 306 #[.string ⟨(jn P ++ tlText Q).toArray⟩] w (Ret (fun v _ => ∃ q : Nat → Int, (∀ j, j < 16 → q j = (full6 P Q).getD j 0) ∧ v = SV.den id (.tup [.agg (sixteen q), .bool true true])) w) := by
  refine funF (hk := hk306) (n := 500) (args := [.str ⟨(jn P ++ tlText Q).toArray⟩ false]) ⟨trivial, trivial⟩ ?_
  refine holds_eq (t306 ⟨(jn P ++ tlText Q).toArray⟩ w) ?_
  have hget : ∀ j, ((⟨(jn P ++ tlText Q).toArray⟩ : ByteArray).data.toList.getD j 0) = (jn P ++ tlText Q).getD j 0 := fun j => rfl
  have hsz0 : (⟨(jn P ++ tlText Q).toArray⟩ : ByteArray).size = (jn P ++ tlText Q).length := bsize _
  cases P with
  | nil =>
    obtain ⟨B, hQB, hB7⟩ : ∃ B, Q = some B ∧ B.length ≤ 7 := by
      rcases hQ with ⟨_, h⟩ | ⟨B, h, h2⟩
      · simp at h
      · exact ⟨B, h, by simpa using h2⟩
    have hT : jn [] ++ tlText Q = 58 :: 58 :: jn B := by rw [hQB]; rfl
    have hl : (⟨(jn [] ++ tlText Q).toArray⟩ : ByteArray).size = (jn B).length + 2 := by rw [hsz0, hT]; simp
    refine splitD (fun _ => ?_) (fun h => absurd (by rw [hl]; omega) h)
    refine needT (by rw [hl]; omega) (splitT (fun _ => ?_) (fun h => by rw [hget, hT] at h; simp at h))
    refine needT (by rw [hl]; omega) (splitT (fun _ => ?_) (fun h => by rw [hget, hT] at h; simp at h))
    refine needT (by rw [hl]; omega) ?_
    have e2 : (⟨(jn [] ++ tlText Q).toArray⟩ : ByteArray).extract 2 (⟨(jn [] ++ tlText Q).toArray⟩ : ByteArray).size = ⟨(jn B).toArray⟩ := by
      rw [ext_mk, hT]; rfl
    refine splitT (fun hz => ?_) (fun hz => ?_)
    · have hz' : (jn B).length = 0 := by rw [e2, bsize] at hz; have := eq_of_beq hz; omega
      have hB : B = [] := by
        cases B with
        | nil => rfl
        | cons y B' =>
          obtain ⟨d, t, _, hd⟩ := jn_cons y B'
          rw [hd] at hz'
          simp at hz'
      refine retF (Fine.start w _) fun β' w' _ _ => ⟨fun _ => 0, fun j hj => ?_, rfl⟩
      rw [hQB, hB]
      simp only [full6, by2, List.flatMap_nil, List.length_nil, List.nil_append, List.append_nil, List.getD_eq_getElem?_getD, List.getElem?_replicate]
      split <;> rfl
    · have hB : B ≠ [] := fun hB => by
        rw [e2, hB] at hz
        simp [jn, ByteArray.size] at hz
      have hne : ([] : List Nat) ++ Q.getD [] ≠ [] := by rw [hQB]; simpa using hB
      refine loop6z (w := w) (P := []) (Q6 := Q) (Fine.start w _) rfl rfl rfl ((⟨(jn [] ++ tlText Q).toArray⟩ : ByteArray).extract 2 (⟨(jn [] ++ tlText Q).toArray⟩ : ByteArray).size) 0 (fun β => rfl) ⟨rfl, [], B, none, hB, ?_, ?_, rfl, rfl, ?_, .inr ⟨rfl, B, hQB, rfl, rfl⟩⟩ ?_
      · intro g hg'
        exact hg g (by rw [hQB]; simpa using hg')
      · show _ = _
        rw [e2]; simp [tlText]
      · simp; omega
      intro o w2 g bs2 hw2 hbs2 hE
      obtain ⟨hsz, hoi, hq, hn, hsome⟩ := hE
      dsimp only
      refine splitT (fun h => by rw [hsz] at h; simp at h) (fun _ => splitD (fun hi16 => ?_) (fun hi16 => ?_))
      · obtain ⟨B', hQB, hB7⟩ : ∃ B', Q = some B' ∧ ([] : List Nat).length + B'.length ≤ 7 := by
          rcases hQ with ⟨h, h8⟩ | ⟨B', h, h7⟩
          · rw [h, Option.getD_none, List.append_nil] at hoi
            omega
          · exact ⟨B', h, h7⟩
        have he := hsome B' hQB
        have hi' : o.i = 2 * (([] : List Nat).length + B'.length) := by rw [hoi, hQB, Option.getD_some, List.length_append]
        have hi2 : 2 ≤ o.i := by
          have : 0 < (([] : List Nat) ++ Q.getD []).length := List.length_pos_iff.2 hne
          rw [hoi]; omega
        rw [he]
        refine splitD (fun h => absurd h (by omega)) (fun _ => ?_)
        have e1 : IntKind.i64.wrap ((16 : Int) - (o.i : Int)) = ((16 - o.i : Nat) : Int) := by rw [wrapi (by omega) (by omega)]; omega
        have e2 : IntKind.i64.wrap ((o.i : Int) - (1 : Int)) = (o.i : Int) - 1 := wrapi (by omega) (by omega)
        rw [e1, e2]
        refine shiftF (w := w) (E := 2 * ([] : List Nat).length) (I := o.i) (q := o.q) (Fine.mk' hw2 hbs2) rfl rfl (by omega) (by omega) rfl (fun β => rfl) ?_
        intro x w3 g3 bs3 hw3 hbs3 hF
        have hxe := hF.1
        have hxn := hF.2.1
        dsimp only
        rw [hxe, hxn]
        refine shiftG (w := w) (E := 2 * ([] : List Nat).length) (I := o.i) (q := o.q) (q1 := x.q) (Fine.mk' hw3 hbs3) rfl rfl (by omega) (by omega) rfl ⟨rfl, rfl, hF.2.2⟩ (fun β => rfl) ?_
        intro q' w4 g4 bs4 hw4 hbs4 hq'
        refine retF (Fine.mk' hw4 hbs4) fun β' w' _ _ => ⟨q', fun j hj => ?_, rfl⟩
        rw [hQB]
        exact full_shift hi' (by omega) (fun j hj => by rw [hq j hj, hQB]) hq' j hj
      · have hQn : Q = none := by
          rcases hQ with ⟨h, _⟩ | ⟨B', h, h2⟩
          · exact h
          · rw [h, Option.getD_some, List.length_append] at hoi
            omega
        rw [hn hQn]
        refine splitD (fun h => absurd h (by omega)) (fun _ => ?_)
        refine retF (Fine.mk' hw2 hbs2) fun β' w' _ _ => ⟨o.q, fun j hj => ?_, rfl⟩
        have := hq j (by omega)
        simpa [full6, hQn] using this
  | cons y P' =>
    obtain ⟨d, t, hd16, hd⟩ := jn_cons y P'
    have hT0 : (jn (y :: P') ++ tlText Q).getD 0 0 = hexd d := by rw [hd]; rfl
    have hne : (y :: P') ++ Q.getD [] ≠ [] := by simp
    have hI : Inv6 (y :: P') Q ⟨⟨(jn (y :: P') ++ tlText Q).toArray⟩, -1, 0, List.replicate 16 0⟩ := by
      refine ⟨rfl, [], y :: P', Q, by simp, hg, rfl, rfl, rfl, ?_, .inl ⟨rfl, rfl, rfl⟩⟩
      rcases hQ with ⟨h, h8⟩ | ⟨B, h, h7⟩
      · rw [h]; simp at h8 ⊢; omega
      · rw [h]; simp at h7 ⊢; omega
    refine splitD (fun h2 => ?_) (fun h2 => ?_)
    · refine needT (by omega) (splitT (fun h58 => ?_) (fun _ => ?_))
      · rw [hget, hT0] at h58
        have h5 : (((hexd d).toNat : Nat) : Int) = 58 := by simpa using h58
        have h6 := (hexd_ne d hd16).1
        exact absurd (UInt8.toNat_inj.1 (by show (hexd d).toNat = 58; omega)) h6
      refine loop6z (w := w) (P := y :: P') (Q6 := Q) (Fine.start w _) rfl rfl rfl ⟨(jn (y :: P') ++ tlText Q).toArray⟩ (-1) (fun β => rfl) hI ?_
      intro o w2 g bs2 hw2 hbs2 hE
      obtain ⟨hsz, hoi, hq, hn, hsome⟩ := hE
      dsimp only
      refine splitT (fun h => by rw [hsz] at h; simp at h) (fun _ => splitD (fun hi16 => ?_) (fun hi16 => ?_))
      · obtain ⟨B', hQB, hB7⟩ : ∃ B', Q = some B' ∧ (y :: P').length + B'.length ≤ 7 := by
          rcases hQ with ⟨h, h8⟩ | ⟨B', h, h7⟩
          · rw [h, Option.getD_none, List.append_nil] at hoi
            omega
          · exact ⟨B', h, h7⟩
        have he := hsome B' hQB
        have hi' : o.i = 2 * ((y :: P').length + B'.length) := by rw [hoi, hQB, Option.getD_some, List.length_append]
        have hi2 : 2 ≤ o.i := by
          have : 0 < ((y :: P') ++ Q.getD []).length := List.length_pos_iff.2 hne
          rw [hoi]; omega
        rw [he]
        refine splitD (fun h => absurd h (by omega)) (fun _ => ?_)
        have e1 : IntKind.i64.wrap ((16 : Int) - (o.i : Int)) = ((16 - o.i : Nat) : Int) := by rw [wrapi (by omega) (by omega)]; omega
        have e2 : IntKind.i64.wrap ((o.i : Int) - (1 : Int)) = (o.i : Int) - 1 := wrapi (by omega) (by omega)
        rw [e1, e2]
        refine shiftF (w := w) (E := 2 * (y :: P').length) (I := o.i) (q := o.q) (Fine.mk' hw2 hbs2) rfl rfl (by omega) (by omega) rfl (fun β => rfl) ?_
        intro x w3 g3 bs3 hw3 hbs3 hF
        have hxe := hF.1
        have hxn := hF.2.1
        dsimp only
        rw [hxe, hxn]
        refine shiftG (w := w) (E := 2 * (y :: P').length) (I := o.i) (q := o.q) (q1 := x.q) (Fine.mk' hw3 hbs3) rfl rfl (by omega) (by omega) rfl ⟨rfl, rfl, hF.2.2⟩ (fun β => rfl) ?_
        intro q' w4 g4 bs4 hw4 hbs4 hq'
        refine retF (Fine.mk' hw4 hbs4) fun β' w' _ _ => ⟨q', fun j hj => ?_, rfl⟩
        rw [hQB]
        exact full_shift hi' (by omega) (fun j hj => by rw [hq j hj, hQB]) hq' j hj
      · have hQn : Q = none := by
          rcases hQ with ⟨h, _⟩ | ⟨B', h, h2⟩
          · exact h
          · rw [h, Option.getD_some, List.length_append] at hoi
            omega
        rw [hn hQn]
        refine splitD (fun h => absurd h (by omega)) (fun _ => ?_)
        refine retF (Fine.mk' hw2 hbs2) fun β' w' _ _ => ⟨o.q, fun j hj => ?_, rfl⟩
        have := hq j (by omega)
        simpa [full6, hQn] using this
    · refine loop6z (w := w) (P := y :: P') (Q6 := Q) (Fine.start w _) rfl rfl rfl ⟨(jn (y :: P') ++ tlText Q).toArray⟩ (-1) (fun β => rfl) hI ?_
      intro o w2 g bs2 hw2 hbs2 hE
      obtain ⟨hsz, hoi, hq, hn, hsome⟩ := hE
      dsimp only
      refine splitT (fun h => by rw [hsz] at h; simp at h) (fun _ => splitD (fun hi16 => ?_) (fun hi16 => ?_))
      · obtain ⟨B', hQB, hB7⟩ : ∃ B', Q = some B' ∧ (y :: P').length + B'.length ≤ 7 := by
          rcases hQ with ⟨h, h8⟩ | ⟨B', h, h7⟩
          · rw [h, Option.getD_none, List.append_nil] at hoi
            omega
          · exact ⟨B', h, h7⟩
        have he := hsome B' hQB
        have hi' : o.i = 2 * ((y :: P').length + B'.length) := by rw [hoi, hQB, Option.getD_some, List.length_append]
        have hi2 : 2 ≤ o.i := by
          have : 0 < ((y :: P') ++ Q.getD []).length := List.length_pos_iff.2 hne
          rw [hoi]; omega
        rw [he]
        refine splitD (fun h => absurd h (by omega)) (fun _ => ?_)
        have e1 : IntKind.i64.wrap ((16 : Int) - (o.i : Int)) = ((16 - o.i : Nat) : Int) := by rw [wrapi (by omega) (by omega)]; omega
        have e2 : IntKind.i64.wrap ((o.i : Int) - (1 : Int)) = (o.i : Int) - 1 := wrapi (by omega) (by omega)
        rw [e1, e2]
        refine shiftF (w := w) (E := 2 * (y :: P').length) (I := o.i) (q := o.q) (Fine.mk' hw2 hbs2) rfl rfl (by omega) (by omega) rfl (fun β => rfl) ?_
        intro x w3 g3 bs3 hw3 hbs3 hF
        have hxe := hF.1
        have hxn := hF.2.1
        dsimp only
        rw [hxe, hxn]
        refine shiftG (w := w) (E := 2 * (y :: P').length) (I := o.i) (q := o.q) (q1 := x.q) (Fine.mk' hw3 hbs3) rfl rfl (by omega) (by omega) rfl ⟨rfl, rfl, hF.2.2⟩ (fun β => rfl) ?_
        intro q' w4 g4 bs4 hw4 hbs4 hq'
        refine retF (Fine.mk' hw4 hbs4) fun β' w' _ _ => ⟨q', fun j hj => ?_, rfl⟩
        rw [hQB]
        exact full_shift hi' (by omega) (fun j hj => by rw [hq j hj, hQB]) hq' j hj
      · have hQn : Q = none := by
          rcases hQ with ⟨h, _⟩ | ⟨B', h, h2⟩
          · exact h
          · rw [h, Option.getD_some, List.length_append] at hoi
            omega
        rw [hn hQn]
        refine splitD (fun h => absurd h (by omega)) (fun _ => ?_)
        refine retF (Fine.mk' hw2 hbs2) fun β' w' _ _ => ⟨o.q, fun j hj => ?_, rfl⟩
        have := hq j (by omega)
        simpa [full6, hQn] using this

end Go.Proofs.YtdmnoagahjbjhaaGreatDoor
end

section
/- zzFields4: the trees. -/
set_option linter.unusedVariables false
set_option linter.unusedSimpArgs false
set_option maxRecDepth 20000
namespace Go.Proofs.YtdmnoagahjbjhaaGreatDoor
open Go Go.Rx Go.RowKit
structure Z4 where
  val : Nat
  pos : Nat
  dig : Nat
  i : Nat
  l : List Int
structure O4 where
  val : Nat
  q : Nat → Int
@[reducible] def base4 (a b c d : Int) : List SV := [.int .u8 0 true, .int .u8 0 true, .int .u8 0 true, .int .u8 0 true, .int .u8 0 true, .int .u8 0 true, .int .u8 0 true, .int .u8 0 true, .int .u8 0 true, .int .u8 0 true, .int .u8 255 true, .int .u8 255 true, .int .u8 a false, .int .u8 b false, .int .u8 c false, .int .u8 d false]
@[reducible] def start4 : List SV := [.int .u8 0 true, .int .u8 0 true, .int .u8 0 true, .int .u8 0 true, .int .u8 0 true, .int .u8 0 true, .int .u8 0 true, .int .u8 0 true, .int .u8 0 true, .int .u8 0 true, .int .u8 255 true, .int .u8 255 true, .int .u8 0 true, .int .u8 0 true, .int .u8 0 true, .int .u8 0 true]
@[reducible] def iObjs4 (l : List Int) : List SObj := [.ints .u8 l 196 0 0]
@[reducible] def cObjs4 (a b c d : Int) : List SObj := [.cells (base4 a b c d) 16 196 0 0]
def L305 : SE → List Nat
  | .normal => [0, 1, 4, 5, 6, 7, 8]
  | .exit _ => [0, 1, 4, 5, 6]
  | _ => []
@[reducible] def z4Svs (s : ByteArray) (z : Z4) : List SV := [.str s false, .slc 0 12 4 4 true true, .bool false true, .int .i64 z.val false, .int .i64 z.pos false, .int .i64 z.dig false, .int .i64 z.i false]
@[reducible] def o4Svs (s : ByteArray) (z : O4) : List SV := [.str s false, .slc 0 12 4 4 true true, .bool false true, .int .i64 z.val false, .int .i64 3 false]
def lh305 (s : ByteArray) : LoopHook := mkHookT 82 O4 (.exit 0) [0, 1, 4, 5, 6] (o4Svs s) (fun z => cObjs4 (z.q 0) (z.q 1) (z.q 2) (z.q 3)) Unit .ret [] (fun _ => []) (fun _ => cObjs4 0 0 0 0)
def hk305 (s : ByteArray) : Hooks := { calls := fun _ => none, loops := fun _ _ => some (lh305 s) }
set_option maxRecDepth 100000 in
theorem r305 (s : ByteArray) (z : Z4) (w : World) (bs : List Nat) (g : Nat → Value) : xCode Tryz.prog noHk 1000 305 (loopOf Tryz.prog 305 4) (mkFrame ((L305 .normal).zip (z4Svs s z)) g 82 0) (fun e a s => .leaf e (sel L305 e a) s) (SS.mk (iObjs4 z.l) [] true w bs) =
  (.split (decide ((↑z.i : Int) < (↑s.size : Int)))
   (.need ((0 : Int) ≤ (↑z.i : Int) ∧ (↑z.i : Int) < (↑s.size : Int))
   (.split (decide ((↑(s.data.toList.getD (↑z.i : Int).toNat (0 : UInt8)).toNat : Int) ≥ (48 : Int)))
    (.need ((0 : Int) ≤ (↑z.i : Int) ∧ (↑z.i : Int) < (↑s.size : Int))
    (.split (decide ((↑(s.data.toList.getD (↑z.i : Int).toNat (0 : UInt8)).toNat : Int) ≤ (57 : Int)))
     (.split ((↑z.dig : Int) == (1 : Int))
      (.split ((↑z.val : Int) == (0 : Int))
       (.leaf .ret [] (SS.mk [(.ints .u8 z.l 196 0 0)] [] true w bs))
       (.need ((0 : Int) ≤ (↑z.i : Int) ∧ (↑z.i : Int) < (↑s.size : Int))
       (.split (decide (IntKind.i64.wrap (IntKind.i64.wrap (IntKind.i64.wrap ((↑z.val : Int) * (10 : Int)) + IntKind.i64.wrap (↑(s.data.toList.getD (↑z.i : Int).toNat (0 : UInt8)).toNat : Int)) - (48 : Int)) > (255 : Int)))
        (.leaf .ret [] (SS.mk [(.ints .u8 z.l 196 0 0)] [] true w bs))
        (.leaf .normal [(.str s false), (.slc 0 12 4 4 true true), (.bool false true), (.int .i64 (IntKind.i64.wrap (IntKind.i64.wrap (IntKind.i64.wrap ((↑z.val : Int) * (10 : Int)) + IntKind.i64.wrap (↑(s.data.toList.getD (↑z.i : Int).toNat (0 : UInt8)).toNat : Int)) - (48 : Int))) false), (.int .i64 ((↑z.pos : Int)) false), (.int .i64 (IntKind.i64.wrap ((↑z.dig : Int) + (1 : Int))) false), (.int .i64 (IntKind.i64.wrap ((↑z.i : Int) + (1 : Int))) false)] (SS.mk [(.ints .u8 z.l 196 0 0)] [] true w bs)))))
      (.need ((0 : Int) ≤ (↑z.i : Int) ∧ (↑z.i : Int) < (↑s.size : Int))
      (.split (decide (IntKind.i64.wrap (IntKind.i64.wrap (IntKind.i64.wrap ((↑z.val : Int) * (10 : Int)) + IntKind.i64.wrap (↑(s.data.toList.getD (↑z.i : Int).toNat (0 : UInt8)).toNat : Int)) - (48 : Int)) > (255 : Int)))
       (.leaf .ret [] (SS.mk [(.ints .u8 z.l 196 0 0)] [] true w bs))
       (.leaf .normal [(.str s false), (.slc 0 12 4 4 true true), (.bool false true), (.int .i64 (IntKind.i64.wrap (IntKind.i64.wrap (IntKind.i64.wrap ((↑z.val : Int) * (10 : Int)) + IntKind.i64.wrap (↑(s.data.toList.getD (↑z.i : Int).toNat (0 : UInt8)).toNat : Int)) - (48 : Int))) false), (.int .i64 ((↑z.pos : Int)) false), (.int .i64 (IntKind.i64.wrap ((↑z.dig : Int) + (1 : Int))) false), (.int .i64 (IntKind.i64.wrap ((↑z.i : Int) + (1 : Int))) false)] (SS.mk [(.ints .u8 z.l 196 0 0)] [] true w bs)))))
     (.need ((0 : Int) ≤ (↑z.i : Int) ∧ (↑z.i : Int) < (↑s.size : Int))
     (.split ((↑(s.data.toList.getD (↑z.i : Int).toNat (0 : UInt8)).toNat : Int) == (46 : Int))
      (.split ((↑z.i : Int) == (0 : Int))
       (.leaf .ret [] (SS.mk [(.ints .u8 z.l 196 0 0)] [] true w bs))
       (.split ((↑z.i : Int) == IntKind.i64.wrap ((↑s.size : Int) - (1 : Int)))
        (.leaf .ret [] (SS.mk [(.ints .u8 z.l 196 0 0)] [] true w bs))
        (.need ((0 : Int) ≤ IntKind.i64.wrap ((↑z.i : Int) - (1 : Int)) ∧ IntKind.i64.wrap ((↑z.i : Int) - (1 : Int)) < (↑s.size : Int))
        (.split ((↑(s.data.toList.getD (IntKind.i64.wrap ((↑z.i : Int) - (1 : Int))).toNat (0 : UInt8)).toNat : Int) == (46 : Int))
         (.leaf .ret [] (SS.mk [(.ints .u8 z.l 196 0 0)] [] true w bs))
         (.split ((↑z.pos : Int) == (3 : Int))
          (.leaf .ret [] (SS.mk [(.ints .u8 z.l 196 0 0)] [] true w bs))
          (.need ((0 : Int) ≤ (↑z.pos : Int) ∧ (↑z.pos : Int) < (↑(4 : Nat) : Int))
          (.need ((12 : Nat) + (↑z.pos : Int).toNat * (1 : Nat) < z.l.length)
          (.need (thawed (0 : Nat) (0 : Nat) ((12 : Nat) + (↑z.pos : Int).toNat * (1 : Nat)) (1 : Nat) = true)
          (.leaf .normal [(.str s false), (.slc 0 12 4 4 true true), (.bool false true), (.int .i64 0 true), (.int .i64 (IntKind.i64.wrap ((↑z.pos : Int) + (1 : Int))) false), (.int .i64 0 true), (.int .i64 (IntKind.i64.wrap ((↑z.i : Int) + (1 : Int))) false)] (SS.mk [(.ints .u8 (z.l.set ((12 : Nat) + (↑z.pos : Int).toNat * (1 : Nat)) (IntKind.u8.wrap (↑z.val : Int))) 196 0 0)] [] true w bs))))))))))
      (.leaf .ret [] (SS.mk [(.ints .u8 z.l 196 0 0)] [] true w bs))))))
    (.need ((0 : Int) ≤ (↑z.i : Int) ∧ (↑z.i : Int) < (↑s.size : Int))
    (.split ((↑(s.data.toList.getD (↑z.i : Int).toNat (0 : UInt8)).toNat : Int) == (46 : Int))
     (.split ((↑z.i : Int) == (0 : Int))
      (.leaf .ret [] (SS.mk [(.ints .u8 z.l 196 0 0)] [] true w bs))
      (.split ((↑z.i : Int) == IntKind.i64.wrap ((↑s.size : Int) - (1 : Int)))
       (.leaf .ret [] (SS.mk [(.ints .u8 z.l 196 0 0)] [] true w bs))
       (.need ((0 : Int) ≤ IntKind.i64.wrap ((↑z.i : Int) - (1 : Int)) ∧ IntKind.i64.wrap ((↑z.i : Int) - (1 : Int)) < (↑s.size : Int))
       (.split ((↑(s.data.toList.getD (IntKind.i64.wrap ((↑z.i : Int) - (1 : Int))).toNat (0 : UInt8)).toNat : Int) == (46 : Int))
        (.leaf .ret [] (SS.mk [(.ints .u8 z.l 196 0 0)] [] true w bs))
        (.split ((↑z.pos : Int) == (3 : Int))
         (.leaf .ret [] (SS.mk [(.ints .u8 z.l 196 0 0)] [] true w bs))
         (.need ((0 : Int) ≤ (↑z.pos : Int) ∧ (↑z.pos : Int) < (↑(4 : Nat) : Int))
         (.need ((12 : Nat) + (↑z.pos : Int).toNat * (1 : Nat) < z.l.length)
         (.need (thawed (0 : Nat) (0 : Nat) ((12 : Nat) + (↑z.pos : Int).toNat * (1 : Nat)) (1 : Nat) = true)
         (.leaf .normal [(.str s false), (.slc 0 12 4 4 true true), (.bool false true), (.int .i64 0 true), (.int .i64 (IntKind.i64.wrap ((↑z.pos : Int) + (1 : Int))) false), (.int .i64 0 true), (.int .i64 (IntKind.i64.wrap ((↑z.i : Int) + (1 : Int))) false)] (SS.mk [(.ints .u8 (z.l.set ((12 : Nat) + (↑z.pos : Int).toNat * (1 : Nat)) (IntKind.u8.wrap (↑z.val : Int))) 196 0 0)] [] true w bs))))))))))
     (.leaf .ret [] (SS.mk [(.ints .u8 z.l 196 0 0)] [] true w bs))))))
   (.leaf (.exit 0) [(.str s false), (.slc 0 12 4 4 true true), (.bool false true), (.int .i64 ((↑z.val : Int)) false), (.int .i64 ((↑z.pos : Int)) false)] (SS.mk [(.ints .u8 z.l 196 0 0)] [] true w bs))) := by kernel_rfl
set_option maxRecDepth 100000 in
theorem t305 (s : ByteArray) (w : World) (bs : List Nat) : xFunc Tryz.prog (hk305 s) 500 305 [.str s false, .slc 0 12 4 4 true true] (SS.mk [.cells start4 16 196 0 0] [] true w bs) =
  (.loop 305 (loopOf Tryz.prog 305 4) ([(.str s false), (.slc 0 12 4 4 true true), (.tup []), (.tup []), (.bool false true), (.int .i64 0 true), (.int .i64 0 true), (.int .i64 0 true), (.int .i64 0 true)] ++ List.replicate 73 undefS) (SS.mk [(.cells [(.int .u8 0 true), (.int .u8 0 true), (.int .u8 0 true), (.int .u8 0 true), (.int .u8 0 true), (.int .u8 0 true), (.int .u8 0 true), (.int .u8 0 true), (.int .u8 0 true), (.int .u8 0 true), (.int .u8 255 true), (.int .u8 255 true), (.int .u8 0 true), (.int .u8 0 true), (.int .u8 0 true), (.int .u8 0 true)] 16 196 0 0)] [] true w bs) (LoopHook.X (lh305 s)) (LoopHook.out (lh305 s) ([(.str s false), (.slc 0 12 4 4 true true), (.tup []), (.tup []), (.bool false true), (.int .i64 0 true), (.int .i64 0 true), (.int .i64 0 true), (.int .i64 0 true)] ++ List.replicate 73 undefS) (SS.mk [(.cells [(.int .u8 0 true), (.int .u8 0 true), (.int .u8 0 true), (.int .u8 0 true), (.int .u8 0 true), (.int .u8 0 true), (.int .u8 0 true), (.int .u8 0 true), (.int .u8 0 true), (.int .u8 0 true), (.int .u8 255 true), (.int .u8 255 true), (.int .u8 0 true), (.int .u8 0 true), (.int .u8 0 true), (.int .u8 0 true)] 16 196 0 0)] [] true w bs)) (fun x0 w0 b0 =>
   (.split false
    (.leaf .ret [(.bool false true)] (SS.mk [(.cells [(.int .u8 0 true), (.int .u8 0 true), (.int .u8 0 true), (.int .u8 0 true), (.int .u8 0 true), (.int .u8 0 true), (.int .u8 0 true), (.int .u8 0 true), (.int .u8 0 true), (.int .u8 0 true), (.int .u8 255 true), (.int .u8 255 true), (.int .u8 (x0.fst.q (0 : Nat)) false), (.int .u8 (x0.fst.q (1 : Nat)) false), (.int .u8 (x0.fst.q (2 : Nat)) false), (.int .u8 (x0.fst.q (3 : Nat)) false)] 16 196 0 0)] [] true w0 b0))
    (.leaf .ret [(.bool true true)] (SS.mk [(.cells [(.int .u8 0 true), (.int .u8 0 true), (.int .u8 0 true), (.int .u8 0 true), (.int .u8 0 true), (.int .u8 0 true), (.int .u8 0 true), (.int .u8 0 true), (.int .u8 0 true), (.int .u8 0 true), (.int .u8 255 true), (.int .u8 255 true), (.int .u8 (x0.fst.q (0 : Nat)) false), (.int .u8 (x0.fst.q (1 : Nat)) false), (.int .u8 (x0.fst.q (2 : Nat)) false), (.int .u8 (IntKind.u8.wrap (↑x0.fst.val : Int)) false)] 16 196 0 0)] [] true w0 b0))))
  (LoopHook.Y (lh305 s)) (LoopHook.out' (lh305 s) ([(.str s false), (.slc 0 12 4 4 true true), (.tup []), (.tup []), (.bool false true), (.int .i64 0 true), (.int .i64 0 true), (.int .i64 0 true), (.int .i64 0 true)] ++ List.replicate 73 undefS) (SS.mk [(.cells [(.int .u8 0 true), (.int .u8 0 true), (.int .u8 0 true), (.int .u8 0 true), (.int .u8 0 true), (.int .u8 0 true), (.int .u8 0 true), (.int .u8 0 true), (.int .u8 0 true), (.int .u8 0 true), (.int .u8 255 true), (.int .u8 255 true), (.int .u8 0 true), (.int .u8 0 true), (.int .u8 0 true), (.int .u8 0 true)] 16 196 0 0)] [] true w bs)) (fun x0 w0 b0 =>
   (.leaf .ret [(.raw (x0.snd (4 : Nat)))] (SS.mk [(.cells [(.int .u8 0 true), (.int .u8 0 true), (.int .u8 0 true), (.int .u8 0 true), (.int .u8 0 true), (.int .u8 0 true), (.int .u8 0 true), (.int .u8 0 true), (.int .u8 0 true), (.int .u8 0 true), (.int .u8 255 true), (.int .u8 255 true), (.int .u8 0 false), (.int .u8 0 false), (.int .u8 0 false), (.int .u8 0 false)] 16 196 0 0)] [] true w0 b0)))) := by kernel_rfl

end Go.Proofs.YtdmnoagahjbjhaaGreatDoor
end

section
/- zzFields4. -/
set_option linter.unusedVariables false
set_option linter.unusedSimpArgs false
set_option maxRecDepth 20000
namespace Go.Proofs.YtdmnoagahjbjhaaGreatDoor
open Go Go.Rx Go.RowKit

def decVal (x k : Nat) : Nat := ((dec x).take k).foldl (fun a d => a * 10 + (d.toNat - 48)) 0

theorem decFacts : ∀ x : Nat, x < 256 → 0 < (dec x).length ∧ decVal x (dec x).length = x ∧ ∀ k : Nat, k < (dec x).length → 48 ≤ ((dec x).getD k 0).toNat ∧ ((dec x).getD k 0).toNat ≤ 57 ∧ decVal x (k + 1) = decVal x k * 10 + (((dec x).getD k 0).toNat - 48) ∧ decVal x (k + 1) ≤ 255 ∧ (k = 1 → decVal x 1 ≠ 0) := by decide +kernel

def jd : List UInt8 → List UInt8
  | [] => []
  | [x] => dec x.toNat
  | x :: r => dec x.toNat ++ [46] ++ jd r

theorem jd4 (a b c d : UInt8) : jd [a, b, c, d] = text4 a b c d := by simp [jd, text4]

theorem jd_pos (x : UInt8) (r : List UInt8) : 0 < (jd (x :: r)).length := by
  have := (decFacts x.toNat x.toNat_lt).1
  cases r with
  | nil => simpa [jd] using this
  | cons y r =>
    simp [jd]
    omega

def tl4 (R : List UInt8) : List UInt8 := if R = [] then [] else 46 :: jd R

theorem jd_cons (x : UInt8) (R : List UInt8) : jd (x :: R) = dec x.toNat ++ tl4 R := by
  cases R with
  | nil => simp [jd, tl4]
  | cons y r => simp [jd, tl4]

def Inv4 (T : List UInt8) (os : List UInt8) (z : Z4) : Prop :=
  z.l.length = 16 ∧ (∀ j, j < 10 → z.l.getD j 0 = 0) ∧ z.l.getD 10 0 = 255 ∧ z.l.getD 11 0 = 255 ∧ ∃ pre done x R, os = done ++ x :: R ∧ T = pre ++ dec x.toNat ++ tl4 R ∧ z.i = pre.length + z.dig ∧ z.dig ≤ (dec x.toNat).length ∧ z.val = decVal x.toNat z.dig ∧ z.pos = done.length ∧
    (∀ j, j < done.length → z.l.getD (12 + j) 0 = ((done.getD j 0).toNat : Int))

def End4 (os : List UInt8) (o : O4) : Prop := (∀ j, j < 3 → o.q j = ((os.getD j 0).toNat : Int)) ∧ o.val = (os.getD 3 0).toNat

theorem getD_set' {l : List Int} {a k : Nat} {v : Int} (h : a < l.length) : (l.set a v).getD k 0 = if k = a then v else l.getD k 0 := by
  rw [List.getD_eq_getElem?_getD, List.getD_eq_getElem?_getD]
  by_cases hk : k = a
  · subst hk
    rw [List.getElem?_set_self h, if_pos rfl]; rfl
  · rw [List.getElem?_set_ne (fun e => hk e.symm), if_neg hk]

theorem iObjs4_ok (l : List Int) : (iObjs4 l).length = 1 ∧ ∀ o ∈ iObjs4 l, o.ok 1 := ⟨rfl, fun o ho => by
  simp only [iObjs4, List.mem_singleton] at ho
  subst ho
  exact trivial⟩

theorem cObjs4_ok (a b c d : Int) : (cObjs4 a b c d).length = 1 ∧ ∀ o ∈ cObjs4 a b c d, o.ok 1 := ⟨rfl, fun o ho => by
  simp only [cObjs4, List.mem_singleton] at ho
  subst ho
  exact ⟨trivial, trivial, trivial, trivial, trivial, trivial, trivial, trivial, trivial, trivial, trivial, trivial, trivial, trivial, trivial, trivial, trivial⟩⟩

theorem ints_cells4 {β : Nat → Nat} {l : List Int} {w : World} (h : ObjsAt β (iObjs4 l) w) (hl : l.length = 16) (h0 : ∀ j, j < 10 → l.getD j 0 = 0) (h10 : l.getD 10 0 = 255) (h11 : l.getD 11 0 = 255) :
    ObjsAt β (cObjs4 (l.getD (12 + 0) 0) (l.getD (12 + 1) 0) (l.getD (12 + 2) 0) (l.getD (12 + 3) 0)) w := by
  intro i o hi
  match i, hi with
  | 0, hi =>
    have := h 0 _ rfl
    simp only [cObjs4, List.getElem?_cons_zero, Option.some.injEq] at hi
    subst hi
    refine ⟨[], ?_, rfl⟩
    rw [show w.heap[β 0]? = _ from this]
    have e : denL β (base4 (l.getD (12 + 0) 0) (l.getD (12 + 1) 0) (l.getD (12 + 2) 0) (l.getD (12 + 3) 0)) = l.map (Value.int .u8) := by
      conv => rhs; rw [list16 hl, h0 0 (by omega), h0 1 (by omega), h0 2 (by omega), h0 3 (by omega), h0 4 (by omega), h0 5 (by omega), h0 6 (by omega), h0 7 (by omega), h0 8 (by omega), h0 9 (by omega), h10, h11]
      rfl
    rw [e]
    simp
  | i + 1, hi => simp [cObjs4] at hi

theorem round305 (T os : List UInt8) (hos : os.length = 4) (hTl : T.length < 1000) (β : Nat → Nat) (w0 w1 : World) (z : Z4) (g : Nat → Value) (hk01 : Keep (blocks β 1) w0 w1) (hI : Inv4 T os z) :
    (xCode Tryz.prog noHk 1000 305 (loopOf Tryz.prog 305 4) (mkFrame ((L305 .normal).zip (z4Svs ⟨T.toArray⟩ z)) g 82 0) (fun e a s => .leaf e (sel L305 e a) s) (SS.mk (iObjs4 z.l) [] true w1 (blocks β 1))).holds
      { P := Tryz.prog, β0 := β, n0 := 1, Q := rQT β (blocks β 1) (z4Svs ⟨T.toArray⟩) (fun z => iObjs4 z.l) (fun z => T.length - z.i) (fun z _ => Inv4 T os z) (.exit 0) (o4Svs ⟨T.toArray⟩) (fun o => cObjs4 (o.q 0) (o.q 1) (o.q 2) (o.q 3)) (fun o _ => End4 os o) .ret (fun _ : Unit => []) (fun _ => cObjs4 0 0 0 0) (fun _ _ => False) w0 z } := by
  obtain ⟨hl, h0, h10, h11, pre, done, x, R, hos', hT, hi, hdl, hval, hpos, hq⟩ := hI
  obtain ⟨hp, hfull, hk⟩ := decFacts x.toNat x.toNat_lt
  have hsz : (⟨T.toArray⟩ : ByteArray).size = T.length := bsize _
  have hget : ∀ j, ((⟨T.toArray⟩ : ByteArray).data.toList.getD j 0) = T.getD j 0 := fun j => rfl
  have hTlen : T.length = pre.length + (dec x.toNat).length + (tl4 R).length := by rw [hT]; simp; omega
  have hdone : done.length + 1 + R.length = 4 := by rw [hos'] at hos; simp at hos; omega
  have hin : ∀ k, k < (dec x.toNat).length → T.getD (pre.length + k) 0 = (dec x.toNat).getD k 0 := fun k hk' => by
    rw [hT, List.getD_eq_getElem?_getD, List.getD_eq_getElem?_getD, List.append_assoc, List.getElem?_append_right (by omega), List.getElem?_append_left (by omega)]
    congr 2
    omega
  refine holds_eq (r305 ⟨T.toArray⟩ z w1 (blocks β 1) g) ?_
  simp only [Int.toNat_natCast, hget, hsz]
  rcases Nat.lt_or_ge z.dig (dec x.toNat).length with hlt | hge
  · obtain ⟨f1, f2, f3, f4, f5⟩ := hk z.dig hlt
    have hc : T.getD z.i 0 = (dec x.toNat).getD z.dig 0 := by rw [hi]; exact hin _ hlt
    simp only [hc]
    have hv : IntKind.i64.wrap (IntKind.i64.wrap (IntKind.i64.wrap ((z.val : Int) * 10) + IntKind.i64.wrap ((((dec x.toNat).getD z.dig 0).toNat : Nat) : Int)) - 48) = ((decVal x.toNat (z.dig + 1) : Nat) : Int) := by
      rw [← hval] at f3
      have a1 : IntKind.i64.wrap ((z.val : Int) * 10) = (z.val : Int) * 10 := wrapi (by omega) (by omega)
      have a2 : IntKind.i64.wrap ((((dec x.toNat).getD z.dig 0).toNat : Nat) : Int) = (((dec x.toNat).getD z.dig 0).toNat : Int) := wrapi (by omega) (by omega)
      have a3 : IntKind.i64.wrap ((z.val : Int) * 10 + (((dec x.toNat).getD z.dig 0).toNat : Int)) = (z.val : Int) * 10 + (((dec x.toNat).getD z.dig 0).toNat : Int) := wrapi (by omega) (by omega)
      rw [a1, a2, a3, wrapi (by omega) (by omega)]
      omega
    simp only [hv]
    have hiT : z.i < T.length := by omega
    have e1 : IntKind.i64.wrap ((z.dig : Int) + 1) = ((z.dig + 1 : Nat) : Int) := by rw [wrapi (by omega) (by omega)]; omega
    have e2 : IntKind.i64.wrap ((z.i : Int) + 1) = ((z.i + 1 : Nat) : Int) := by rw [wrapi (by omega) (by omega)]; omega
    simp only [e1, e2]
    have fin : (Rx.T.leaf .normal [.str ⟨T.toArray⟩ false, .slc 0 12 4 4 true true, .bool false true, .int .i64 ((decVal x.toNat (z.dig + 1) : Nat) : Int) false, .int .i64 z.pos false, .int .i64 ((z.dig + 1 : Nat) : Int) false, .int .i64 ((z.i + 1 : Nat) : Int) false] (SS.mk (iObjs4 z.l) [] true w1 (blocks β 1))).holds
      { P := Tryz.prog, β0 := β, n0 := 1, Q := rQT β (blocks β 1) (z4Svs ⟨T.toArray⟩) (fun z => iObjs4 z.l) (fun z => T.length - z.i) (fun z _ => Inv4 T os z) (.exit 0) (o4Svs ⟨T.toArray⟩) (fun o => cObjs4 (o.q 0) (o.q 1) (o.q 2) (o.q 3)) (fun o _ => End4 os o) .ret (fun _ : Unit => []) (fun _ => cObjs4 0 0 0 0) (fun _ _ => False) w0 z } := by
      refine leafK ⟨rfl, hk01, fun b hb => .inl hb⟩ fun β' w' hst hk' => ⟨⟨decVal x.toNat (z.dig + 1), z.pos, z.dig + 1, z.i + 1, z.l⟩, by show T.length - (z.i + 1) < T.length - z.i; omega, ?_, hst.objsAt rfl (iObjs4_ok _).2, ⟨hl, h0, h10, h11, pre, done, x, R, hos', hT, by show z.i + 1 = pre.length + (z.dig + 1); omega, by show z.dig + 1 ≤ _; omega, rfl, hpos, hq⟩, hk'⟩
      have hb0 := hst.base 0 (by show 0 < 1; omega)
      simp only [z4Svs, denL, SV.den]
      rw [hb0]
    refine splitD (fun _ => ?_) (fun h => absurd (by omega) h)
    refine needT (by omega) (splitD (fun _ => ?_) (fun h => absurd (by omega) h))
    refine needT (by omega) (splitD (fun _ => ?_) (fun h => absurd (by omega) h))
    refine splitT (fun hd1 => splitT (fun hv0 => ?_) (fun _ => ?_)) (fun _ => ?_)
    · have h1 : z.dig = 1 := by have := eq_of_beq hd1; omega
      have h2 : z.val = 0 := by have := eq_of_beq hv0; omega
      rw [h1] at hval
      exact absurd (hval.symm.trans h2) (f5 h1)
    · refine needT (by omega) (splitD (fun h => absurd h (by omega)) (fun _ => ?_))
      exact fin
    · refine needT (by omega) (splitD (fun h => absurd h (by omega)) (fun _ => ?_))
      exact fin
  · have hdig : z.dig = (dec x.toNat).length := by omega
    cases R with
    | nil =>
      have hi' : z.i = T.length := by rw [hTlen, hi, hdig]; simp [tl4]
      refine splitD (fun h => absurd h (by omega)) (fun _ => ?_)
      have hp3 : done.length = 3 := by simp at hdone; omega
      refine leafK ⟨rfl, hk01, fun b hb => .inl hb⟩ fun β' w' hst hk' => ⟨.inl ⟨⟨z.val, fun j => z.l.getD (12 + j) 0⟩, rfl, ?_, ints_cells4 (hst.objsAt rfl (iObjs4_ok _).2) hl h0 h10 h11, fun j hj => ?_, ?_⟩, hk'⟩
      · have hb0 := hst.base 0 (by show 0 < 1; omega)
        simp only [o4Svs, denL, SV.den]
        rw [hb0, hpos, hp3]
        rfl
      · show z.l.getD (12 + j) 0 = _
        rw [hq j (by omega), hos', List.getD_eq_getElem?_getD, List.getD_eq_getElem?_getD, List.getElem?_append_left (by omega)]
      · show z.val = _
        rw [hval, hdig, hfull, hos', List.getD_eq_getElem?_getD, List.getElem?_append_right (by omega), hp3]
        rfl
    | cons y R' =>
      have htl : tl4 (y :: R') = 46 :: jd (y :: R') := by simp [tl4]
      have hjp := jd_pos y R'
      have hTlen2 : T.length = pre.length + (dec x.toNat).length + 1 + (jd (y :: R')).length := by rw [hTlen, htl]; simp; omega
      have hc : T.getD z.i 0 = 46 := by
        rw [hi, hdig, hT, htl, List.getD_eq_getElem?_getD, List.getElem?_append_right (by simp)]
        simp
      have hd3 : done.length ≤ 2 := by simp at hdone; omega
      have e0 : IntKind.i64.wrap ((z.i : Int) - 1) = ((z.i - 1 : Nat) : Int) := by rw [wrapi (by omega) (by omega)]; omega
      have e1 : IntKind.i64.wrap ((z.pos : Int) + 1) = ((z.pos + 1 : Nat) : Int) := by rw [wrapi (by omega) (by omega)]; omega
      have e2 : IntKind.i64.wrap ((z.i : Int) + 1) = ((z.i + 1 : Nat) : Int) := by rw [wrapi (by omega) (by omega)]; omega
      have e3 : IntKind.i64.wrap ((T.length : Int) - 1) = ((T.length - 1 : Nat) : Int) := by rw [wrapi (by omega) (by omega)]; omega
      have e4 : IntKind.u8.wrap (z.val : Int) = (x.toNat : Int) := by
        rw [hval, hdig, hfull]
        exact u8_wrap x.toNat_lt
      have hprev : T.getD (z.i - 1) 0 = (dec x.toNat).getD ((dec x.toNat).length - 1) 0 := by
        rw [show z.i - 1 = pre.length + ((dec x.toNat).length - 1) by omega]
        exact hin _ (by omega)
      have f1 := (hk ((dec x.toNat).length - 1) (by omega)).1
      have h46 : ((46 : UInt8).toNat : Int) = 46 := rfl
      simp only [hc, e0, e1, e2, e3, e4, Int.toNat_natCast, hprev, h46]
      refine splitD (fun _ => ?_) (fun h => absurd (by omega) h)
      refine needT (by omega) (splitD (fun h => absurd h (by omega)) (fun _ => ?_))
      refine needT (by omega) (splitT (fun _ => ?_) (fun h => by simp at h))
      refine splitT (fun h => by have := eq_of_beq h; omega) (fun _ => splitT (fun h => by have := eq_of_beq h; omega) (fun _ => ?_))
      refine needT (by omega) (splitT (fun h => by have := eq_of_beq h; omega) (fun _ => splitT (fun h => by have := eq_of_beq h; omega) (fun _ => ?_)))
      refine needT (by omega) (needT (by omega) (needT rfl ?_))
      refine leafK ⟨rfl, hk01, fun b hb => .inl hb⟩ fun β' w' hst hk' => ⟨⟨0, z.pos + 1, 0, z.i + 1, z.l.set (12 + z.pos * 1) (x.toNat : Int)⟩, by show T.length - (z.i + 1) < T.length - z.i; omega, ?_, hst.objsAt rfl (iObjs4_ok _).2, ⟨by simp [hl], fun j hj => ?_, ?_, ?_, pre ++ dec x.toNat ++ [46], done ++ [x], y, R', by rw [hos']; simp, ?_, ?_, Nat.zero_le _, rfl, by simp [hpos], fun j hj => ?_⟩, hk'⟩
      · have hb0 := hst.base 0 (by show 0 < 1; omega)
        simp only [z4Svs, denL, SV.den]
        rw [hb0]
        rfl
      · show (z.l.set _ _).getD j 0 = 0
        rw [getD_set' (by omega), if_neg (by omega)]
        exact h0 j hj
      · show (z.l.set _ _).getD 10 0 = 255
        rw [getD_set' (by omega), if_neg (by omega)]
        exact h10
      · show (z.l.set _ _).getD 11 0 = 255
        rw [getD_set' (by omega), if_neg (by omega)]
        exact h11
      · rw [hT, htl, jd_cons]
        simp
      · show z.i + 1 = _
        simp
        omega
      · show (z.l.set _ _).getD (12 + j) 0 = _
        simp only [List.length_append, List.length_cons, List.length_nil] at hj
        rw [getD_set' (by omega)]
        split
        · have : j = done.length := by omega
          subst this
          rw [List.getD_eq_getElem?_getD, List.getElem?_append_right (by omega)]
          simp
        · rw [hq j (by omega), List.getD_eq_getElem?_getD, List.getD_eq_getElem?_getD, List.getElem?_append_left (by omega)]

end Go.Proofs.YtdmnoagahjbjhaaGreatDoor
end

section
/- zzFields4, joined. -/
set_option linter.unusedVariables false
set_option linter.unusedSimpArgs false
set_option maxRecDepth 20000
namespace Go.Proofs.YtdmnoagahjbjhaaGreatDoor
open Go Go.Rx Go.RowKit

/-- As 'callM', in a round. -/
theorem callMK {Γ : Ctx} {s : SS} {w : World} {bs : List Nat} {f : FuncId} {args : List SV} {X : Type} {out : X → SV × List SObj} {k : X → World → List Nat → T} {R : X → World → World → Prop} (hf : KFine bs w s) (hgl : s.gl = [])
    (hout : ∀ x, (out x).2.length = s.n ∧ (∀ u ∈ (out x).2, u.ok s.n) ∧ (out x).1.ok s.n)
    (hc : ∀ β w0, St Γ β s w0 → Keep bs w w0 → Calls Γ.P f (denL β args).toArray w0 fun e w' => ∃ x, e = .returned ((out x).1.den β) ∧ Keep (blocks β s.n) w0 w' ∧ ObjsAt β (out x).2 w' ∧ R x w0 w')
    (hk : ∀ x w0 w' bs', R x w0 w' → Keep bs w w' → (∀ b ∈ bs', b ∈ bs ∨ w.heap.size ≤ b) → (k x w' bs').holds Γ) : (T.call f args s X out k).holds Γ := by
  intro β w0 hs hargs
  have o := hs.old hf.ext
  have hbw := o.keepK hf
  refine (hc β w0 hs hbw).mono ?_
  rintro e w' ⟨x, rfl, hkp, hat, hr⟩
  obtain ⟨ho1, ho2, ho3⟩ := hout x
  have hbs := blocks_keep o hf
  have hkw : Keep bs w w' :=
    ⟨hkp.os.trans hbw.os, hkp.tape.trans hbw.tape, hkp.output.trans hbw.output, Nat.le_trans hbw.size hkp.size, fun b hb hn => (hkp.block b (Nat.lt_of_lt_of_le hb hbw.size) (fun hm => by
      rcases hbs b hm with h | h
      · exact hn h
      · omega)).trans (hbw.block b hb hn)⟩
  refine ⟨x, β, blocks β s.n, rfl, ⟨hs.turned hgl hkp ho1 ho2 hat, ?_, fun _ _ => rfl⟩, ?_, hk x w0 w' _ hr hkw hbs⟩
  · show s.n ≤ (out x).2.length
    omega
  · show SV.ok (out x).2.length (out x).1
    rw [ho1]
    exact ho3

theorem start_ints {β : Nat → Nat} {w : World} {s : SS} {Γ : Ctx} (hs : St Γ β s w) (ho : s.objs = [.cells start4 16 196 0 0]) : ObjsAt β (iObjs4 [0, 0, 0, 0, 0, 0, 0, 0, 0, 0, 255, 255, 0, 0, 0, 0]) w := by
  intro i o hi
  match i, hi with
  | 0, hi =>
    obtain ⟨rest, h1, h2⟩ := hs.at_ 0 (.cells start4 16 196 0 0) (by rw [ho]; rfl)
    simp only [iObjs4, List.getElem?_cons_zero, Option.some.injEq] at hi
    subst hi
    have hr : rest = [] := List.eq_nil_of_length_eq_zero (by have : start4.length = 16 := rfl; omega)
    subst hr
    show w.heap[β 0]? = _
    rw [h1]
    simp [denL, SV.den, start4]
  | i + 1, hi => simp [iObjs4] at hi

theorem fields4_c (a b c d : UInt8) (l1 l2 l3 : Bool) {Γ : Ctx} {β : Nat → Nat} {s : SS} {w : World} (hst : St Γ β s w) (ho : s.objs = [.cells start4 16 196 0 0]) :
    Calls Tryz.prog 305 (denL β [.str ⟨(text4 a b c d).toArray⟩ l1, .slc 0 12 4 4 l2 l3]).toArray w fun e w' => e = .returned (.bool true) ∧ Keep (blocks β 1) w w' ∧ ObjsAt β (cObjs4 a.toNat b.toNat c.toNat d.toNat) w' := by
  have hn : s.n = 1 := by show s.objs.length = 1; rw [ho]; rfl
  have hst3 := hst.later (Below.refl w.heap.size w) (P := Tryz.prog) (Q := retQ fun v w' => v = .bool true ∧ Keep (blocks β 1) w w' ∧ ObjsAt β (cObjs4 a.toNat b.toNat c.toNat d.toNat) w')
  rw [hn, ho] at hst3
  refine (funS (hk := hk305 ⟨(text4 a b c d).toArray⟩) (n := 500) (args := [.str ⟨(text4 a b c d).toArray⟩ false, .slc 0 12 4 4 true true]) hst3 ⟨trivial, by simp [SV.ok, SS.n], trivial⟩ ?_).mono ?_
  · refine holds_eq (t305 ⟨(text4 a b c d).toArray⟩ w (blocks β 1)) ?_
    have hTl : (text4 a b c d).length < 1000 := by
      have l0 := dec_len a.toNat
      have l1 := dec_len b.toNat
      have l2 := dec_len c.toNat
      have l3 := dec_len d.toNat
      simp only [text4, List.length_append, List.length_cons, List.length_nil]
      omega
    refine loopTK (w := w) (bs := blocks β 1) ⟨rfl, Keep.refl _ _, fun b hb => .inl hb⟩ rfl 1 rfl L305 (z4Svs ⟨(text4 a b c d).toArray⟩) (fun z => iObjs4 z.l) (fun z => (text4 a b c d).length - z.i)
      (fun _ z _ => Inv4 (text4 a b c d) [a, b, c, d] z) (fun _ o _ => End4 [a, b, c, d] o) (fun _ _ _ => False) (fun _ => noHk) 1000
      (by simp) (by simp [L305]) (by simp [L305]) (fun _ => ⟨trivial, by simp [SV.ok], trivial, trivial, trivial, trivial, trivial, trivial⟩) (fun _ => iObjs4_ok _) rfl rfl (by simp) (by simp)
      (fun _ => ⟨⟨trivial, by simp [SV.ok], trivial, trivial, trivial, trivial⟩, cObjs4_ok _ _ _ _⟩) (fun _ => ⟨trivial, cObjs4_ok _ _ _ _⟩) ?_ ?_ ?_ ?_
    · rintro β2 w2 z w3 g hk12 hI hk23 hk13 hblk
      exact round305 (text4 a b c d) [a, b, c, d] rfl hTl β2 w2 w3 z g hk23 hI
    · intro β2 w2 hst2 hk12
      refine ⟨⟨0, 0, 0, 0, _⟩, rfl, start_ints hst2 rfl, rfl, ?_, rfl, rfl, [], [], a, [b, c, d], rfl, ?_, rfl, Nat.zero_le _, rfl, rfl, fun j hj => absurd hj (Nat.not_lt_zero j)⟩
      · intro j hj
        match j, hj with
        | 0, _ | 1, _ | 2, _ | 3, _ | 4, _ | 5, _ | 6, _ | 7, _ | 8, _ | 9, _ => rfl
        | n + 10, h => omega
      · rw [← jd4, jd_cons]; rfl
    · rintro w2 o w3 ⟨hq, hv⟩ hk12 hk13 g bs' hbs'
      refine splitT (fun h => Bool.noConfusion h) (fun _ => ?_)
      have q0 := hq 0 (by omega)
      have q1 := hq 1 (by omega)
      have q2 := hq 2 (by omega)
      have q3 : IntKind.u8.wrap (o.val : Int) = (d.toNat : Int) := by rw [hv]; exact u8_wrap d.toNat_lt
      dsimp only
      rw [q3, q0, q1, q2]
      refine leafK ⟨rfl, hk13, fun b hb => (hbs' b hb).1⟩ fun β' w6 hst6 hk6 => ⟨_, rfl, rfl, hk6, ?_⟩
      exact hst6.objsAt rfl (cObjs4_ok _ _ _ _).2
    · rintro w2 o w3 h
      exact h.elim
  · rintro e w' ⟨v, rfl, rfl, hk, hat⟩
    exact ⟨rfl, hk, hat⟩

end Go.Proofs.YtdmnoagahjbjhaaGreatDoor
end

section
/- ZZParseAddr, zzParseIP: the trees. -/
set_option linter.unusedVariables false
set_option linter.unusedSimpArgs false
set_option maxRecDepth 20000
namespace Go.Proofs.YtdmnoagahjbjhaaGreatDoor
open Go Go.Rx Go.RowKit
structure QV where
  is4 : Bool
  q : Nat → Int
@[reducible] def zObjs : List SObj := [.cells zer16 16 196 0 0]
@[reducible] def qObjs (q : Nat → Int) : List SObj := [.cells (sixteen q) 16 196 0 0]
@[reducible] def fHook : Hook := { X := Nat → Int, out := fun _ s q => (.bool true true, cObjs4 (q 0) (q 1) (q 2) (q 3)) }
@[reducible] def pHook : Hook := { X := Nat → Int, out := fun _ s q => (.tup [.agg (sixteen q), .bool true true], s.objs) }
@[reducible] def aHook : Hook := { X := QV, out := fun _ s z => (.tup [.agg (sixteen z.q), .bool z.is4 false, .bool true true], s.objs) }
def L246 : SE → List Nat
  | .normal => [0, 2, 3, 4, 5]
  | .ret => [2, 3, 4]
  | _ => []
def L246k : SE → List Nat
  | .normal => [0, 2, 3, 4, 5, 6]
  | .exit _ => [0, 2, 3, 4, 5]
  | _ => []
@[reducible] def a6Svs (s : ByteArray) (i : Nat) : List SV := [.str s false, .ptr 0 0, .bool false true, .bool false true, .int .i64 i false]
@[reducible] def k6Svs (s : ByteArray) (i k : Nat) : List SV := [.str s false, .ptr 0 0, .bool false true, .bool false true, .int .i64 i false, .int .i64 k false]
def lh246 : LoopHook := mkHookT 50 QV .ret [2, 3, 4] (fun z => [.ptr 0 0, .bool z.is4 false, .bool true true]) (fun z => qObjs z.q) Unit (.exit 0) [] (fun _ => []) (fun _ => zObjs)
def lh246k (s : ByteArray) (i : Nat) : LoopHook := mkHookT 50 Unit (.exit 3) [0, 2, 3, 4, 5] (fun _ => a6Svs s i) (fun _ => zObjs) Unit .ret [] (fun _ => []) (fun _ => zObjs)
def hk246 : Hooks := { calls := fun _ => none, loops := fun _ _ => some lh246 }
def hk246r (s : ByteArray) (i : Nat) : Hooks := { calls := fun f => if f = 305 then some fHook else if f = 306 then some pHook else none, loops := fun _ _ => some (lh246k s i) }
def hk210 : Hooks := { calls := fun f => if f = 246 then some aHook else none, loops := fun _ _ => none }
set_option maxRecDepth 100000 in
theorem r246 (s : ByteArray) (i : Nat) (w : World) (bs : List Nat) (g : Nat → Value) : xCode Tryz.prog (hk246r s i) 1000 246 (loopOf Tryz.prog 246 3) (mkFrame ((L246 .normal).zip (a6Svs s i)) g 50 0) (fun e a s => .leaf e (sel L246 e a) s) (SS.mk zObjs [] true w bs) =
  (.split (decide ((↑i : Int) < (↑s.size : Int)))
   (.need ((0 : Int) ≤ (↑i : Int) ∧ (↑i : Int) < (↑s.size : Int))
   (.split ((↑(s.data.toList.getD (↑i : Int).toNat (0 : UInt8)).toNat : Int) == (46 : Int))
    (.hc 305 [(.str s false), (.slc 0 12 4 4 true true)] (SS.mk [(.cells [(.int .u8 0 true), (.int .u8 0 true), (.int .u8 0 true), (.int .u8 0 true), (.int .u8 0 true), (.int .u8 0 true), (.int .u8 0 true), (.int .u8 0 true), (.int .u8 0 true), (.int .u8 0 true), (.int .u8 255 true), (.int .u8 255 true), (.int .u8 0 true), (.int .u8 0 true), (.int .u8 0 true), (.int .u8 0 true)] 16 196 0 0)] [] true w bs) (fHook) fun x0 w0 b0 =>
    (.leaf .ret [(.ptr 0 0), (.bool true true), (.bool true true)] (SS.mk [(.cells [(.int .u8 0 true), (.int .u8 0 true), (.int .u8 0 true), (.int .u8 0 true), (.int .u8 0 true), (.int .u8 0 true), (.int .u8 0 true), (.int .u8 0 true), (.int .u8 0 true), (.int .u8 0 true), (.int .u8 255 true), (.int .u8 255 true), (.int .u8 (x0 (0 : Nat)) false), (.int .u8 (x0 (1 : Nat)) false), (.int .u8 (x0 (2 : Nat)) false), (.int .u8 (x0 (3 : Nat)) false)] 16 196 0 0)] [] true w0 b0)))
    (.split ((↑(s.data.toList.getD (↑i : Int).toNat (0 : UInt8)).toNat : Int) == (58 : Int))
     (.loop 246 (loopOf Tryz.prog 246 12) [(.str s false), (.raw (g (1 : Nat))), (.ptr 0 0), (.bool false true), (.bool false true), (.int .i64 ((↑i : Int)) false), (.int .i64 ((↑i : Int)) false), (.int .i64 ((↑i : Int)) false), (.str s false), (.int .i64 ((↑s.size : Int)) false), (.bool true true), (.raw (g (11 : Nat))), (.raw (g (12 : Nat))), (.str s false), (.int .i64 ((↑i : Int)) false), (.int .u8 ((↑(s.data.toList.getD (↑i : Int).toNat (0 : UInt8)).toNat : Int)) false), (.bool false true), (.bool ((↑(s.data.toList.getD (↑i : Int).toNat (0 : UInt8)).toNat : Int) == (46 : Int)) false), (.raw (g (18 : Nat))), (.raw (g (19 : Nat))), (.raw (g (20 : Nat))), (.raw (g (21 : Nat))), (.raw (g (22 : Nat))), (.raw (g (23 : Nat))), (.raw (g (24 : Nat))), (.bool true true), (.bool ((↑(s.data.toList.getD (↑i : Int).toNat (0 : UInt8)).toNat : Int) == (58 : Int)) false), (.int .i64 ((↑i : Int)) false), (.raw (g (28 : Nat))), (.raw (g (29 : Nat))), (.raw (g (30 : Nat))), (.raw (g (31 : Nat))), (.raw (g (32 : Nat))), (.raw (g (33 : Nat))), (.raw (g (34 : Nat))), (.raw (g (35 : Nat))), (.raw (g (36 : Nat))), (.raw (g (37 : Nat))), (.raw (g (38 : Nat))), (.raw (g (39 : Nat))), (.raw (g (40 : Nat))), (.raw (g (41 : Nat))), (.raw (g (42 : Nat))), (.raw (g (43 : Nat))), (.raw (g (44 : Nat))), (.raw (g (45 : Nat))), (.raw (g (46 : Nat))), (.raw (g (47 : Nat))), (.raw (g (48 : Nat))), (.raw (g (49 : Nat)))] (SS.mk [(.cells zer16 16 196 0 0)] [] true w bs) (LoopHook.X (lh246k s i)) (LoopHook.out (lh246k s i) [(.str s false), (.raw (g (1 : Nat))), (.ptr 0 0), (.bool false true), (.bool false true), (.int .i64 ((↑i : Int)) false), (.int .i64 ((↑i : Int)) false), (.int .i64 ((↑i : Int)) false), (.str s false), (.int .i64 ((↑s.size : Int)) false), (.bool true true), (.raw (g (11 : Nat))), (.raw (g (12 : Nat))), (.str s false), (.int .i64 ((↑i : Int)) false), (.int .u8 ((↑(s.data.toList.getD (↑i : Int).toNat (0 : UInt8)).toNat : Int)) false), (.bool false true), (.bool ((↑(s.data.toList.getD (↑i : Int).toNat (0 : UInt8)).toNat : Int) == (46 : Int)) false), (.raw (g (18 : Nat))), (.raw (g (19 : Nat))), (.raw (g (20 : Nat))), (.raw (g (21 : Nat))), (.raw (g (22 : Nat))), (.raw (g (23 : Nat))), (.raw (g (24 : Nat))), (.bool true true), (.bool ((↑(s.data.toList.getD (↑i : Int).toNat (0 : UInt8)).toNat : Int) == (58 : Int)) false), (.int .i64 ((↑i : Int)) false), (.raw (g (28 : Nat))), (.raw (g (29 : Nat))), (.raw (g (30 : Nat))), (.raw (g (31 : Nat))), (.raw (g (32 : Nat))), (.raw (g (33 : Nat))), (.raw (g (34 : Nat))), (.raw (g (35 : Nat))), (.raw (g (36 : Nat))), (.raw (g (37 : Nat))), (.raw (g (38 : Nat))), (.raw (g (39 : Nat))), (.raw (g (40 : Nat))), (.raw (g (41 : Nat))), (.raw (g (42 : Nat))), (.raw (g (43 : Nat))), (.raw (g (44 : Nat))), (.raw (g (45 : Nat))), (.raw (g (46 : Nat))), (.raw (g (47 : Nat))), (.raw (g (48 : Nat))), (.raw (g (49 : Nat)))] (SS.mk [(.cells zer16 16 196 0 0)] [] true w bs)) (fun x0 w0 b0 =>
      (.hc 306 [(.str s false)] (SS.mk [(.cells zer16 16 196 0 0)] [] true w0 b0) (pHook) fun x1 w1 b1 =>
      (.leaf .ret [(.ptr 0 0), (.bool false true), (.bool true true)] (SS.mk [(.cells (sixteen x1) 16 196 0 0)] [] true w1 b1))))
     (LoopHook.Y (lh246k s i)) (LoopHook.out' (lh246k s i) [(.str s false), (.raw (g (1 : Nat))), (.ptr 0 0), (.bool false true), (.bool false true), (.int .i64 ((↑i : Int)) false), (.int .i64 ((↑i : Int)) false), (.int .i64 ((↑i : Int)) false), (.str s false), (.int .i64 ((↑s.size : Int)) false), (.bool true true), (.raw (g (11 : Nat))), (.raw (g (12 : Nat))), (.str s false), (.int .i64 ((↑i : Int)) false), (.int .u8 ((↑(s.data.toList.getD (↑i : Int).toNat (0 : UInt8)).toNat : Int)) false), (.bool false true), (.bool ((↑(s.data.toList.getD (↑i : Int).toNat (0 : UInt8)).toNat : Int) == (46 : Int)) false), (.raw (g (18 : Nat))), (.raw (g (19 : Nat))), (.raw (g (20 : Nat))), (.raw (g (21 : Nat))), (.raw (g (22 : Nat))), (.raw (g (23 : Nat))), (.raw (g (24 : Nat))), (.bool true true), (.bool ((↑(s.data.toList.getD (↑i : Int).toNat (0 : UInt8)).toNat : Int) == (58 : Int)) false), (.int .i64 ((↑i : Int)) false), (.raw (g (28 : Nat))), (.raw (g (29 : Nat))), (.raw (g (30 : Nat))), (.raw (g (31 : Nat))), (.raw (g (32 : Nat))), (.raw (g (33 : Nat))), (.raw (g (34 : Nat))), (.raw (g (35 : Nat))), (.raw (g (36 : Nat))), (.raw (g (37 : Nat))), (.raw (g (38 : Nat))), (.raw (g (39 : Nat))), (.raw (g (40 : Nat))), (.raw (g (41 : Nat))), (.raw (g (42 : Nat))), (.raw (g (43 : Nat))), (.raw (g (44 : Nat))), (.raw (g (45 : Nat))), (.raw (g (46 : Nat))), (.raw (g (47 : Nat))), (.raw (g (48 : Nat))), (.raw (g (49 : Nat)))] (SS.mk [(.cells zer16 16 196 0 0)] [] true w bs)) (fun x0 w0 b0 =>
      (.leaf .ret [(.raw (x0.snd (2 : Nat))), (.raw (x0.snd (3 : Nat))), (.raw (x0.snd (4 : Nat)))] (SS.mk [(.cells zer16 16 196 0 0)] [] true w0 b0))))
     (.split ((↑(s.data.toList.getD (↑i : Int).toNat (0 : UInt8)).toNat : Int) == (37 : Int))
      (.leaf .ret [(.ptr 0 0), (.bool false true), (.bool false true)] (SS.mk [(.cells zer16 16 196 0 0)] [] true w bs))
      (.leaf .normal [(.str s false), (.ptr 0 0), (.bool false true), (.bool false true), (.int .i64 (IntKind.i64.wrap ((↑i : Int) + (1 : Int))) false)] (SS.mk [(.cells zer16 16 196 0 0)] [] true w bs))))))
   (.leaf (.exit 0) [] (SS.mk [(.cells zer16 16 196 0 0)] [] true w bs))) := by kernel_rfl
set_option maxRecDepth 100000 in
theorem r246k (s : ByteArray) (i k : Nat) (w : World) (bs : List Nat) (g : Nat → Value) : xCode Tryz.prog (hk246r s i) 1000 246 (loopOf Tryz.prog 246 12) (mkFrame ((L246k .normal).zip (k6Svs s i k)) g 50 0) (fun e a s => .leaf e (sel L246k e a) s) (SS.mk zObjs [] true w bs) =
  (.split (decide ((↑k : Int) < (↑s.size : Int)))
   (.need ((0 : Int) ≤ (↑k : Int) ∧ (↑k : Int) < (↑s.size : Int))
   (.split ((↑(s.data.toList.getD (↑k : Int).toNat (0 : UInt8)).toNat : Int) == (37 : Int))
    (.leaf .ret [] (SS.mk [(.cells zer16 16 196 0 0)] [] true w bs))
    (.leaf .normal [(.str s false), (.ptr 0 0), (.bool false true), (.bool false true), (.int .i64 ((↑i : Int)) false), (.int .i64 (IntKind.i64.wrap ((↑k : Int) + (1 : Int))) false)] (SS.mk [(.cells zer16 16 196 0 0)] [] true w bs))))
   (.leaf (.exit 3) [(.str s false), (.ptr 0 0), (.bool false true), (.bool false true), (.int .i64 ((↑i : Int)) false)] (SS.mk [(.cells zer16 16 196 0 0)] [] true w bs))) := by kernel_rfl
set_option maxRecDepth 100000 in
theorem t246 (s : ByteArray) (w : World) : xFunc Tryz.prog hk246 500 246 [.str s false] (SS.mk [] [] true w []) =
  (.loop 246 (loopOf Tryz.prog 246 3) ([(.str s false), (.tup []), (.ptr 0 0), (.bool false true), (.bool false true), (.int .i64 0 true)] ++ List.replicate 44 undefS) (SS.mk [(.cells zer16 16 196 0 0)] [] true w []) (LoopHook.X (lh246)) (LoopHook.out (lh246) ([(.str s false), (.tup []), (.ptr 0 0), (.bool false true), (.bool false true), (.int .i64 0 true)] ++ List.replicate 44 undefS) (SS.mk [(.cells zer16 16 196 0 0)] [] true w [])) (fun x0 w0 b0 =>
   (.leaf .ret [(.tup [(.agg (sixteen x0.fst.q)), (.bool x0.fst.is4 false), (.bool true true)])] (SS.mk [(.cells (sixteen x0.fst.q) 16 196 0 0)] [] true w0 b0)))
  (LoopHook.Y (lh246)) (LoopHook.out' (lh246) ([(.str s false), (.tup []), (.ptr 0 0), (.bool false true), (.bool false true), (.int .i64 0 true)] ++ List.replicate 44 undefS) (SS.mk [(.cells zer16 16 196 0 0)] [] true w [])) (fun x0 w0 b0 =>
   (.bad "load: no address"))) := by kernel_rfl
set_option maxRecDepth 100000 in
theorem t210 (s : ByteArray) (w : World) : xFunc Tryz.prog hk210 500 210 [.str s false] (SS.mk [] [] true w []) =
  (.hc 246 [(.str s false)] (SS.mk [] [] true w []) (aHook) fun x0 w0 b0 =>
  (.leaf .ret [(.slc 0 0 16 16 true true)] (SS.mk [(.cells (sixteen x0.q) 16 196 0 0)] [] true w0 b0))) := by kernel_rfl

end Go.Proofs.YtdmnoagahjbjhaaGreatDoor
end

section
/- ZZParseAddr, joined. -/
set_option linter.unusedVariables false
set_option linter.unusedSimpArgs false
set_option maxRecDepth 20000
namespace Go.Proofs.YtdmnoagahjbjhaaGreatDoor
open Go Go.Rx Go.RowKit

def qd (a b c d : UInt8) (j : Nat) : Int := ([(a.toNat : Int), b.toNat, c.toNat, d.toNat] : List Int).getD j 0
def q4 (a b c d : UInt8) (j : Nat) : Int := ([0, 0, 0, 0, 0, 0, 0, 0, 0, 0, 255, 255, (a.toNat : Int), b.toNat, c.toNat, d.toNat] : List Int).getD j 0

/-- What ZZParseAddr is asked of here. -/
def Asked (T : List UInt8) (m : Nat) (Res : QV → Prop) : Prop :=
  T.length < 2 ^ 40 ∧ m < T.length ∧ (∀ j, j < m → T.getD j 0 ≠ 46 ∧ T.getD j 0 ≠ 58 ∧ T.getD j 0 ≠ 37) ∧
    ((T.getD m 0 = 46 ∧ ∃ a b c d, T = text4 a b c d ∧ Res ⟨true, q4 a b c d⟩) ∨
     (T.getD m 0 = 58 ∧ (∀ j, j < T.length → T.getD j 0 ≠ 37) ∧ ∃ P Q, T = jn P ++ tlText Q ∧ (∀ g ∈ P ++ Q.getD [], g < 65536) ∧ ((Q = none ∧ P.length = 8) ∨ (∃ B, Q = some B ∧ P.length + B.length ≤ 7)) ∧ ∀ q : Nat → Int, (∀ j, j < 16 → q j = (full6 P Q).getD j 0) → Res ⟨false, q⟩))

theorem zObjs_ok : zObjs.length = 1 ∧ ∀ o ∈ zObjs, o.ok 1 := ⟨rfl, fun o ho => by
  simp only [zObjs, List.mem_singleton] at ho
  subst ho
  exact zer_ok 1⟩

theorem qObjs_ok (q : Nat → Int) : (qObjs q).length = 1 ∧ ∀ o ∈ qObjs q, o.ok 1 := ⟨rfl, fun o ho => by
  simp only [qObjs, List.mem_singleton] at ho
  subst ho
  exact sixteen_ok 1 q⟩

theorem u8_eq {x y : UInt8} (h : ((x.toNat : Int) == (y.toNat : Int)) = true) : x = y := UInt8.toNat_inj.1 (by have := eq_of_beq h; omega)

theorem c_q {β : Nat → Nat} {w : World} {a b c d : UInt8} (h : ObjsAt β (cObjs4 (qd a b c d 0) (qd a b c d 1) (qd a b c d 2) (qd a b c d 3)) w) : ObjsAt β (qObjs (q4 a b c d)) w := by
  intro i o hi
  match i, hi with
  | 0, hi =>
    have := h 0 _ rfl
    simp only [qObjs, List.getElem?_cons_zero, Option.some.injEq] at hi
    subst hi
    exact this
  | i + 1, hi => simp [qObjs] at hi

theorem round246 (T : List UInt8) (m : Nat) (Res : QV → Prop) (hA : Asked T m Res) (β : Nat → Nat) (w0 w1 : World) (i : Nat) (g : Nat → Value) (hk01 : Keep (blocks β 1) w0 w1) (hI : i ≤ m) :
    (xCode Tryz.prog (hk246r ⟨T.toArray⟩ i) 1000 246 (loopOf Tryz.prog 246 3) (mkFrame ((L246 .normal).zip (a6Svs ⟨T.toArray⟩ i)) g 50 0) (fun e a s => .leaf e (sel L246 e a) s) (SS.mk zObjs [] true w1 (blocks β 1))).holds
      { P := Tryz.prog, β0 := β, n0 := 1, Q := rQT β (blocks β 1) (a6Svs ⟨T.toArray⟩) (fun _ => zObjs) (fun i => T.length - i) (fun i _ => i ≤ m) .ret (fun z : QV => [.ptr 0 0, .bool z.is4 false, .bool true true]) (fun z => qObjs z.q) (fun z _ => Res z) (.exit 0) (fun _ : Unit => []) (fun _ => zObjs) (fun _ _ => False) w0 i } := by
  obtain ⟨hlen, hm, hbef, hat⟩ := hA
  have hsz : (⟨T.toArray⟩ : ByteArray).size = T.length := bsize _
  have hget : ∀ j, ((⟨T.toArray⟩ : ByteArray).data.toList.getD j 0) = T.getD j 0 := fun j => rfl
  refine holds_eq (r246 ⟨T.toArray⟩ i w1 (blocks β 1) g) ?_
  simp only [Int.toNat_natCast, hget, hsz]
  refine splitD (fun _ => ?_) (fun h => absurd (show (i : Int) < T.length by omega) h)
  refine needT (by omega) (splitT (fun h46 => ?_) (fun h46 => splitT (fun h58 => ?_) (fun h58 => splitT (fun h37 => ?_) (fun h37 => ?_))))
  · have hx : T.getD i 0 = 46 := u8_eq h46
    have him : i = m := by
      rcases Nat.lt_or_ge i m with h | h
      · exact absurd hx (hbef i h).1
      · omega
    subst him
    rcases hat with ⟨_, a, b, c, d, hT, hR⟩ | ⟨h, _⟩
    · refine callMK (w := w1) (bs := blocks β 1) (R := fun q _ _ => q = qd a b c d) ⟨rfl, Keep.refl _ _, fun b hb => .inl hb⟩ rfl (fun x => ⟨rfl, (cObjs4_ok _ _ _ _).2, trivial⟩) (fun β' wc hst hkc => ?_) ?_
      · rw [hT]
        refine (fields4_c a b c d false true true hst rfl).mono ?_
        rintro e w' ⟨rfl, hk, hat⟩
        exact ⟨qd a b c d, rfl, hk, hat, rfl⟩
      · rintro q wc w3 bs3 rfl hk13 hbs3
        refine leafK ⟨rfl, hk01.trans hk13, fun b hb => (hbs3 b hb).imp id (Nat.le_trans hk01.size)⟩ fun β' w' hst hk' => ⟨.inl ⟨⟨true, q4 a b c d⟩, rfl, ?_, c_q (hst.objsAt rfl (cObjs4_ok _ _ _ _).2), hR⟩, hk'⟩
        have hb0 := hst.base 0 (by show 0 < 1; omega)
        simp only [denL, SV.den]
        rw [hb0]
    · rw [hx] at h
      exact absurd h (by decide)
  · have hx : T.getD i 0 = 58 := u8_eq h58
    have him : i = m := by
      rcases Nat.lt_or_ge i m with h | h
      · exact absurd hx (hbef i h).2.1
      · omega
    subst him
    rcases hat with ⟨h, _⟩ | ⟨_, hno, P, Q, hT, hg, hQ, hR⟩
    · rw [hx] at h
      exact absurd h (by decide)
    · refine loopTK (w := w1) (bs := blocks β 1) ⟨rfl, Keep.refl _ _, fun b hb => .inl hb⟩ rfl 1 rfl L246k (k6Svs ⟨T.toArray⟩ i) (fun _ => zObjs) (fun k => T.length - k)
        (fun _ k _ => k ≤ T.length) (fun _ _ _ => True) (fun _ _ _ => False) (fun _ => hk246r ⟨T.toArray⟩ i) 1000
        (by simp) (by simp [L246k]) (by simp [L246k]) (fun _ => ⟨trivial, by simp [SV.ok], trivial, trivial, trivial, trivial, trivial⟩) (fun _ => zObjs_ok) rfl rfl (by simp) (by simp)
        (fun _ => ⟨⟨trivial, by simp [SV.ok], trivial, trivial, trivial, trivial⟩, zObjs_ok⟩) (fun _ => ⟨trivial, zObjs_ok⟩) ?_ ?_ ?_ ?_
      · rintro β2 w2 k w3 g2 hk12 hk hk23 hk13 hblk
        refine holds_eq (r246k ⟨T.toArray⟩ i k w3 (blocks β2 1) g2) ?_
        simp only [Int.toNat_natCast, hget, hsz]
        refine splitD (fun hlt => needT (by omega) (splitT (fun h37 => ?_) (fun _ => ?_))) (fun _ => ?_)
        · exact absurd (u8_eq (y := 37) h37) (hno k (by omega))
        · refine leafK ⟨rfl, hk23, fun b hb => .inl hb⟩ fun β' w' hst hk' => ⟨k + 1, by show T.length - (k + 1) < T.length - k; omega, ?_, hst.objsAt rfl zObjs_ok.2, by show k + 1 ≤ T.length; omega, hk'⟩
          have hb0 := hst.base 0 (by show 0 < 1; omega)
          rw [show IntKind.i64.wrap ((k : Int) + 1) = ((k + 1 : Nat) : Int) by rw [wrapi (by omega) (by omega)]; omega]
          simp only [k6Svs, denL, SV.den]
          rw [hb0]
        · refine leafK ⟨rfl, hk23, fun b hb => .inl hb⟩ fun β' w' hst hk' => ⟨.inl ⟨(), rfl, ?_, hst.objsAt rfl zObjs_ok.2, trivial⟩, hk'⟩
          have hb0 := hst.base 0 (by show 0 < 1; omega)
          simp only [a6Svs, denL, SV.den]
          rw [hb0]
      · intro β2 w2 hst hk12
        exact ⟨i, rfl, fun i o hi => hst.at_ i o hi, by omega⟩
      · rintro w2 _ w3 _ hk12 hk13 g2 bs3 hbs3
        refine callK (w := w1) (bs := blocks β 1) (R := fun q _ _ => ∀ j, j < 16 → q j = (full6 P Q).getD j 0) ⟨rfl, hk13, fun b hb => (hbs3 b hb).1⟩ (fun q => ⟨rfl, ⟨sixteen_ok _ _, trivial, trivial⟩⟩) (fun β' wc hst ho hb => ?_) ?_
        · rw [hT]
          refine (parse6_c P Q wc hg hQ).mono ?_
          rintro e w' ⟨v, rfl, ⟨q, hq, rfl⟩, hb'⟩
          exact ⟨q, rfl, hb', hq⟩
        · rintro q wc w4 bs4 hkc hq hbc hk14 hbs4
          refine leafK ⟨rfl, hk01.trans hk14, fun b hb => (hbs4 b hb).imp id (Nat.le_trans hk01.size)⟩ fun β' w' hst hk' => ⟨.inl ⟨⟨false, q⟩, rfl, ?_, hst.objsAt rfl (qObjs_ok q).2, hR q hq⟩, hk'⟩
          have hb0 := hst.base 0 (by show 0 < 1; omega)
          simp only [denL, SV.den]
          rw [hb0]
      · rintro w2 _ w3 h
        exact h.elim
  · have hx : T.getD i 0 = 37 := u8_eq h37
    rcases Nat.lt_or_ge i m with h | h
    · exact absurd hx (hbef i h).2.2
    · have him : i = m := by omega
      subst him
      rcases hat with ⟨h, _⟩ | ⟨h, _⟩
      · rw [hx] at h; exact absurd h (by decide)
      · rw [hx] at h; exact absurd h (by decide)
  · have him : i < m := by
      rcases Nat.lt_or_ge i m with h | h
      · exact h
      · have him : i = m := by omega
        subst him
        rcases hat with ⟨h, _⟩ | ⟨h, _⟩
        · rw [h] at h46; exact absurd h46 (by decide)
        · rw [h] at h58; exact absurd h58 (by decide)
    refine leafK ⟨rfl, hk01, fun b hb => .inl hb⟩ fun β' w' hst hk' => ⟨i + 1, by show T.length - (i + 1) < T.length - i; omega, ?_, hst.objsAt rfl zObjs_ok.2, by show i + 1 ≤ m; omega, hk'⟩
    have hb0 := hst.base 0 (by show 0 < 1; omega)
    rw [show IntKind.i64.wrap ((i : Int) + 1) = ((i + 1 : Nat) : Int) by rw [wrapi (by omega) (by omega)]; omega]
    simp only [a6Svs, denL, SV.den]
    rw [hb0]

theorem parseAddr_c (T : List UInt8) (m : Nat) (Res : QV → Prop) (hA : Asked T m Res) (w : World) :
    Calls Tryz.prog 246 #[.string ⟨T.toArray⟩] w (Ret (fun v _ => ∃ z : QV, Res z ∧ v = SV.den id (.tup [.agg (sixteen z.q), .bool z.is4 false, .bool true true])) w) := by
  refine funF (hk := hk246) (n := 500) (args := [.str ⟨T.toArray⟩ false]) ⟨trivial, trivial⟩ ?_
  refine holds_eq (t246 ⟨T.toArray⟩ w) ?_
  refine loopT (w := w) (Fine.start w _) rfl 1 rfl L246 (a6Svs ⟨T.toArray⟩) (fun _ => zObjs) (fun i => T.length - i) (fun _ i _ => i ≤ m) (fun _ z _ => Res z) (fun _ _ _ => False) (fun i => hk246r ⟨T.toArray⟩ i) 1000
    (by simp) (by simp [L246]) (by simp [L246]) (fun _ => ⟨trivial, by simp [SV.ok], trivial, trivial, trivial, trivial⟩) (fun _ => zObjs_ok) rfl rfl (by simp) (by simp) (fun _ => ⟨⟨by simp [SV.ok], trivial, trivial, trivial⟩, qObjs_ok _⟩) (fun _ => ⟨trivial, zObjs_ok⟩) ?_ ?_ ?_ ?_
  · rintro β w0 i w1 g hb0 hI hkp hge
    exact round246 T m Res hA β w0 w1 i g hkp hI
  · intro β w0 hst hb
    exact ⟨0, rfl, fun i o hi => hst.at_ i o hi, Nat.zero_le _⟩
  · rintro w0 z w' hR hb0 hb1 g bs hbs
    exact retF (Fine.mk' hb1 hbs) fun β w' _ _ => ⟨z, hR, rfl⟩
  · rintro w0 z w' h
    exact h.elim

end Go.Proofs.YtdmnoagahjbjhaaGreatDoor
end

section
/- The text of an address is read back: plain law; zzParseIP. -/
set_option linter.unusedVariables false
set_option linter.unusedSimpArgs false
set_option maxRecDepth 20000
namespace Go.Proofs.YtdmnoagahjbjhaaGreatDoor
open Go Go.Rx Go.RowKit

theorem by2_seg (l : List UInt8) (a : Nat) : ∀ (n j : Nat), j < 2 * n → (by2 (seg l a (a + n))).getD j 0 = ((l.getD (2 * a + j) 0).toNat : Int)
  | 0, j, h => by omega
  | n + 1, j, h => by
    have hs : seg l a (a + (n + 1)) = seg l a (a + n) ++ [grpAt l (a + n)] := seg_snoc l (Nat.le_add_right a n)
    have hl : (by2 (seg l a (a + n))).length = 2 * n := by rw [by2_len]; simp [seg]
    rw [hs, by2_snoc]
    have h1 := (l.getD (2 * (a + n)) 0).toNat_lt
    have h2 := (l.getD (2 * (a + n) + 1) 0).toNat_lt
    rcases Nat.lt_or_ge j (2 * n) with hj | hj
    · rw [← by2_seg l a n j hj, List.getD_eq_getElem?_getD, List.getD_eq_getElem?_getD, List.getElem?_append_left (by omega)]
    · rw [List.getD_eq_getElem?_getD, List.getElem?_append_right (by omega), hl]
      rcases (show j = 2 * n ∨ j = 2 * n + 1 by omega) with rfl | rfl
      · rw [Nat.sub_self]
        simp only [List.getElem?_cons_zero, Option.getD_some, grpAt]
        rw [show 2 * a + 2 * n = 2 * (a + n) by omega]
        omega
      · rw [show 2 * n + 1 - 2 * n = 1 by omega]
        simp only [List.getElem?_cons_succ, List.getElem?_cons_zero, Option.getD_some, grpAt]
        rw [show 2 * a + (2 * n + 1) = 2 * (a + n) + 1 by omega]
        omega

theorem seg_len (l : List UInt8) (a b : Nat) : (seg l a b).length = b - a := by simp [seg]

theorem seg_lt (l : List UInt8) (a b : Nat) : ∀ g ∈ seg l a b, g < 65536 := by
  intro g hg
  simp only [seg, List.mem_map] at hg
  obtain ⟨j, _, rfl⟩ := hg
  exact grpAt_lt l j

def pOf (l : List UInt8) (f : Nat) : List Nat := if f = 255 then seg l 0 8 else seg l 0 f
def qOf (l : List UInt8) (f t : Nat) : Option (List Nat) := if f = 255 then none else some (seg l t 8)

theorem txt6_eq (l : List UInt8) (f t : Nat) : txt6 l f t = jn (pOf l f) ++ tlText (qOf l f t) := by
  unfold txt6 pOf qOf
  split
  · simp [tlText]
  · simp [tlText]

theorem pq_ok {l : List UInt8} {f t : Nat} (h : Good l f t) : (∀ g ∈ pOf l f ++ (qOf l f t).getD [], g < 65536) ∧ ((qOf l f t = none ∧ (pOf l f).length = 8) ∨ (∃ B, qOf l f t = some B ∧ (pOf l f).length + B.length ≤ 7)) := by
  constructor
  · intro g hg
    unfold pOf qOf at hg
    split at hg
    · simp only [Option.getD_none, List.append_nil] at hg
      exact seg_lt l 0 8 g hg
    · rcases List.mem_append.1 hg with hg | hg
      · exact seg_lt l 0 f g hg
      · exact seg_lt l t 8 g hg
  · unfold pOf qOf
    rcases h with ⟨rfl, rfl⟩ | ⟨h1, h2, _⟩
    · exact .inl ⟨rfl, seg_len l 0 8⟩
    · rw [if_neg (by omega), if_neg (by omega)]
      refine .inr ⟨_, rfl, ?_⟩
      rw [seg_len, seg_len]
      omega

theorem full_eq {l : List UInt8} {f t : Nat} (h : Good l f t) (j : Nat) (hj : j < 16) : (full6 (pOf l f) (qOf l f t)).getD j 0 = ((l.getD j 0).toNat : Int) := by
  unfold pOf qOf
  rcases h with ⟨rfl, rfl⟩ | ⟨h1, h2, h3⟩
  · have := by2_seg l 0 8 j (by omega)
    simpa [full6] using this
  · rw [if_neg (by omega), if_neg (by omega)]
    have lP : (by2 (seg l 0 f)).length = 2 * f := by rw [by2_len, seg_len]; omega
    simp only [full6, seg_len]
    rw [List.append_assoc, List.getD_eq_getElem?_getD]
    rcases Nat.lt_or_ge j (2 * f) with hjf | hjf
    · rw [List.getElem?_append_left (by omega), ← List.getD_eq_getElem?_getD]
      have := by2_seg l 0 f j hjf
      simpa using this
    · rw [List.getElem?_append_right (by omega), lP]
      rcases Nat.lt_or_ge j (2 * t) with hjt | hjt
      · rw [List.getElem?_append_left (by simp; omega), List.getElem?_replicate, if_pos (by omega)]
        have hz := h3 (j / 2) (by omega) (by omega)
        unfold grpAt at hz
        rcases (show j = 2 * (j / 2) ∨ j = 2 * (j / 2) + 1 by omega) with hh | hh
        · rw [← hh] at hz
          show (0 : Int) = _
          omega
        · rw [← hh] at hz
          show (0 : Int) = _
          omega
      · rw [List.getElem?_append_right (by simp; omega), ← List.getD_eq_getElem?_getD]
        have := by2_seg l t (8 - t) (j - 2 * t) (by omega)
        rw [show t + (8 - t) = 8 by omega, show 2 * t + (j - 2 * t) = j by omega] at this
        rw [← this]
        congr 1
        simp
        omega

theorem hexText_mem {g : Nat} {x : UInt8} (h : x ∈ hexText g) : x ≠ 46 ∧ x ≠ 58 ∧ x ≠ 37 := by
  rw [hexText_ds] at h
  obtain ⟨d, hd, rfl⟩ := List.mem_map.1 h
  have := hexd_ne d (hexDs_lt g d hd)
  exact ⟨this.2.1, this.1, this.2.2⟩

theorem jn_mem : ∀ (G : List Nat) {x : UInt8}, x ∈ jn G → x ≠ 37
  | [], x, h => by simp [jn] at h
  | [g], x, h => (hexText_mem (g := g) (by simpa [jn] using h)).2.2
  | g :: y :: r, x, h => by
    have e : jn (g :: y :: r) = hexText g ++ [58] ++ jn (y :: r) := by simp [jn]
    rw [e] at h
    rcases List.mem_append.1 h with h | h
    · rcases List.mem_append.1 h with h | h
      · exact (hexText_mem h).2.2
      · simp at h; subst h; decide
    · exact jn_mem (y :: r) h

theorem jn_len : ∀ (G : List Nat), (∀ g ∈ G, g < 65536) → (jn G).length ≤ 5 * G.length
  | [], _ => by simp [jn]
  | [g], h => by
    have := hexDs_len 3 g (by have := h g (by simp); omega)
    simp [jn, hexText_ds]
    omega
  | g :: y :: r, h => by
    have e : jn (g :: y :: r) = hexText g ++ [58] ++ jn (y :: r) := by simp [jn]
    have h1 := hexDs_len 3 g (by have := h g (by simp); omega)
    have h2 := jn_len (y :: r) fun x hx => h x (List.mem_cons_of_mem _ hx)
    rw [e, hexText_ds]
    simp only [List.length_append, List.length_cons, List.length_nil, List.length_map] at h2 ⊢
    omega

theorem mem_getD {T : List UInt8} {j : Nat} (hj : j < T.length) : T.getD j 0 ∈ T := by
  rw [List.getD_eq_getElem?_getD, List.getElem?_eq_getElem hj]
  exact List.getElem_mem hj

theorem asked6 {l : List UInt8} {f t : Nat} (h : Good l f t) : ∃ m, Asked (txt6 l f t) m (fun z => ∀ j, j < 16 → z.q j = ((l.getD j 0).toNat : Int)) := by
  obtain ⟨hg, hQ⟩ := pq_ok h
  have hfull := fun (q : Nat → Int) (hq : ∀ j, j < 16 → q j = (full6 (pOf l f) (qOf l f t)).getD j 0) (j : Nat) (hj : j < 16) => (hq j hj).trans (full_eq h j hj)
  rw [txt6_eq]
  generalize pOf l f = P at *
  generalize qOf l f t = Q at *
  have h37 : ∀ x ∈ jn P ++ tlText Q, x ≠ 37 := by
    intro x hx
    rcases List.mem_append.1 hx with hx | hx
    · exact jn_mem P hx
    · cases Q with
      | none => simp [tlText] at hx
      | some B =>
        simp only [tlText, List.mem_cons] at hx
        rcases hx with rfl | rfl | hx
        · decide
        · decide
        · exact jn_mem B hx
  have hlen : (jn P ++ tlText Q).length < 2 ^ 40 := by
    have h1 := jn_len P fun g hg' => hg g (List.mem_append_left _ hg')
    rcases hQ with ⟨h2, h3⟩ | ⟨B, h2, h3⟩
    · subst h2
      simp [tlText]
      omega
    · subst h2
      have h4 := jn_len B fun g hg' => hg g (List.mem_append_right _ hg')
      simp [tlText]
      omega
  have hno : ∀ j, j < (jn P ++ tlText Q).length → (jn P ++ tlText Q).getD j 0 ≠ 37 := fun j hj => h37 _ (mem_getD hj)
  cases P with
  | nil =>
    rcases hQ with ⟨_, h3⟩ | ⟨B, h2, h3⟩
    · simp at h3
    · subst h2
      refine ⟨0, hlen, by simp [tlText]; omega, fun j hj => absurd hj (Nat.not_lt_zero j), .inr ⟨rfl, hno, [], some B, rfl, hg, .inr ⟨B, rfl, h3⟩, hfull⟩⟩
  | cons g0 R =>
    obtain ⟨rest, hrest, hcase⟩ := split6 (g := g0) (R := R) (tl := Q)
    obtain ⟨r, hr⟩ : ∃ r, rest = 58 :: r := by
      rcases hcase with ⟨h1, h2, _⟩ | ⟨_, h2⟩ | ⟨B, _, _, h2⟩
      · subst h1 h2
        rcases hQ with ⟨_, h3⟩ | ⟨B, h3, _⟩
        · simp at h3
        · cases h3
      · exact ⟨_, h2⟩
      · exact ⟨_, h2⟩
    subst hr
    refine ⟨(hexText g0).length, hlen, by rw [hrest]; simp, fun j hj => ?_, .inr ⟨?_, hno, g0 :: R, Q, rfl, hg, hQ, hfull⟩⟩
    · rw [hrest, List.getD_eq_getElem?_getD, List.getElem?_append_left hj, ← List.getD_eq_getElem?_getD]
      exact hexText_mem (mem_getD hj)
    · rw [hrest, List.getD_eq_getElem?_getD, List.getElem?_append_right (Nat.le_refl _), Nat.sub_self]
      rfl

theorem asked4 (a b c d : UInt8) : ∃ m, Asked (text4 a b c d) m (fun z => ∀ j, j < 16 → z.q j = ((([0, 0, 0, 0, 0, 0, 0, 0, 0, 0, 255, 255, a, b, c, d] : List UInt8).getD j 0).toNat : Int)) := by
  obtain ⟨hp, _, hk⟩ := decFacts a.toNat a.toNat_lt
  have hT : text4 a b c d = dec a.toNat ++ 46 :: jd [b, c, d] := by rw [← jd4, jd_cons]; rfl
  have hTl : (text4 a b c d).length < 2 ^ 40 := by
    have l0 := dec_len a.toNat
    have l1 := dec_len b.toNat
    have l2 := dec_len c.toNat
    have l3 := dec_len d.toNat
    simp only [text4, List.length_append, List.length_cons, List.length_nil]
    omega
  refine ⟨(dec a.toNat).length, hTl, by rw [hT]; simp, fun j hj => ?_, .inl ⟨?_, a, b, c, d, rfl, fun j hj => ?_⟩⟩
  · obtain ⟨f1, f2, _⟩ := hk j hj
    rw [hT, List.getD_eq_getElem?_getD, List.getElem?_append_left hj, ← List.getD_eq_getElem?_getD]
    refine ⟨fun h => ?_, fun h => ?_, fun h => ?_⟩ <;> (rw [h] at f1 f2; simp at f1 f2)
  · rw [hT, List.getD_eq_getElem?_getD, List.getElem?_append_right (Nat.le_refl _), Nat.sub_self]
    rfl
  · match j, hj with
    | 0, _ | 1, _ | 2, _ | 3, _ | 4, _ | 5, _ | 6, _ | 7, _ | 8, _ | 9, _ | 10, _ | 11, _ | 12, _ | 13, _ | 14, _ | 15, _ => rfl
    | n + 16, h => omega

end Go.Proofs.YtdmnoagahjbjhaaGreatDoor
end

section
/- To16, ip4StB, ip6StB. -/
set_option linter.unusedVariables false
set_option linter.unusedSimpArgs false
set_option maxRecDepth 20000
namespace Go.Proofs.YtdmnoagahjbjhaaGreatDoor
open Go Go.Rx Go.RowKit
@[reducible] def a16Hook : Hook := { X := Addr, out := fun _ s a => (.xs (some a) 16 16, s.objs) }
def hk163 : Hooks := { calls := fun f => if f = 210 then some a16Hook else if f = 72 ∨ f = 76 then some uvHook else none, loops := fun _ _ => none }
set_option maxRecDepth 100000 in
theorem t76x (A : Option Addr) (n c : Nat) (w : World) : xFunc Tryz.prog noHk 500 76 [.xs A n c] (SS.mk [] [] true w []) =
  (.split ((↑n : Int) == (4 : Int))
   (.need ((0 : Int) ≤ (0 : Int) ∧ (0 : Int) < (↑n : Int))
   (.need (A.isSome = true)
   (.need (canRead w [] ((A.getD default).add (0 : Nat)) [SV.int IntKind.u8 (intAt w (((A.getD default).add (0 : Nat)).add (0 : Nat))) false])
   (.need ((0 : Int) ≤ (1 : Int) ∧ (1 : Int) < (↑n : Int))
   (.need (A.isSome = true)
   (.need (canRead w [] ((A.getD default).add (1 : Nat)) [SV.int IntKind.u8 (intAt w (((A.getD default).add (1 : Nat)).add (0 : Nat))) false])
   (.need ((0 : Int) ≤ (2 : Int) ∧ (2 : Int) < (↑n : Int))
   (.need (A.isSome = true)
   (.need (canRead w [] ((A.getD default).add (2 : Nat)) [SV.int IntKind.u8 (intAt w (((A.getD default).add (2 : Nat)).add (0 : Nat))) false])
   (.need ((0 : Int) ≤ (3 : Int) ∧ (3 : Int) < (↑n : Int))
   (.need (A.isSome = true)
   (.need (canRead w [] ((A.getD default).add (3 : Nat)) [SV.int IntKind.u8 (intAt w (((A.getD default).add (3 : Nat)).add (0 : Nat))) false])
   (.bad "load: no address")))))))))))))
   (.split ((↑n : Int) == (16 : Int))
    (.leaf .ret [(.xs A n c)] (SS.mk [] [] true w []))
    (.leaf .ret [(.one (.slice none 0 0) rfl)] (SS.mk [] [] true w [])))) := by kernel_rfl
set_option maxRecDepth 100000 in
theorem t163 (s : ByteArray) (w : World) : xFunc Tryz.prog hk163 500 163 [.str s false] (SS.mk [] [] true w []) =
  (.hc 210 [(.str s false)] (SS.mk [] [] true w []) (a16Hook) fun x0 w0 b0 =>
  (.hc 72 [(.xs (some x0) 16 16)] (SS.mk [] [] true w0 b0) (uvHook) fun x1 w1 b1 =>
  (.split x1.A.isNone
   (.leaf .ret [(.tup [(.one (.slice none 0 0) rfl), (.ifc 130 (.ptr 0 0))])] (SS.mk [(.cells [(.str (ByteArray.mk #[102, 97, 105, 108, 101, 100, 32, 116, 111, 32, 112, 97, 114, 115, 101, 32, 105, 112, 52, 32, 97, 100, 100, 114, 58]) true)] 1 132 0 0)] [] true w1 b1))
   (.leaf .ret [(.tup [(.xs x1.A x1.k x1.c), (.one .nilIface rfl)])] (SS.mk [] [] true w1 b1))))) := by kernel_rfl
set_option maxRecDepth 100000 in
theorem t170 (s : ByteArray) (w : World) : xFunc Tryz.prog hk163 500 170 [.str s false] (SS.mk [] [] true w []) =
  (.hc 210 [(.str s false)] (SS.mk [] [] true w []) (a16Hook) fun x0 w0 b0 =>
  (.hc 76 [(.xs (some x0) 16 16)] (SS.mk [] [] true w0 b0) (uvHook) fun x1 w1 b1 =>
  (.split x1.A.isNone
   (.leaf .ret [(.tup [(.one (.slice none 0 0) rfl), (.ifc 130 (.ptr 0 0))])] (SS.mk [(.cells [(.str (ByteArray.mk #[102, 97, 105, 108, 101, 100, 32, 116, 111, 32, 112, 97, 114, 115, 101, 32, 105, 112, 54, 32, 97, 100, 100, 114, 58]) true)] 1 132 0 0)] [] true w1 b1))
   (.leaf .ret [(.tup [(.xs x1.A x1.k x1.c), (.one .nilIface rfl)])] (SS.mk [] [] true w1 b1))))) := by kernel_rfl

theorem to16_c (A : Option Addr) (n c : Nat) (w : World) (h4 : n ≠ 4) :
    Calls Tryz.prog 76 #[.slice A n c] w (Ret (fun v _ => (n = 16 ∧ v = .slice A n c) ∨ (n ≠ 16 ∧ v = .slice none 0 0)) w) := by
  refine funF (hk := noHk) (n := 500) (args := [.xs A n c]) ⟨trivial, trivial⟩ ?_
  refine holds_eq (t76x A n c w) (splitT (fun h => by have := eq_of_beq h; omega) (fun _ => splitT (fun h => ?_) (fun h => ?_)))
  · have h16 : n = 16 := by have := eq_of_beq h; omega
    exact retF (Fine.start w _) fun β w' _ _ => .inl ⟨h16, rfl⟩
  · have h16 : n ≠ 16 := fun he => by rw [he] at h; simp at h
    exact retF (Fine.start w _) fun β w' _ _ => .inr ⟨h16, rfl⟩

end Go.Proofs.YtdmnoagahjbjhaaGreatDoor
end

section
/- FnNetFromIP: the tree. -/
set_option linter.unusedVariables false
set_option linter.unusedSimpArgs false
set_option maxRecDepth 20000
namespace Go.Proofs.YtdmnoagahjbjhaaGreatDoor
open Go Go.Rx Go.RowKit
structure FV where
  A : Option Addr
  k : Nat
  c : Nat
  ok : Bool
@[reducible] def fipHook : Hook := { X := FV, out := fun _ s x => (.tup [.xs x.A x.k x.c, .bool x.ok false], s.objs) }
@[reducible] def bHook4 : Hook := { X := Bool, out := fun _ s b => (.bool b false, s.objs) }
def hk4 : Hooks := { calls := fun f => if f = 13 then some fipHook else if f = 9 ∨ f = 14 ∨ f = 12 then some bHook4 else none, loops := fun _ _ => none }
set_option maxRecDepth 100000 in
theorem t4 (A : Option Addr) (n c : Nat) (w : World) : xFunc Tryz.prog hk4 1000 4 [.xs A n c] (SS.mk [] [] true w []) =
  (.split (decide ((↑n : Int) > (2147483647 : Int)))
   (.leaf .ret [(.bool true true)] (SS.mk [] [] true w []))
   (.split (decide ((↑n : Int) > (40 : Int)))
    (.hc 9 [] (SS.mk [] [] true w []) (bHook4) fun x0 w0 b0 =>
    (.leaf .ret [(.bool x0 false)] (SS.mk [] [] true w0 b0)))
    (.hc 13 [(.xs A n c)] (SS.mk [] [] true w []) (fipHook) fun x0 w0 b0 =>
    (.split ((↑n : Int) == (4 : Int))
     (.hc 9 [] (SS.mk [] [] true w0 b0) (bHook4) fun x1 w1 b1 =>
     (.split x1
      (.split x0.ok
       (.hc 12 [(.xs x0.A x0.k x0.c), (.slc 0 0 1 1 true true)] (SS.mk [(.cells [(.int .i64 4 true), (.xs A n c)] 2 35 0 0)] [] true w1 b1) (bHook4) fun x2 w2 b2 =>
       (.leaf .ret [(.bool x2 false)] (SS.mk [(.cells [(.int .i64 4 true), (.xs A n c)] 2 35 0 0)] [] true w2 b2)))
       (.leaf .ret [(.bool false true)] (SS.mk [] [] true w1 b1)))
      (.leaf .ret [(.bool false true)] (SS.mk [] [] true w1 b1))))
     (.hc 14 [(.xs A n c)] (SS.mk [] [] true w0 b0) (bHook4) fun x1 w1 b1 =>
     (.split x1
      (.hc 9 [] (SS.mk [] [] true w1 b1) (bHook4) fun x2 w2 b2 =>
      (.split x2
       (.split x0.ok
        (.need ((0 : Int) ≤ (12 : Int) ∧ (12 : Int) ≤ (↑n : Int))
        (.hc 12 [(.xs x0.A x0.k x0.c), (.slc 0 0 1 1 true true)] (SS.mk [(.cells [(.int .i64 4 true), (.xs (if c = (12 : Nat) then A else Option.map (fun x => x.add (12 : Nat)) A) (n - (12 : Nat)) (c - (12 : Nat)))] 2 35 0 0)] [] true w2 b2) (bHook4) fun x3 w3 b3 =>
        (.leaf .ret [(.bool x3 false)] (SS.mk [(.cells [(.int .i64 4 true), (.xs (if c = (12 : Nat) then A else Option.map (fun x => x.add (12 : Nat)) A) (n - (12 : Nat)) (c - (12 : Nat)))] 2 35 0 0)] [] true w3 b3))))
        (.leaf .ret [(.bool false true)] (SS.mk [] [] true w2 b2)))
       (.leaf .ret [(.bool false true)] (SS.mk [] [] true w2 b2))))
      (.split ((↑n : Int) == (16 : Int))
       (.hc 9 [] (SS.mk [] [] true w1 b1) (bHook4) fun x2 w2 b2 =>
       (.split x2
        (.split x0.ok
         (.hc 12 [(.xs x0.A x0.k x0.c), (.slc 0 0 1 1 true true)] (SS.mk [(.cells [(.int .i64 41 true), (.xs A n c)] 2 35 0 0)] [] true w2 b2) (bHook4) fun x3 w3 b3 =>
         (.leaf .ret [(.bool x3 false)] (SS.mk [(.cells [(.int .i64 41 true), (.xs A n c)] 2 35 0 0)] [] true w3 b3)))
         (.leaf .ret [(.bool false true)] (SS.mk [] [] true w2 b2)))
        (.leaf .ret [(.bool false true)] (SS.mk [] [] true w2 b2))))
       (.hc 9 [] (SS.mk [] [] true w1 b1) (bHook4) fun x2 w2 b2 =>
       (.split x2
        (.leaf .ret [(.bool (!x0.ok) false)] (SS.mk [] [] true w2 b2))
        (.leaf .ret [(.bool false true)] (SS.mk [] [] true w2 b2))))))))))) := by kernel_rfl

end Go.Proofs.YtdmnoagahjbjhaaGreatDoor
end

section
/- FnNetFromIP, of NetFromIP's contract. -/
set_option linter.unusedVariables false
set_option linter.unusedSimpArgs false
set_option maxRecDepth 20000
namespace Go.Proofs.YtdmnoagahjbjhaaGreatDoor
open Go Go.Rx Go.RowKit

/-- The address that bytes mean. -/
def Want (l : List UInt8) : Option (List Comp) := if l.length = 4 then some [⟨4, l⟩] else if l.length = 16 then (if Mapped l then some [⟨4, l.drop 12⟩] else some [⟨41, l⟩]) else none

def FromR (l : List UInt8) (x : FV) (w' : World) : Prop := (x.ok = true ∧ ∃ cs, Want l = some cs ∧ CompsAt w' w'.heap.size x.A x.k cs) ∨ (x.ok = false ∧ Want l = none)
def FromQ (l : List UInt8) (v : Value) (w' : World) : Prop := ∃ x : FV, v = .tuple #[.slice x.A x.k x.c, .bool x.ok] ∧ FromR l x w'

theorem comps1 {w : World} {k : Nat} {code : Int} {A : Option Addr} {n c : Nat} {l : List UInt8} {rest : List Value} {e : TypeId} {fr : Nat × Nat} (h : w.heap[k]? = some (.cells ([Value.int .i64 code, .slice A n c] ++ rest).toArray e fr)) (hk : k < w.heap.size)
    (hb : Bts w w.heap.size A n l) (hl : (l.length : Int) < 2 ^ 48) : CompsAt w w.heap.size (some ⟨k, 0, none⟩) 1 [⟨code, l⟩] := by
  refine ⟨rfl, fun _ => ⟨_, rfl, hk, fun i x hi => ?_⟩⟩
  have hc := cellsIn h
  match i, hi with
  | 0, hi =>
    simp only [List.getElem?_cons_zero, Option.some.injEq] at hi
    subst hi
    exact ⟨hk, hc 0 _ rfl, ⟨A, n, c, hc 1 _ rfl, hb⟩, hl⟩
  | i + 1, hi => simp at hi

theorem fnNetFromIP_of (A : Option Addr) (n c : Nat) (l : List UInt8) (w : World) (h : Bts w w.heap.size A n l) (hn : n ≤ reachBytes) (hc : n ≤ c)
    (h13 : ∀ wc, Below w.heap.size w wc → Calls Tryz.prog 13 #[.slice A n c] wc (Ret (FromQ l) wc)) : Calls Tryz.prog 4 #[.slice A n c] w (Ret (BoolQ fun b => b = true) w) := by
  have hl := h.1
  have hrb : reachBytes < 2 ^ 48 := by decide
  refine funF (hk := hk4) (n := 1000) (args := [.xs A n c]) ⟨trivial, trivial⟩ ?_
  refine holds_eq (t4 A n c w) ?_
  have fin : ∀ w2 bs lit b, b = true → Below w.heap.size w w2 → (∀ b ∈ bs, w.heap.size ≤ b) → (T.leaf .ret [(.bool b lit)] (SS.mk [] [] true w2 bs)).holds (ctx Tryz.prog (retQ fun v w' => BoolQ (fun b => b = true) v w' ∧ Below w.heap.size w w')) := fun w2 bs lit b hb hw2 hbs => retF (Fine.mk' hw2 hbs) fun β w' _ _ => ⟨_, rfl, hb⟩
  refine splitD (fun _ => fin _ _ _ _ rfl (Below.refl _ _) (by simp)) (fun _ => splitD (fun _ => ?_) (fun h40 => ?_))
  · exact bcall0 (fun b => b = true) (fun _ => rfl) (fun β wc _ => netAlive_c wc) (fun b w1 hw1 hb => fin _ _ _ _ hb hw1 (by simp))
  refine call0 (R := fun (x : FV) _ w' => FromR l x w') (fun x => ⟨rfl, trivial, trivial, trivial⟩) (fun β wc hb => ?_) ?_
  · refine (h13 wc hb).mono ?_
    rintro e w' ⟨v, rfl, ⟨x, rfl, hr⟩, hb'⟩
    exact ⟨x, rfl, hb', hr⟩
  rintro x wc w1 hwc hr hb1
  have hw1 : Below w.heap.size w w1 := hwc.trans (hb1.mono hwc.size)
  -- the comparison with a component
  have alike : ∀ (code : Int) (A' : Option Addr) (n' c' : Nat) (l' : List UInt8) (w2 : World) (k : Bool → World → List Nat → T), Below w1.heap.size w1 w2 → Bts w w.heap.size A' n' l' → n' ≤ n → (∃ cs, Want l = some cs ∧ CompsAt w1 w1.heap.size x.A x.k cs) → Want l = some [⟨code, l'⟩] →
      (∀ b w3 bs, k b w3 bs = .leaf .ret [(.bool b false)] (SS.mk [(.cells [(.int .i64 code true), (.xs A' n' c')] 2 35 0 0)] [] true w3 bs)) →
      (T.call 12 [(.xs x.A x.k x.c), (.slc 0 0 1 1 true true)] (SS.mk [(.cells [(.int .i64 code true), (.xs A' n' c')] 2 35 0 0)] [] true w2 []) Bool (fun b => (.bool b false, [(.cells [(.int .i64 code true), (.xs A' n' c')] 2 35 0 0)])) k).holds (ctx Tryz.prog (retQ fun v w' => BoolQ (fun b => b = true) v w' ∧ Below w.heap.size w w')) := by
    intro code A' n' c' l' w2 k h12 hb' hn' hcs hw hk
    obtain ⟨cs, hcs1, hcs2⟩ := hcs
    obtain rfl := Option.some.inj (hcs1.symm.trans hw)
    have hw2 : Below w.heap.size w w2 := hw1.trans (h12.mono hw1.size)
    refine callF (w := w2) (R := fun b _ _ => b = true) (Fine.start w2 _) (fun x => ⟨rfl, trivial⟩) (fun β w3 hst ho hb => ?_) (fun b w3 w4 bs _ hb _ hw4 hbs => ?_)
    · obtain ⟨rest, e1, e2⟩ := hst.at_ 0 _ rfl
      have h23 := hw2.trans (hb.mono hw2.size)
      have hc2 := comps1 (l := l') e1 (hst.lt 0 (by simp [SS.n])) (hb'.below h23 h23.size) (by have := hb'.1; omega)
      have h13' : Below w1.heap.size w1 w3 := h12.trans (hb.mono h12.size)
      refine (maAlike_c x.A x.k x.c (some ⟨β 0, 0, none⟩) 1 1 [⟨code, l'⟩] w3.heap.size w3 (hcs2.below h13' h13'.size) hc2 (Nat.le_refl _) (by have := hcs2.1; simp at this; omega)).mono ?_
      rintro e w' ⟨v, rfl, ⟨b, rfl, hr⟩, hb'⟩
      exact ⟨b, rfl, hb', hr⟩
    · rw [hk]
      exact retF (Fine.mk' (hw2.trans (hw4.mono hw2.size)) fun b hb => Nat.le_trans hw2.size (hbs b hb)) fun β w' _ _ => ⟨_, rfl, hb⟩
  have okOf : ∀ cs, Want l = some cs → x.ok = true ∧ ∃ cs, Want l = some cs ∧ CompsAt w1 w1.heap.size x.A x.k cs := fun cs hcs => by
    rcases hr with h | ⟨_, h⟩
    · exact h
    · rw [hcs] at h; cases h
  refine splitT (fun h4 => ?_) (fun h4 => ?_)
  · have h4' : n = 4 := by have := eq_of_beq h4; omega
    have hw : Want l = some [⟨4, l⟩] := by unfold Want; rw [if_pos (by omega)]
    refine bcall0 (fun b => b = true) (fun _ => rfl) (fun β wc _ => netAlive_c wc) (fun b w2 h12 hb => ?_)
    subst hb
    refine splitT (fun _ => splitT (fun _ => ?_) (fun hno => ?_)) (fun h => by cases h)
    · exact alike 4 A n c l w2 _ h12 h (Nat.le_refl _) (okOf _ hw).2 hw (fun _ _ _ => rfl)
    · rw [(okOf _ hw).1] at hno; cases hno
  have h4' : l.length ≠ 4 := fun he => by rw [show n = 4 by omega] at h4; cases h4
  refine bcall0 (fun b => b = true ↔ n = 16 ∧ Mapped l) (fun _ => rfl) (fun β wc hb => ?_) (fun b w2 h12 hm => ?_)
  · exact netMapped_c A n c l w.heap.size wc (h.below (hw1.trans (hb.mono hw1.size)) (Nat.le_refl _)) (Nat.le_trans hw1.size hb.size)
  have hw2 : Below w.heap.size w w2 := hw1.trans (h12.mono hw1.size)
  refine splitT (fun hb => ?_) (fun hb => ?_)
  · obtain ⟨h16, hmap⟩ := hm.1 hb
    have hw : Want l = some [⟨4, l.drop 12⟩] := by unfold Want; rw [if_neg h4', if_pos (by omega), if_pos hmap]
    refine bcall0 (fun b => b = true) (fun _ => rfl) (fun β wc _ => netAlive_c wc) (fun b w3 h23 hb => ?_)
    subst hb
    have h13' : Below w1.heap.size w1 w3 := h12.trans (h23.mono h12.size)
    refine splitT (fun _ => splitT (fun _ => needT (by omega) ?_) (fun hno => ?_)) (fun h => by cases h)
    · obtain ⟨a, _, rfl, _, _, _⟩ := h.get (i := 0) (by omega)
      rw [if_neg (show ¬ c = 12 by omega)]
      exact alike 4 (some (a.add 12)) (n - 12) (c - 12) (l.drop 12) w3 _ h13' (bts_drop h (by omega)) (Nat.sub_le _ _) (okOf _ hw).2 hw (fun _ _ _ => rfl)
    · rw [(okOf _ hw).1] at hno; cases hno
  refine splitT (fun h16 => ?_) (fun h16 => ?_)
  · have h16' : n = 16 := by have := eq_of_beq h16; omega
    have hmap : ¬ Mapped l := fun hmap => by rw [hm.2 ⟨h16', hmap⟩] at hb; cases hb
    have hw : Want l = some [⟨41, l⟩] := by unfold Want; rw [if_neg h4', if_pos (by omega), if_neg hmap]
    refine bcall0 (fun b => b = true) (fun _ => rfl) (fun β wc _ => netAlive_c wc) (fun b w3 h23 hb => ?_)
    subst hb
    have h13' : Below w1.heap.size w1 w3 := h12.trans (h23.mono h12.size)
    refine splitT (fun _ => splitT (fun _ => ?_) (fun hno => ?_)) (fun h => by cases h)
    · exact alike 41 A n c l w3 _ h13' h (Nat.le_refl _) (okOf _ hw).2 hw (fun _ _ _ => rfl)
    · rw [(okOf _ hw).1] at hno; cases hno
  · have hw : Want l = none := by
      unfold Want
      rw [if_neg h4', if_neg (fun he => by rw [show n = 16 by omega] at h16; cases h16)]
    have hno : x.ok = false := by
      rcases hr with ⟨_, cs, h, _⟩ | ⟨h, _⟩
      · rw [hw] at h; cases h
      · exact h
    refine bcall0 (fun b => b = true) (fun _ => rfl) (fun β wc _ => netAlive_c wc) (fun b w3 h23 hb => ?_)
    subst hb
    have hw3 : Below w.heap.size w w3 := hw2.trans (h23.mono hw2.size)
    exact splitT (fun _ => fin _ _ _ _ (by rw [hno]; rfl) hw3 (by simp)) (fun h => by cases h)

end Go.Proofs.YtdmnoagahjbjhaaGreatDoor
end

section
/- NetFromIP, of NewComponent's contract. -/
set_option linter.unusedVariables false
set_option linter.unusedSimpArgs false
set_option maxRecDepth 20000
namespace Go.Proofs.YtdmnoagahjbjhaaGreatDoor
open Go Go.Rx Go.RowKit

/-- What a new component holds: 'k' is its block. -/
def NcR (code : Int) (val : List UInt8) (x : NC) (k : Nat) (w0 w' : World) : Prop := ∃ pre, x.s = ⟨(pre ++ val).toArray⟩ ∧ x.i = pre.length ∧ pre.length ≤ 26 ∧ ProtAt w' w'.heap.size x.p code ∧ w0.heap.size ≤ x.p.block ∧ x.p.block ≠ k

def NcQ (code : Int) (val : List UInt8) (w : World) (e : Ending) (w' : World) : Prop := ∃ (x : NC) (k : Nat), e = .returned (.tuple #[.pointer (some ⟨k, 0, none⟩), .nilIface]) ∧ Below w.heap.size w w' ∧ w.heap.size ≤ k ∧ k < w'.heap.size ∧
  w'.heap[k]? = some (.cells #[.string x.s, .pointer (some x.p), .int .i64 (x.i : Int)] 74 (0, 0)) ∧ NcR code val x k w w'

@[reducible] def ncObj (x : NC) : SObj := .cells [(.str x.s false), (.xp x.p), (.int .i64 ((↑x.i : Int)) false)] 3 74 0 0

theorem tail13 {args : List SV} {l val : List UInt8} {code : Int} {w w1 : World} (hw1 : Below w.heap.size w w1) (hW : Want l = some [⟨code, val⟩]) (hv : (val.length : Int) < 2 ^ 48)
    (hcall : ∀ β wc, Below w1.heap.size w1 wc → Calls Tryz.prog 73 (denL β args).toArray wc (NcQ code val wc)) :
    (T.call 73 args (SS.mk [] [] true w1 []) (Hook.X (ncHook)) (Hook.out (ncHook) args (SS.mk [] [] true w1 [])) fun x2 w2 b2 =>
      (.hc 27 [(.slc 1 0 1 1 true true)] (SS.mk [ncObj x2, ncObj x2] [] true w2 b2) (uvHook) fun x3 w3 b3 =>
      (.leaf .ret [(.tup [(.xs x3.A x3.k x3.c), (.bool true true)])] (SS.mk [ncObj x2, ncObj x2] [] true w3 b3)))).holds (ctx Tryz.prog (retQ fun v w' => FromQ l v w' ∧ Below w.heap.size w w')) := by
  refine callNewB (w := w1) (o := ncObj) (r := fun _ => .tup [.ptr 0 0, .one .nilIface rfl]) (R := fun x k w0 w' => NcR code val x k w0 w') (Fine.start w1 _) rfl (fun x => ⟨⟨trivial, trivial, trivial, trivial⟩, ⟨Nat.zero_lt_one, trivial, trivial⟩⟩) (fun β w0 hst hb => ?_) ?_
  · refine (hcall β w0 hb).mono ?_
    rintro e w' ⟨x, k, rfl, h1, h2, h3, h4, h5⟩
    exact ⟨x, k, rfl, h1, h2, h3, ⟨[], h4, rfl⟩, h5⟩
  rintro x k w0 w2 bs ⟨pre, e1, e2, e3, e4, e5, e6⟩ hk1 hk2 hw10 hb02 hw12 hbs
  have hn : x.p.block ∉ bs := fun hm => by
    rcases (hbs _ hm).2 with h | h
    · exact e6 h
    · omega
  refine callN (w := w1) (R := fun (y : UV) wc w' => RowAt CompR 2 (Rx.since wc w') w'.heap.size y.A y.k [⟨code, val⟩]) (Fine.mk' hw12 (fun b hb => (hbs b hb).1)) (fun x => ⟨rfl, trivial⟩) (fun β w3 hst ho hb => ?_) (fun y w3 w4 bs4 _ hr hb34 hw14 hbs4 => ?_)
  · obtain ⟨rest, c1, _⟩ := hst.at_ 1 _ rfl
    have hlt := hst.lt 1 (by simp [SS.n])
    have hrow : RowAt MaR 3 w3 w3.heap.size (some ⟨β 1, 0, none⟩) 1 [⟨code, val⟩] := by
      refine ⟨rfl, fun _ => ⟨_, rfl, hlt, fun i y hi => ?_⟩⟩
      match i, hi with
      | 0, hi =>
        simp only [List.getElem?_cons_zero, Option.some.injEq] at hi
        subst hi
        refine ⟨hlt, _, ⟨pre, x.p, ?_, ?_, e3⟩, cellsIn c1⟩
        · simp only [denL, SV.den, e1, e2]
        · obtain ⟨h1, z, h2⟩ := e4
          refine ⟨Nat.lt_of_lt_of_le h1 ho.sz, z, fun i v hi => ?_⟩
          rw [ho.cell (by rw [add_block]; exact h1) (by rw [add_block]; exact hn)]
          exact h2 i v hi
      | i + 1, hi => simp at hi
    refine (components_c (some ⟨β 1, 0, none⟩) 1 1 [⟨code, val⟩] w3.heap.size w3 hrow (Nat.le_refl _) (by decide)).mono ?_
    rintro e w' ⟨v, rfl, ⟨A', k', c', rfl, h5⟩, hb'⟩
    exact ⟨⟨A', k', c'⟩, rfl, hb', h5⟩
  · refine retF (Fine.mk' (hw1.trans (hw14.mono hw1.size)) fun b hb => Nat.le_trans hw1.size (hbs4 b hb).1) fun β w5 hst hb5 => ⟨⟨y.A, y.k, y.c, true⟩, rfl, .inl ⟨rfl, _, hW, ?_⟩⟩
    have o := hst.old rfl
    have hsub : Sub w4.heap.size (Rx.since w3 w4) w5 := fun a v hb hx => by
      rw [cell_since] at hx
      rw [o.cell hb (fun hm => by have := (hbs4 _ hm).2; omega)]
      exact hx.2
    exact compsAt_of_row (hr.sub CompR.lasts hsub o.sz) fun z hz => by
      simp only [List.mem_singleton] at hz
      subst hz
      exact hv

def eobj (a : Addr) : SObj := .cells [(.ifc 130 (.xp a))] 1 52 0 0
def ErrAt (w : World) (a : Addr) : Prop := w.heap[1]? = some (.cells #[.iface 130 (.pointer (some a))] 52 (0, 0))

theorem eobj_at {β : Nat → Nat} {a : Addr} {x : Option Obj} : (eobj a).At β x ↔ x = some (.cells #[.iface 130 (.pointer (some a))] 52 (0, 0)) := by
  unfold eobj SObj.At
  constructor
  · rintro ⟨rest, h1, h2⟩
    have hr : rest = [] := List.eq_nil_of_length_eq_zero (by have h2' : 1 + rest.length = 1 := h2; omega)
    subst hr
    rw [h1]
    rfl
  · rintro rfl
    exact ⟨[], rfl, rfl⟩

theorem St.err {P : Program} {Q : SE → List Value → World → Prop} {w : World} {a : Addr} (h : ErrAt w a) : St { P := P, β0 := fun _ => 1, n0 := 1, Q := Q } (fun _ => 1) (SS.mk [eobj a] [(1, 0)] true w [1]) w where
  lt i hi := (Array.getElem?_eq_some_iff.1 h).1
  inj i j hi hj _ := by simp [SS.n] at hi hj; omega
  at_ i o hi := by
    match i, hi with
    | 0, hi =>
      simp at hi
      subst hi
      exact eobj_at.2 h
    | i + 1, hi => simp at hi
  ok i o hi := by
    match i, hi with
    | 0, hi =>
      simp at hi
      subst hi
      exact ⟨trivial, trivial⟩
    | i + 1, hi => simp at hi
  gl p hp := by
    simp at hp
    subst hp
    exact ⟨by simp [SS.n], rfl⟩
  old _ := { fr := fun _ _ _ => rfl, sz := Nat.le_refl _, tape := rfl, os := rfl, out := rfl,
             pre := fun i b hi => by
               match i, hi with
               | 0, hi => simpa using hi
               | i + 1, hi => simp at hi
             pren := by simp [SS.n]
             new := fun i hi hin => by simp [SS.n] at hi hin; omega }
  base i hi := rfl
  n0 := by simp [SS.n]

theorem errBelow {P : Program} {Q : SE → List Value → World → Prop} {β : Nat → Nat} {s : SS} {w w' : World} {a : Addr} (hs : St { P := P, β0 := fun _ => 1, n0 := 1, Q := Q } β s w') (h0 : s.objs[0]? = some (eobj a)) (hk : Keep [1] w w') (he : ErrAt w a) : Below w.heap.size w w' := by
  have hb0 : β 0 = 1 := hs.base 0 (by show 0 < 1; omega)
  refine ⟨hk.os, hk.tape, hk.output, hk.size, fun b hb => ?_⟩
  by_cases h1 : b = 1
  · subst h1
    have := eobj_at.1 (hs.at_ 0 _ h0)
    rw [hb0] at this
    rw [this]
    exact he.symm
  · exact hk.block b hb (by simpa using h1)

theorem netFromIP_of (A : Option Addr) (n c : Nat) (l : List UInt8) (w : World) (h : Bts w w.heap.size A n l) (hn : n ≤ reachBytes) (hc : n ≤ c) (ht : Tens w) (he : ∃ a, ErrAt w a)
    (h4 : ∀ a b c d wc, Tens wc → Calls Tryz.prog 73 #[.string ⟨#[105, 112, 52]⟩, .string ⟨(text4 a b c d).toArray⟩] wc (NcQ 4 [a, b, c, d] wc))
    (h6 : ∀ l f t wc, l.length = 16 → Good l f t → ¬ Mapped l → Calls Tryz.prog 73 #[.string ⟨#[105, 112, 54]⟩, .string ⟨(txt6 l f t).toArray⟩] wc (NcQ 41 l wc)) : Calls Tryz.prog 13 #[.slice A n c] w (Ret (FromQ l) w) := by
  have hl := h.1
  have hrb : reachBytes < 2 ^ 48 := by decide
  have hto4 : ∀ wc, Below w.heap.size w wc → Calls Tryz.prog 72 #[.slice A n c] wc (Ret (fun v _ => ∃ x : UV, v = .slice x.A x.k x.c ∧ (x.A.isNone = false ↔ (n = 4 ∨ (n = 16 ∧ Mapped l)))) wc) := fun wc hb => by
    refine (to4g_c A n c l w.heap.size wc (h.below hb (Nat.le_refl _)) hc hb.size).mono ?_
    rintro e w' ⟨v, rfl, hv, hb'⟩
    rcases hv with ⟨h1, rfl⟩ | ⟨h1, hm, a, ha, rfl⟩ | ⟨h1, h2, rfl⟩
    · obtain ⟨a, _, rfl, _⟩ := h.get (i := 0) (by omega)
      exact ⟨_, rfl, ⟨⟨some a, n, c⟩, by rw [h1], fun _ => .inl h1, fun _ => rfl⟩, hb'⟩
    · exact ⟨_, rfl, ⟨⟨some (a.add 12), 4, c - 12⟩, rfl, fun _ => .inr ⟨h1, hm⟩, fun _ => rfl⟩, hb'⟩
    · refine ⟨_, rfl, ⟨⟨none, 0, 0⟩, rfl, fun h => (by cases h), fun h => ?_⟩, hb'⟩
      rcases h with h | ⟨h, hm⟩
      · exact absurd h h1
      · exact absurd hm (h2 h)
  by_cases h416 : n = 4 ∨ n = 16
  · refine funF (hk := hk13) (n := 2000) (args := [.xs A n c]) ⟨trivial, trivial⟩ ?_
    refine holds_eq (t13 A n c w) ?_
    refine call0 (R := fun (x : UV) _ _ => (x.A.isNone = false ↔ (n = 4 ∨ (n = 16 ∧ Mapped l)))) (fun x => ⟨rfl, trivial⟩) (fun β wc hb => ?_) ?_
    · refine (hto4 wc hb).mono ?_
      rintro e w' ⟨v, rfl, ⟨x, rfl, hx⟩, hb'⟩
      exact ⟨x, rfl, hb', hx⟩
    rintro x0 wc w0 hwc hx hb0
    have hw0 : Below w.heap.size w w0 := hwc.trans (hb0.mono hwc.size)
    refine splitT (fun hs => ?_) (fun hs => ?_)
    · have hx' := hx.1 (by simpa using hs)
      obtain ⟨p0, p1, p2, p3, hcase⟩ : ∃ p0 p1 p2 p3 : UInt8, (n = 4 ∧ l = [p0, p1, p2, p3]) ∨ (n = 16 ∧ Mapped l ∧ l.drop 12 = [p0, p1, p2, p3]) := by
        rcases hx' with h1 | ⟨h1, hm⟩
        · match l, (show l.length = 4 by omega) with
          | [a, b, c, d], _ => exact ⟨a, b, c, d, .inl ⟨h1, rfl⟩⟩
        · match hd : l.drop 12, (show (l.drop 12).length = 4 by simp; omega) with
          | [a, b, c, d], _ => exact ⟨a, b, c, d, .inr ⟨h1, hm, rfl⟩⟩
      have hW : Want l = some [⟨4, [p0, p1, p2, p3]⟩] := by
        unfold Want
        rcases hcase with ⟨h1, h2⟩ | ⟨h1, hm, h2⟩
        · rw [if_pos (by omega), h2]
        · rw [if_neg (by omega), if_pos (by omega), if_pos hm, h2]
      refine call0 (R := fun s _ _ => s = ⟨(text4 p0 p1 p2 p3).toArray⟩) (fun x => ⟨rfl, trivial⟩) (fun β wc hb => ?_) ?_
      · have hwc' := hw0.trans (hb.mono hw0.size)
        refine (ipText4_c A n c l p0 p1 p2 p3 w.heap.size wc (h.below hwc' (Nat.le_refl _)) hc hwc'.size (ht.below hwc' ht.lt) hcase).mono ?_
        rintro e w' ⟨v, rfl, rfl, hb'⟩
        exact ⟨_, rfl, hb', rfl⟩
      rintro s wc1 w1 hwc1 rfl hb1
      have hw1 : Below w.heap.size w w1 := hw0.trans ((hwc1.trans (hb1.mono hwc1.size)).mono hw0.size)
      exact tail13 hw1 hW (by simp) fun β wc hb => by
        have hwc2 := hw1.trans (hb.mono hw1.size)
        exact h4 p0 p1 p2 p3 wc (ht.below hwc2 ht.lt)
    · have hx' : ¬ (n = 4 ∨ (n = 16 ∧ Mapped l)) := fun hh => by rw [hx.2 hh] at hs; cases hs
      have hn16 : n = 16 := by
        rcases h416 with h | h
        · exact absurd (.inl h) hx'
        · exact h
      have hm : ¬ Mapped l := fun hm => hx' (.inr ⟨hn16, hm⟩)
      subst hn16
      have hW : Want l = some [⟨41, l⟩] := by
        unfold Want
        rw [if_neg (by omega), if_pos (by omega), if_neg hm]
      obtain ⟨a, _, rfl, _⟩ := h.get (i := 0) (by omega)
      refine call0 (R := fun (x : UV) _ _ => x.A.isNone = false) (fun x => ⟨rfl, trivial⟩) (fun β wc hb => ?_) ?_
      · refine (to16_c (some a) 16 c wc (by omega)).mono ?_
        rintro e w' ⟨v, rfl, hv, hb'⟩
        rcases hv with ⟨_, rfl⟩ | ⟨h, _⟩
        · exact ⟨⟨some a, 16, c⟩, rfl, hb', rfl⟩
        · exact absurd rfl h
      rintro x1 wc1 w1 hwc1 hx1 hb1
      have hw1 : Below w.heap.size w w1 := hw0.trans ((hwc1.trans (hb1.mono hwc1.size)).mono hw0.size)
      refine splitT (fun _ => ?_) (fun hno => by rw [hx1] at hno; cases hno)
      refine call0 (R := fun s _ _ => ∃ f t, Good l f t ∧ s = ⟨(txt6 l f t).toArray⟩) (fun x => ⟨rfl, trivial⟩) (fun β wc hb => ?_) ?_
      · have hwc' := hw1.trans (hb.mono hw1.size)
        refine (ipText6_c (some a) c l w.heap.size wc (h.below hwc' (Nat.le_refl _)) hc hwc'.size hm).mono ?_
        rintro e w' ⟨v, rfl, ⟨f, t, hg, rfl⟩, hb'⟩
        exact ⟨_, rfl, hb', f, t, hg, rfl⟩
      rintro s wc2 w2 hwc2 ⟨f, t, hg, rfl⟩ hb2
      have hw2 : Below w.heap.size w w2 := hw1.trans ((hwc2.trans (hb2.mono hwc2.size)).mono hw1.size)
      exact tail13 hw2 hW (by omega) fun β wc hb => h6 l f t wc (by omega) hg hm
  · obtain ⟨a, he⟩ := he
    have hW : Want l = none := by
      unfold Want
      rw [if_neg (by omega), if_neg (by omega)]
    refine (funS (hk := hk13) (n := 2000) (args := [.xs A n c]) (Q := fun v w' => FromQ l v w' ∧ Below w.heap.size w w') (St.err he) ⟨trivial, trivial⟩ ?_).mono ?_
    rotate_left
    · rintro e w' ⟨v, rfl, h1, h2⟩
      exact ⟨v, rfl, h1, h2⟩
    refine holds_eq (t13g A n c a w) ?_
    refine callK (w := w) (bs := [1]) (R := fun (x : UV) _ _ => x.A.isNone = true) ⟨rfl, Keep.refl _ _, fun b hb => .inl hb⟩ (fun x => ⟨rfl, trivial⟩) (fun β wc hst o hk => ?_) ?_
    · refine (hto4 wc (errBelow hst rfl hk he)).mono ?_
      rintro e w' ⟨v, rfl, ⟨x, rfl, hx⟩, hb'⟩
      refine ⟨x, rfl, hb', ?_⟩
      cases hxn : x.A.isNone with
      | true => rfl
      | false =>
        rcases hx.1 hxn with h | ⟨h, _⟩
        · exact absurd (.inl h) h416
        · exact absurd (.inr h) h416
    rintro x0 wc w0 bs0 hk0 hx0 hb0 hkw hbs0
    refine splitT (fun hs => by rw [hx0] at hs; cases hs) (fun _ => ?_)
    refine callK (w := w) (bs := [1]) (R := fun (x : UV) _ _ => x.A.isNone = true) ⟨rfl, hkw, hbs0⟩ (fun x => ⟨rfl, trivial⟩) (fun β wc hst o hk => ?_) ?_
    · refine (to16_c A n c wc (fun h => h416 (.inl h))).mono ?_
      rintro e w' ⟨v, rfl, hv, hb'⟩
      rcases hv with ⟨h, _⟩ | ⟨_, rfl⟩
      · exact absurd (.inr h) h416
      · exact ⟨⟨none, 0, 0⟩, rfl, hb', rfl⟩
    rintro x1 wc1 w1 bs1 hk1 hx1 hb1 hkw1 hbs1
    refine splitT (fun hs => by rw [hx1] at hs; cases hs) (fun _ => ?_)
    refine leafK (w := w) (bs := [1]) ⟨rfl, hkw1, hbs1⟩ fun β w' hst hk => ⟨_, rfl, ⟨⟨none, 0, 0, false⟩, rfl, .inr ⟨rfl, hW⟩⟩, errBelow hst rfl hk he⟩

end Go.Proofs.YtdmnoagahjbjhaaGreatDoor
end

section
/- NewComponent, validateComponent: trees. -/
set_option linter.unusedVariables false
set_option linter.unusedSimpArgs false
set_option maxRecDepth 20000
namespace Go.Proofs.YtdmnoagahjbjhaaGreatDoor
open Go Go.Rx Go.RowKit
set_option maxRecDepth 100000 in
theorem t139a (s : ByteArray) (w : World) (bs : List Nat) : xFunc Tryz.prog hk139 3000 139 [.ptr 0 0] (SS.mk (vObjs4 s) [] true w bs) =
  (.split (decide ((1 : Int) > (↑s.size : Int)))
   (.leaf .ret [(.ifc 130 (.ptr 3 0))] (SS.mk [(.cells [(.str s false), (.ptr 1 0), (.int .i64 1 true)] 3 74 0 0), (.cells [(.str (ByteArray.mk #[105, 112, 52]) true), (.int .i64 4 true), (.slc 2 0 1 1 true true), (.int .i64 32 true), (.bool false true), (.ifc 150 (.agg [(.fn (.func 163) [] []), (.fn (.func 164) [] []), (.one .nilFunc rfl)]))] 6 71 0 0), (.cells [(.int .u8 4 true)] 1 5 0 0), (.cells [(.str (ByteArray.mk #[99, 111, 109, 112, 111, 110, 101, 110, 116, 32, 118, 97, 108, 117, 101, 83, 116, 97, 114, 116, 73, 100, 120, 32, 105, 115, 32, 103, 114, 101, 97, 116, 101, 114, 32, 116, 104, 97, 110, 32, 116, 104, 101, 32, 108, 101, 110, 103, 116, 104, 32, 111, 102, 32, 116, 104, 101, 32, 99, 111, 109, 112, 111, 110, 101, 110, 116, 39, 115, 32, 98, 121, 116, 101, 115]) true)] 1 132 0 0)] [] true w bs))
   (.split (decide ((↑s.size : Int) < (↑(1 : Nat) : Int)))
    (.leaf .ret [(.ifc 130 (.ptr 3 0))] (SS.mk [(.cells [(.str s false), (.ptr 1 0), (.int .i64 1 true)] 3 74 0 0), (.cells [(.str (ByteArray.mk #[105, 112, 52]) true), (.int .i64 4 true), (.slc 2 0 1 1 true true), (.int .i64 32 true), (.bool false true), (.ifc 150 (.agg [(.fn (.func 163) [] []), (.fn (.func 164) [] []), (.one .nilFunc rfl)]))] 6 71 0 0), (.cells [(.int .u8 4 true)] 1 5 0 0), (.cells [(.str (ByteArray.mk #[99, 111, 109, 112, 111, 110, 101, 110, 116, 32, 115, 105, 122, 101, 32, 109, 105, 115, 109, 97, 116, 99, 104, 58, 32, 33, 61]) true)] 1 132 0 0)] [] true w bs))
    (.need ((0 : Int) ≤ (↑(1 : Nat) : Int) ∧ (↑(1 : Nat) : Int) ≤ (↑s.size : Int))
    (.choose (.appendCap ((s.extract (0 : Nat) (1 : Nat)).size) 0 5) fun c0 =>
    (.need ((0 : Nat) = (0 : Nat) ∧ (1 : Nat) = (1 : Nat) ∧ (1 : Nat) = (1 : Nat))
    (.need ((0 : Nat) = (0 : Nat))
    (.need ((0 : Nat) + (s.extract (0 : Nat) (1 : Nat)).size ≤ (List.map (fun b => (↑b.toNat : Int)) (#[].extract (0 : Nat) (0 : Nat) ++ s.data.extract (0 : Nat) (1 : Nat) ++ #[].extract ((0 : Nat) + min (1 : Nat) (s.data.size - (0 : Nat))) (0 : Nat)).toList ++ List.replicate (c0 - (s.extract (0 : Nat) (1 : Nat)).size) (0 : Int)).length)
    (.split (!(bytesOf (List.take (s.extract (0 : Nat) (1 : Nat)).size (List.drop (0 : Nat) (List.map (fun b => (↑b.toNat : Int)) (#[].extract (0 : Nat) (0 : Nat) ++ s.data.extract (0 : Nat) (1 : Nat) ++ #[].extract ((0 : Nat) + min (1 : Nat) (s.data.size - (0 : Nat))) (0 : Nat)).toList ++ List.replicate (c0 - (s.extract (0 : Nat) (1 : Nat)).size) (0 : Int))))).toList == (bytesOf [(4 : Int)]).toList)
     (.leaf .ret [(.ifc 130 (.ptr 4 0))] (SS.mk [(.cells [(.str s false), (.ptr 1 0), (.int .i64 1 true)] 3 74 0 0), (.cells [(.str (ByteArray.mk #[105, 112, 52]) true), (.int .i64 4 true), (.slc 2 0 1 1 true true), (.int .i64 32 true), (.bool false true), (.ifc 150 (.agg [(.fn (.func 163) [] []), (.fn (.func 164) [] []), (.one .nilFunc rfl)]))] 6 71 0 0), (.cells [(.int .u8 4 true)] 1 5 0 0), (.ints .u8 (List.map (fun b => (↑b.toNat : Int)) (#[].extract (0 : Nat) (0 : Nat) ++ s.data.extract (0 : Nat) (1 : Nat) ++ #[].extract ((0 : Nat) + min (1 : Nat) (s.data.size - (0 : Nat))) (0 : Nat)).toList ++ List.replicate (c0 - (s.extract (0 : Nat) (1 : Nat)).size) (0 : Int)) 5 c0 (c0 + (1 : Nat))), (.cells [(.str (ByteArray.mk #[99, 111, 109, 112, 111, 110, 101, 110, 116, 39, 115, 32, 86, 67, 111, 100, 101, 32, 102, 105, 101, 108, 100, 32, 105, 115, 32, 105, 110, 118, 97, 108, 105, 100, 58, 32, 33, 61]) true)] 1 132 0 0)] [] true w bs))
     (.need ((0 : Int) ≤ (1 : Int) ∧ (1 : Int) ≤ (↑s.size : Int))
     (.split (IntKind.i64.wrap (Int.tdiv (32 : Int) (8 : Int)) != (↑(s.extract (1 : Nat) s.size).size : Int))
      (.leaf .ret [(.ifc 130 (.ptr 4 0))] (SS.mk [(.cells [(.str s false), (.ptr 1 0), (.int .i64 1 true)] 3 74 0 0), (.cells [(.str (ByteArray.mk #[105, 112, 52]) true), (.int .i64 4 true), (.slc 2 0 1 1 true true), (.int .i64 32 true), (.bool false true), (.ifc 150 (.agg [(.fn (.func 163) [] []), (.fn (.func 164) [] []), (.one .nilFunc rfl)]))] 6 71 0 0), (.cells [(.int .u8 4 true)] 1 5 0 0), (.ints .u8 (List.map (fun b => (↑b.toNat : Int)) (#[].extract (0 : Nat) (0 : Nat) ++ s.data.extract (0 : Nat) (1 : Nat) ++ #[].extract ((0 : Nat) + min (1 : Nat) (s.data.size - (0 : Nat))) (0 : Nat)).toList ++ List.replicate (c0 - (s.extract (0 : Nat) (1 : Nat)).size) (0 : Int)) 5 c0 (c0 + (1 : Nat))), (.cells [(.str (ByteArray.mk #[99, 111, 109, 112, 111, 110, 101, 110, 116, 32, 118, 97, 108, 117, 101, 32, 115, 105, 122, 101, 32, 109, 105, 115, 109, 97, 116, 99, 104, 58, 32, 33, 61]) true)] 1 132 0 0)] [] true w bs))
      (.split (IntKind.i64.wrap ((↑(1 : Nat) : Int) + IntKind.i64.wrap (Int.tdiv (32 : Int) (8 : Int))) != (↑s.size : Int))
       (.leaf .ret [(.ifc 130 (.ptr 4 0))] (SS.mk [(.cells [(.str s false), (.ptr 1 0), (.int .i64 1 true)] 3 74 0 0), (.cells [(.str (ByteArray.mk #[105, 112, 52]) true), (.int .i64 4 true), (.slc 2 0 1 1 true true), (.int .i64 32 true), (.bool false true), (.ifc 150 (.agg [(.fn (.func 163) [] []), (.fn (.func 164) [] []), (.one .nilFunc rfl)]))] 6 71 0 0), (.cells [(.int .u8 4 true)] 1 5 0 0), (.ints .u8 (List.map (fun b => (↑b.toNat : Int)) (#[].extract (0 : Nat) (0 : Nat) ++ s.data.extract (0 : Nat) (1 : Nat) ++ #[].extract ((0 : Nat) + min (1 : Nat) (s.data.size - (0 : Nat))) (0 : Nat)).toList ++ List.replicate (c0 - (s.extract (0 : Nat) (1 : Nat)).size) (0 : Int)) 5 c0 (c0 + (1 : Nat))), (.cells [(.str (ByteArray.mk #[99, 111, 109, 112, 111, 110, 101, 110, 116, 32, 115, 105, 122, 101, 32, 109, 105, 115, 109, 97, 116, 99, 104, 58, 32, 33, 61]) true)] 1 132 0 0)] [] true w bs))
       (.need ((0 : Int) ≤ (1 : Int) ∧ (1 : Int) ≤ (↑s.size : Int))
       (.choose (.appendCap ((s.extract (1 : Nat) s.size).size) 0 5) fun c1 =>
       (.need (Fn.func (163 : Nat) = Fn.func (163 : Nat))
       (.need (Fn.func (164 : Nat) = Fn.func (164 : Nat))
       (.need (Value.nilFunc = Value.nilFunc)
       (.need ((0 : Nat) = (0 : Nat))
       (.hc 164 [(.slc 4 0 ((s.extract (1 : Nat) s.size).size) c1 false false)] (SS.mk [(.cells [(.str s false), (.ptr 1 0), (.int .i64 1 true)] 3 74 0 0), (.cells [(.str (ByteArray.mk #[105, 112, 52]) true), (.int .i64 4 true), (.slc 2 0 1 1 true true), (.int .i64 32 true), (.bool false true), (.ifc 150 (.agg [(.fn (.func 163) [] []), (.fn (.func 164) [] []), (.one .nilFunc rfl)]))] 6 71 0 0), (.cells [(.int .u8 4 true)] 1 5 0 0), (.ints .u8 (List.map (fun b => (↑b.toNat : Int)) (#[].extract (0 : Nat) (0 : Nat) ++ s.data.extract (0 : Nat) (1 : Nat) ++ #[].extract ((0 : Nat) + min (1 : Nat) (s.data.size - (0 : Nat))) (0 : Nat)).toList ++ List.replicate (c0 - (s.extract (0 : Nat) (1 : Nat)).size) (0 : Int)) 5 c0 (c0 + (1 : Nat))), (.ints .u8 (List.map (fun b => (↑b.toNat : Int)) (#[].extract (0 : Nat) (0 : Nat) ++ s.data.extract (1 : Nat) ((1 : Nat) + (s.size - (1 : Nat))) ++ #[].extract ((0 : Nat) + min (s.size - (1 : Nat)) (s.data.size - (1 : Nat))) (0 : Nat)).toList ++ List.replicate (c1 - (s.extract (1 : Nat) s.size).size) (0 : Int)) 5 c1 (c1 + (1 : Nat))), (.cells [(.fn (.func 163) [] []), (.fn (.func 164) [] []), (.one .nilFunc rfl)] 3 150 0 0)] [] true w bs) (btsHook) fun x2 w2 b2 =>
       (.need ((0 : Int) ≤ (1 : Int) ∧ (1 : Int) ≤ (↑s.size : Int))
       (.choose (.appendCap ((s.extract (1 : Nat) s.size).size) 0 5) fun c3 =>
       (.need (Fn.func (163 : Nat) = Fn.func (163 : Nat))
       (.need (Fn.func (164 : Nat) = Fn.func (164 : Nat))
       (.need (Value.nilFunc = Value.nilFunc)
       (.need ((0 : Nat) = (0 : Nat))
       (.hc 399 [(.agg [(.fn (.func 163) [] []), (.fn (.func 164) [] []), (.one .nilFunc rfl)]), (.slc 6 0 ((s.extract (1 : Nat) s.size).size) c3 false false)] (SS.mk [(.cells [(.str s false), (.ptr 1 0), (.int .i64 1 true)] 3 74 0 0), (.cells [(.str (ByteArray.mk #[105, 112, 52]) true), (.int .i64 4 true), (.slc 2 0 1 1 true true), (.int .i64 32 true), (.bool false true), (.ifc 150 (.agg [(.fn (.func 163) [] []), (.fn (.func 164) [] []), (.one .nilFunc rfl)]))] 6 71 0 0), (.cells [(.int .u8 4 true)] 1 5 0 0), (.ints .u8 (List.map (fun b => (↑b.toNat : Int)) (#[].extract (0 : Nat) (0 : Nat) ++ s.data.extract (0 : Nat) (1 : Nat) ++ #[].extract ((0 : Nat) + min (1 : Nat) (s.data.size - (0 : Nat))) (0 : Nat)).toList ++ List.replicate (c0 - (s.extract (0 : Nat) (1 : Nat)).size) (0 : Int)) 5 c0 (c0 + (1 : Nat))), (.ints .u8 (List.map (fun b => (↑b.toNat : Int)) (#[].extract (0 : Nat) (0 : Nat) ++ s.data.extract (1 : Nat) ((1 : Nat) + (s.size - (1 : Nat))) ++ #[].extract ((0 : Nat) + min (s.size - (1 : Nat)) (s.data.size - (1 : Nat))) (0 : Nat)).toList ++ List.replicate (c1 - (s.extract (1 : Nat) s.size).size) (0 : Int)) 5 c1 (c1 + (1 : Nat))), (.cells [(.fn (.func 163) [] []), (.fn (.func 164) [] []), (.one .nilFunc rfl)] 3 150 0 0), (.ints .u8 (List.map (fun b => (↑b.toNat : Int)) (#[].extract (0 : Nat) (0 : Nat) ++ s.data.extract (1 : Nat) ((1 : Nat) + (s.size - (1 : Nat))) ++ #[].extract ((0 : Nat) + min (s.size - (1 : Nat)) (s.data.size - (1 : Nat))) (0 : Nat)).toList ++ List.replicate (c3 - (s.extract (1 : Nat) s.size).size) (0 : Int)) 5 c3 (c3 + (1 : Nat)))] [] true w2 b2) (nilHook) fun x4 w4 b4 =>
       (.leaf .ret [(.one .nilIface rfl)] (SS.mk [(.cells [(.str s false), (.ptr 1 0), (.int .i64 1 true)] 3 74 0 0), (.cells [(.str (ByteArray.mk #[105, 112, 52]) true), (.int .i64 4 true), (.slc 2 0 1 1 true true), (.int .i64 32 true), (.bool false true), (.ifc 150 (.agg [(.fn (.func 163) [] []), (.fn (.func 164) [] []), (.one .nilFunc rfl)]))] 6 71 0 0), (.cells [(.int .u8 4 true)] 1 5 0 0), (.ints .u8 (List.map (fun b => (↑b.toNat : Int)) (#[].extract (0 : Nat) (0 : Nat) ++ s.data.extract (0 : Nat) (1 : Nat) ++ #[].extract ((0 : Nat) + min (1 : Nat) (s.data.size - (0 : Nat))) (0 : Nat)).toList ++ List.replicate (c0 - (s.extract (0 : Nat) (1 : Nat)).size) (0 : Int)) 5 c0 (c0 + (1 : Nat))), (.ints .u8 (List.map (fun b => (↑b.toNat : Int)) (#[].extract (0 : Nat) (0 : Nat) ++ s.data.extract (1 : Nat) ((1 : Nat) + (s.size - (1 : Nat))) ++ #[].extract ((0 : Nat) + min (s.size - (1 : Nat)) (s.data.size - (1 : Nat))) (0 : Nat)).toList ++ List.replicate (c1 - (s.extract (1 : Nat) s.size).size) (0 : Int)) 5 c1 (c1 + (1 : Nat))), (.cells [(.fn (.func 163) [] []), (.fn (.func 164) [] []), (.one .nilFunc rfl)] 3 150 0 0), (.ints .u8 (List.map (fun b => (↑b.toNat : Int)) (#[].extract (0 : Nat) (0 : Nat) ++ s.data.extract (1 : Nat) ((1 : Nat) + (s.size - (1 : Nat))) ++ #[].extract ((0 : Nat) + min (s.size - (1 : Nat)) (s.data.size - (1 : Nat))) (0 : Nat)).toList ++ List.replicate (c3 - (s.extract (1 : Nat) s.size).size) (0 : Int)) 5 c3 (c3 + (1 : Nat)))] [] true w4 b4))))))))))))))))))))))))))) := by kernel_rfl
set_option maxRecDepth 100000 in
theorem t73a (s : ByteArray) (w : World) : xFunc Tryz.prog hk73 5000 73 [.str ⟨#[105, 112, 52]⟩ true, .str s false] (SS.mk [] [] true w []) =
  (.hc 163 [(.str s false)] (SS.mk [(.cells [(.str (ByteArray.mk #[105, 112, 52]) true), (.int .i64 4 true), (.slc 3 0 1 1 true true), (.int .i64 32 true), (.bool false true), (.ifc 150 (.agg [(.fn (.func 163) [] []), (.fn (.func 164) [] []), (.one .nilFunc rfl)]))] 6 71 0 0), (.cells [(.str (ByteArray.mk #[105, 112, 52]) true), (.int .i64 4 true), (.slc 3 0 1 1 true true), (.int .i64 32 true), (.bool false true), (.ifc 150 (.agg [(.fn (.func 163) [] []), (.fn (.func 164) [] []), (.one .nilFunc rfl)]))] 6 71 0 0), (.cells [(.str (ByteArray.mk #[105, 112, 52]) true), (.int .i64 4 true), (.slc 3 0 1 1 true true), (.int .i64 32 true), (.bool false true), (.ifc 150 (.agg [(.fn (.func 163) [] []), (.fn (.func 164) [] []), (.one .nilFunc rfl)]))] 6 71 0 0), (.cells [(.int .u8 4 true)] 1 5 0 0), (.cells [(.str (ByteArray.mk #[105, 112, 52]) true), (.int .i64 4 true), (.slc 3 0 1 1 true true), (.int .i64 32 true), (.bool false true), (.ifc 150 (.agg [(.fn (.func 163) [] []), (.fn (.func 164) [] []), (.one .nilFunc rfl)]))] 6 71 0 0), (.cells [(.fn (.func 163) [] []), (.fn (.func 164) [] []), (.one .nilFunc rfl)] 3 150 0 0)] [] true w []) (stb4Hook) fun x0 w0 b0 =>
  (.both
   (.hc 139 [(.ptr 13 0)] (SS.mk [(.cells [(.str (ByteArray.mk #[105, 112, 52]) true), (.int .i64 4 true), (.slc 3 0 1 1 true true), (.int .i64 32 true), (.bool false true), (.ifc 150 (.agg [(.fn (.func 163) [] []), (.fn (.func 164) [] []), (.one .nilFunc rfl)]))] 6 71 0 0), (.cells [(.str (ByteArray.mk #[105, 112, 52]) true), (.int .i64 4 true), (.slc 3 0 1 1 true true), (.int .i64 32 true), (.bool false true), (.ifc 150 (.agg [(.fn (.func 163) [] []), (.fn (.func 164) [] []), (.one .nilFunc rfl)]))] 6 71 0 0), (.cells [(.str (ByteArray.mk #[105, 112, 52]) true), (.int .i64 4 true), (.slc 3 0 1 1 true true), (.int .i64 32 true), (.bool false true), (.ifc 150 (.agg [(.fn (.func 163) [] []), (.fn (.func 164) [] []), (.one .nilFunc rfl)]))] 6 71 0 0), (.cells [(.int .u8 4 true)] 1 5 0 0), (.cells [(.str (ByteArray.mk #[105, 112, 52]) true), (.int .i64 4 true), (.slc 3 0 1 1 true true), (.int .i64 32 true), (.bool false true), (.ifc 150 (.agg [(.fn (.func 163) [] []), (.fn (.func 164) [] []), (.one .nilFunc rfl)]))] 6 71 0 0), (.cells [(.fn (.func 163) [] []), (.fn (.func 164) [] []), (.one .nilFunc rfl)] 3 150 0 0), (.cells (sixteen x0) 16 196 0 0), (.cells [(.str (ByteArray.mk #[105, 112, 52]) true), (.int .i64 4 true), (.slc 3 0 1 1 true true), (.int .i64 32 true), (.bool false true), (.ifc 150 (.agg [(.fn (.func 163) [] []), (.fn (.func 164) [] []), (.one .nilFunc rfl)]))] 6 71 0 0), (.cells [(.str (ByteArray.mk #[105, 112, 52]) true), (.int .i64 4 true), (.slc 10 0 1 1 true true), (.int .i64 32 true), (.bool false true), (.ifc 150 (.agg [(.fn (.func 163) [] []), (.fn (.func 164) [] []), (.one .nilFunc rfl)]))] 6 71 0 0), (.cells [(.str (ByteArray.mk #[105, 112, 52]) true), (.int .i64 4 true), (.slc 10 0 1 1 true true), (.int .i64 32 true), (.bool false true), (.ifc 150 (.agg [(.fn (.func 163) [] []), (.fn (.func 164) [] []), (.one .nilFunc rfl)]))] 6 71 0 0), (.cells [(.int .u8 4 true)] 1 5 0 0), (.cells [(.str (ByteArray.mk #[105, 112, 52]) true), (.int .i64 4 true), (.slc 10 0 1 1 true true), (.int .i64 32 true), (.bool false true), (.ifc 150 (.agg [(.fn (.func 163) [] []), (.fn (.func 164) [] []), (.one .nilFunc rfl)]))] 6 71 0 0), (.cells [(.int .u8 4 true), (.int .u8 (x0 (12 : Nat)) false), (.int .u8 (x0 (13 : Nat)) false), (.int .u8 (x0 (14 : Nat)) false), (.int .u8 (x0 (15 : Nat)) false)] 5 5 0 0), (.cells [(.str (bytesOf [IntKind.u8.wrap (IntKind.u64.wrap (4 : Int)), x0 (12 : Nat), x0 (13 : Nat), x0 (14 : Nat), x0 (15 : Nat)]) false), (.ptr 11 0), (.int .i64 1 true)] 3 74 0 0)] [] true w0 b0) (nilHook) fun x1 w1 b1 =>
   (.leaf .ret [(.tup [(.ptr 13 0), (.one .nilIface rfl)])] (SS.mk [(.cells [(.str (ByteArray.mk #[105, 112, 52]) true), (.int .i64 4 true), (.slc 3 0 1 1 true true), (.int .i64 32 true), (.bool false true), (.ifc 150 (.agg [(.fn (.func 163) [] []), (.fn (.func 164) [] []), (.one .nilFunc rfl)]))] 6 71 0 0), (.cells [(.str (ByteArray.mk #[105, 112, 52]) true), (.int .i64 4 true), (.slc 3 0 1 1 true true), (.int .i64 32 true), (.bool false true), (.ifc 150 (.agg [(.fn (.func 163) [] []), (.fn (.func 164) [] []), (.one .nilFunc rfl)]))] 6 71 0 0), (.cells [(.str (ByteArray.mk #[105, 112, 52]) true), (.int .i64 4 true), (.slc 3 0 1 1 true true), (.int .i64 32 true), (.bool false true), (.ifc 150 (.agg [(.fn (.func 163) [] []), (.fn (.func 164) [] []), (.one .nilFunc rfl)]))] 6 71 0 0), (.cells [(.int .u8 4 true)] 1 5 0 0), (.cells [(.str (ByteArray.mk #[105, 112, 52]) true), (.int .i64 4 true), (.slc 3 0 1 1 true true), (.int .i64 32 true), (.bool false true), (.ifc 150 (.agg [(.fn (.func 163) [] []), (.fn (.func 164) [] []), (.one .nilFunc rfl)]))] 6 71 0 0), (.cells [(.fn (.func 163) [] []), (.fn (.func 164) [] []), (.one .nilFunc rfl)] 3 150 0 0), (.cells (sixteen x0) 16 196 0 0), (.cells [(.str (ByteArray.mk #[105, 112, 52]) true), (.int .i64 4 true), (.slc 3 0 1 1 true true), (.int .i64 32 true), (.bool false true), (.ifc 150 (.agg [(.fn (.func 163) [] []), (.fn (.func 164) [] []), (.one .nilFunc rfl)]))] 6 71 0 0), (.cells [(.str (ByteArray.mk #[105, 112, 52]) true), (.int .i64 4 true), (.slc 10 0 1 1 true true), (.int .i64 32 true), (.bool false true), (.ifc 150 (.agg [(.fn (.func 163) [] []), (.fn (.func 164) [] []), (.one .nilFunc rfl)]))] 6 71 0 0), (.cells [(.str (ByteArray.mk #[105, 112, 52]) true), (.int .i64 4 true), (.slc 10 0 1 1 true true), (.int .i64 32 true), (.bool false true), (.ifc 150 (.agg [(.fn (.func 163) [] []), (.fn (.func 164) [] []), (.one .nilFunc rfl)]))] 6 71 0 0), (.cells [(.int .u8 4 true)] 1 5 0 0), (.cells [(.str (ByteArray.mk #[105, 112, 52]) true), (.int .i64 4 true), (.slc 10 0 1 1 true true), (.int .i64 32 true), (.bool false true), (.ifc 150 (.agg [(.fn (.func 163) [] []), (.fn (.func 164) [] []), (.one .nilFunc rfl)]))] 6 71 0 0), (.cells [(.int .u8 4 true), (.int .u8 (x0 (12 : Nat)) false), (.int .u8 (x0 (13 : Nat)) false), (.int .u8 (x0 (14 : Nat)) false), (.int .u8 (x0 (15 : Nat)) false)] 5 5 0 0), (.cells [(.str (bytesOf [IntKind.u8.wrap (IntKind.u64.wrap (4 : Int)), x0 (12 : Nat), x0 (13 : Nat), x0 (14 : Nat), x0 (15 : Nat)]) false), (.ptr 11 0), (.int .i64 1 true)] 3 74 0 0)] [] true w1 b1)))
   (.hc 139 [(.ptr 13 0)] (SS.mk [(.cells [(.str (ByteArray.mk #[105, 112, 52]) true), (.int .i64 4 true), (.slc 3 0 1 1 true true), (.int .i64 32 true), (.bool false true), (.ifc 150 (.agg [(.fn (.func 163) [] []), (.fn (.func 164) [] []), (.one .nilFunc rfl)]))] 6 71 0 0), (.cells [(.str (ByteArray.mk #[105, 112, 52]) true), (.int .i64 4 true), (.slc 3 0 1 1 true true), (.int .i64 32 true), (.bool false true), (.ifc 150 (.agg [(.fn (.func 163) [] []), (.fn (.func 164) [] []), (.one .nilFunc rfl)]))] 6 71 0 0), (.cells [(.str (ByteArray.mk #[105, 112, 52]) true), (.int .i64 4 true), (.slc 3 0 1 1 true true), (.int .i64 32 true), (.bool false true), (.ifc 150 (.agg [(.fn (.func 163) [] []), (.fn (.func 164) [] []), (.one .nilFunc rfl)]))] 6 71 0 0), (.cells [(.int .u8 4 true)] 1 5 0 0), (.cells [(.str (ByteArray.mk #[105, 112, 52]) true), (.int .i64 4 true), (.slc 3 0 1 1 true true), (.int .i64 32 true), (.bool false true), (.ifc 150 (.agg [(.fn (.func 163) [] []), (.fn (.func 164) [] []), (.one .nilFunc rfl)]))] 6 71 0 0), (.cells [(.fn (.func 163) [] []), (.fn (.func 164) [] []), (.one .nilFunc rfl)] 3 150 0 0), (.cells (sixteen x0) 16 196 0 0), (.cells [(.str (ByteArray.mk #[105, 112, 52]) true), (.int .i64 4 true), (.slc 3 0 1 1 true true), (.int .i64 32 true), (.bool false true), (.ifc 150 (.agg [(.fn (.func 163) [] []), (.fn (.func 164) [] []), (.one .nilFunc rfl)]))] 6 71 0 0), (.cells [(.str (ByteArray.mk #[105, 112, 52]) true), (.int .i64 4 true), (.slc 10 0 1 1 true true), (.int .i64 32 true), (.bool false true), (.ifc 150 (.agg [(.fn (.func 163) [] []), (.fn (.func 164) [] []), (.one .nilFunc rfl)]))] 6 71 0 0), (.cells [(.str (ByteArray.mk #[105, 112, 52]) true), (.int .i64 4 true), (.slc 10 0 1 1 true true), (.int .i64 32 true), (.bool false true), (.ifc 150 (.agg [(.fn (.func 163) [] []), (.fn (.func 164) [] []), (.one .nilFunc rfl)]))] 6 71 0 0), (.cells [(.int .u8 4 true)] 1 5 0 0), (.cells [(.str (ByteArray.mk #[105, 112, 52]) true), (.int .i64 4 true), (.slc 10 0 1 1 true true), (.int .i64 32 true), (.bool false true), (.ifc 150 (.agg [(.fn (.func 163) [] []), (.fn (.func 164) [] []), (.one .nilFunc rfl)]))] 6 71 0 0), (.cells [(.int .u8 4 true), (.int .u8 (x0 (12 : Nat)) false), (.int .u8 (x0 (13 : Nat)) false), (.int .u8 (x0 (14 : Nat)) false), (.int .u8 (x0 (15 : Nat)) false)] 5 5 0 0), (.cells [(.str (bytesOf [IntKind.u8.wrap (IntKind.u64.wrap (4 : Int)), x0 (12 : Nat), x0 (13 : Nat), x0 (14 : Nat), x0 (15 : Nat)]) false), (.ptr 11 0), (.int .i64 1 true)] 3 74 0 0)] [] true w0 b0) (nilHook) fun x1 w1 b1 =>
   (.leaf .ret [(.tup [(.ptr 13 0), (.one .nilIface rfl)])] (SS.mk [(.cells [(.str (ByteArray.mk #[105, 112, 52]) true), (.int .i64 4 true), (.slc 3 0 1 1 true true), (.int .i64 32 true), (.bool false true), (.ifc 150 (.agg [(.fn (.func 163) [] []), (.fn (.func 164) [] []), (.one .nilFunc rfl)]))] 6 71 0 0), (.cells [(.str (ByteArray.mk #[105, 112, 52]) true), (.int .i64 4 true), (.slc 3 0 1 1 true true), (.int .i64 32 true), (.bool false true), (.ifc 150 (.agg [(.fn (.func 163) [] []), (.fn (.func 164) [] []), (.one .nilFunc rfl)]))] 6 71 0 0), (.cells [(.str (ByteArray.mk #[105, 112, 52]) true), (.int .i64 4 true), (.slc 3 0 1 1 true true), (.int .i64 32 true), (.bool false true), (.ifc 150 (.agg [(.fn (.func 163) [] []), (.fn (.func 164) [] []), (.one .nilFunc rfl)]))] 6 71 0 0), (.cells [(.int .u8 4 true)] 1 5 0 0), (.cells [(.str (ByteArray.mk #[105, 112, 52]) true), (.int .i64 4 true), (.slc 3 0 1 1 true true), (.int .i64 32 true), (.bool false true), (.ifc 150 (.agg [(.fn (.func 163) [] []), (.fn (.func 164) [] []), (.one .nilFunc rfl)]))] 6 71 0 0), (.cells [(.fn (.func 163) [] []), (.fn (.func 164) [] []), (.one .nilFunc rfl)] 3 150 0 0), (.cells (sixteen x0) 16 196 0 0), (.cells [(.str (ByteArray.mk #[105, 112, 52]) true), (.int .i64 4 true), (.slc 3 0 1 1 true true), (.int .i64 32 true), (.bool false true), (.ifc 150 (.agg [(.fn (.func 163) [] []), (.fn (.func 164) [] []), (.one .nilFunc rfl)]))] 6 71 0 0), (.cells [(.str (ByteArray.mk #[105, 112, 52]) true), (.int .i64 4 true), (.slc 10 0 1 1 true true), (.int .i64 32 true), (.bool false true), (.ifc 150 (.agg [(.fn (.func 163) [] []), (.fn (.func 164) [] []), (.one .nilFunc rfl)]))] 6 71 0 0), (.cells [(.str (ByteArray.mk #[105, 112, 52]) true), (.int .i64 4 true), (.slc 10 0 1 1 true true), (.int .i64 32 true), (.bool false true), (.ifc 150 (.agg [(.fn (.func 163) [] []), (.fn (.func 164) [] []), (.one .nilFunc rfl)]))] 6 71 0 0), (.cells [(.int .u8 4 true)] 1 5 0 0), (.cells [(.str (ByteArray.mk #[105, 112, 52]) true), (.int .i64 4 true), (.slc 10 0 1 1 true true), (.int .i64 32 true), (.bool false true), (.ifc 150 (.agg [(.fn (.func 163) [] []), (.fn (.func 164) [] []), (.one .nilFunc rfl)]))] 6 71 0 0), (.cells [(.int .u8 4 true), (.int .u8 (x0 (12 : Nat)) false), (.int .u8 (x0 (13 : Nat)) false), (.int .u8 (x0 (14 : Nat)) false), (.int .u8 (x0 (15 : Nat)) false)] 5 5 0 0), (.cells [(.str (bytesOf [IntKind.u8.wrap (IntKind.u64.wrap (4 : Int)), x0 (12 : Nat), x0 (13 : Nat), x0 (14 : Nat), x0 (15 : Nat)]) false), (.ptr 11 0), (.int .i64 1 true)] 3 74 0 0)] [] true w1 b1))))) := by kernel_rfl

end Go.Proofs.YtdmnoagahjbjhaaGreatDoor
end

