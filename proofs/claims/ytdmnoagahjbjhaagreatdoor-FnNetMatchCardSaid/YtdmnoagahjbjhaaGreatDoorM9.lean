/- Addresses of the package: address. -/
import Derived.Test.YtdmnoagahjbjhaaGreatDoorM8
import Derived.Test.YtdmnoagahjbjhaaGreatDoorRx5
set_option linter.unusedVariables false
set_option linter.unusedSimpArgs false
set_option maxRecDepth 20000
namespace Go.Proofs.YtdmnoagahjbjhaaGreatDoor
open Go Go.Rx Go.RowKit
structure MV where
  s : ByteArray
  p : Addr
  at' : Int
@[reducible] def mvHook : Hook := { X := MV, out := fun _ s x => (.agg [.str x.s false, .xp x.p, .int .i64 x.at' false], s.objs) }
def LA : SE → List Nat
  | .normal => [3, 6, 7, 8]
  | .exit 0 => [3]
  | _ => []
def hk23 : Hooks := { calls := fun f => if f = 42 then some mvHook else none, loops := fun _ _ => none }
def lhA (N : Nat) : LoopHook := mkHook N UV (.exit 0) [3] (fun x => [.xs x.A x.k x.c]) Unit .ret [] (fun _ => [])
def hkLA (N : Nat) : Hooks := { calls := fun _ => none, loops := fun _ _ => some (lhA N) }
set_option maxRecDepth 100000 in
theorem t23 (A : Option Addr) (n c : Nat) (w : World) : xFunc Tryz.prog (hkLA 19) 1000 23 [.xs A n c] (SS.at w) =
  (.loop 23 (loopOf Tryz.prog 23 4) ([(.xs A n c), (.tup []), (.one (.slice none 0 0) rfl), (.one (.slice none 0 0) rfl), (.tup []), (.tup []), (.xs A n c), (.int .i64 ((↑n : Int)) false), (.int .i64 0 true)] ++ List.replicate 10 undefS) (SS.mk [] [] true w []) (LoopHook.X (lhA (19 : Nat))) (LoopHook.out (lhA (19 : Nat)) ([(.xs A n c), (.tup []), (.one (.slice none 0 0) rfl), (.one (.slice none 0 0) rfl), (.tup []), (.tup []), (.xs A n c), (.int .i64 ((↑n : Int)) false), (.int .i64 0 true)] ++ List.replicate 10 undefS) (SS.mk [] [] true w [])) (fun x0 w0 b0 =>
   (.leaf .ret [(.xs x0.fst.A x0.fst.k x0.fst.c)] (SS.mk [] [] true w0 b0)))
  (LoopHook.Y (lhA (19 : Nat))) (LoopHook.out' (lhA (19 : Nat)) ([(.xs A n c), (.tup []), (.one (.slice none 0 0) rfl), (.one (.slice none 0 0) rfl), (.tup []), (.tup []), (.xs A n c), (.int .i64 ((↑n : Int)) false), (.int .i64 0 true)] ++ List.replicate 10 undefS) (SS.mk [] [] true w [])) (fun x0 w0 b0 =>
   (.leaf .ret [(.raw (x0.snd (2 : Nat)))] (SS.mk [] [] true w0 b0)))) := by kernel_rfl
set_option maxRecDepth 100000 in
theorem n23 (A : Option Addr) (n c i : Nat) (w : World) (g : Nat → Value) : xCode Tryz.prog hk23 1000 23 (loopOf Tryz.prog 23 4) (mkFrame ((LA .normal).zip [.one (.slice none 0 0) rfl, .xs A n c, .int .i64 n false, .int .i64 i false]) g 19 0) (fun e a s => .leaf e (sel LA e a) s) (SS.at w) =
  (.split (decide ((↑i : Int) < (↑n : Int)))
   (.need ((0 : Int) ≤ (↑i : Int) ∧ (↑i : Int) < (↑n : Int))
   (.need (A.isSome = true)
   (.need (canRead w [] ((A.getD default).add ((↑i : Int).toNat * (2 : Nat))) [SV.int IntKind.i64 (intAt w (((A.getD default).add ((↑i : Int).toNat * (2 : Nat))).add (0 : Nat))) false, SV.xs (slA w (((A.getD default).add ((↑i : Int).toNat * (2 : Nat))).add (1 : Nat))) (slN w (((A.getD default).add ((↑i : Int).toNat * (2 : Nat))).add (1 : Nat))) (slC w (((A.getD default).add ((↑i : Int).toNat * (2 : Nat))).add (1 : Nat)))])
   (.call 42 [(.agg [(.int .i64 (intAt w (((A.getD default).add ((↑i : Int).toNat * (2 : Nat))).add (0 : Nat))) false), (.xs (slA w (((A.getD default).add ((↑i : Int).toNat * (2 : Nat))).add (1 : Nat))) (slN w (((A.getD default).add ((↑i : Int).toNat * (2 : Nat))).add (1 : Nat))) (slC w (((A.getD default).add ((↑i : Int).toNat * (2 : Nat))).add (1 : Nat))))])] (SS.mk [(.cells [(.int .i64 (intAt w (((A.getD default).add ((↑i : Int).toNat * (2 : Nat))).add (0 : Nat))) false), (.xs (slA w (((A.getD default).add ((↑i : Int).toNat * (2 : Nat))).add (1 : Nat))) (slN w (((A.getD default).add ((↑i : Int).toNat * (2 : Nat))).add (1 : Nat))) (slC w (((A.getD default).add ((↑i : Int).toNat * (2 : Nat))).add (1 : Nat))))] 2 35 0 0)] [] true w []) (Hook.X (mvHook)) (Hook.out (mvHook) [(.agg [(.int .i64 (intAt w (((A.getD default).add ((↑i : Int).toNat * (2 : Nat))).add (0 : Nat))) false), (.xs (slA w (((A.getD default).add ((↑i : Int).toNat * (2 : Nat))).add (1 : Nat))) (slN w (((A.getD default).add ((↑i : Int).toNat * (2 : Nat))).add (1 : Nat))) (slC w (((A.getD default).add ((↑i : Int).toNat * (2 : Nat))).add (1 : Nat))))])] (SS.mk [(.cells [(.int .i64 (intAt w (((A.getD default).add ((↑i : Int).toNat * (2 : Nat))).add (0 : Nat))) false), (.xs (slA w (((A.getD default).add ((↑i : Int).toNat * (2 : Nat))).add (1 : Nat))) (slN w (((A.getD default).add ((↑i : Int).toNat * (2 : Nat))).add (1 : Nat))) (slC w (((A.getD default).add ((↑i : Int).toNat * (2 : Nat))).add (1 : Nat))))] 2 35 0 0)] [] true w [])) fun x0 w0 b0 =>
   (.need ((32 : Nat) ≤ (281474976710656 : Nat))
   (.need ((↑(1 : Nat) : Int) ≤ IntKind.i64.max)
   (.choose (.appendCap 1 0 74) fun c1 =>
   (.leaf .normal [(.slc 2 0 1 c1 true false), (.xs A n c), (.int .i64 ((↑n : Int)) false), (.int .i64 (IntKind.i64.wrap ((↑i : Int) + (1 : Int))) false)] (SS.mk [(.cells [(.int .i64 (intAt w (((A.getD default).add ((↑i : Int).toNat * (2 : Nat))).add (0 : Nat))) false), (.xs (slA w (((A.getD default).add ((↑i : Int).toNat * (2 : Nat))).add (1 : Nat))) (slN w (((A.getD default).add ((↑i : Int).toNat * (2 : Nat))).add (1 : Nat))) (slC w (((A.getD default).add ((↑i : Int).toNat * (2 : Nat))).add (1 : Nat))))] 2 35 0 0), (.cells [(.str x0.s false), (.xp x0.p), (.int .i64 x0.at' false)] 3 74 0 0), (.cells [(.str x0.s false), (.xp x0.p), (.int .i64 x0.at' false)] (c1 * (3 : Nat)) 74 0 0)] [] true w0 b0)))))))))
   (.leaf (.exit 0) [(.one (.slice none 0 0) rfl)] (SS.mk [] [] true w []))) := by kernel_rfl
set_option maxRecDepth 100000 in
theorem r23 (A : Option Addr) (n c i kk cc : Nat) (Ls : List Value) (w : World) (bs : List Nat) (g : Nat → Value) : xCode Tryz.prog hk23 1000 23 (loopOf Tryz.prog 23 4) (mkFrame ((LA .normal).zip [.slc 0 0 kk cc false false, .xs A n c, .int .i64 n false, .int .i64 i false]) g 19 0) (fun e a s => .leaf e (sel LA e a) s) (SS.mk [.vals Ls (cc * 3) 74 0 0] [] true w bs) =
  (.split (decide ((↑i : Int) < (↑n : Int)))
   (.need ((0 : Int) ≤ (↑i : Int) ∧ (↑i : Int) < (↑n : Int))
   (.need (A.isSome = true)
   (.need (canRead w bs ((A.getD default).add ((↑i : Int).toNat * (2 : Nat))) [SV.int IntKind.i64 (intAt w (((A.getD default).add ((↑i : Int).toNat * (2 : Nat))).add (0 : Nat))) false, SV.xs (slA w (((A.getD default).add ((↑i : Int).toNat * (2 : Nat))).add (1 : Nat))) (slN w (((A.getD default).add ((↑i : Int).toNat * (2 : Nat))).add (1 : Nat))) (slC w (((A.getD default).add ((↑i : Int).toNat * (2 : Nat))).add (1 : Nat)))])
   (.call 42 [(.agg [(.int .i64 (intAt w (((A.getD default).add ((↑i : Int).toNat * (2 : Nat))).add (0 : Nat))) false), (.xs (slA w (((A.getD default).add ((↑i : Int).toNat * (2 : Nat))).add (1 : Nat))) (slN w (((A.getD default).add ((↑i : Int).toNat * (2 : Nat))).add (1 : Nat))) (slC w (((A.getD default).add ((↑i : Int).toNat * (2 : Nat))).add (1 : Nat))))])] (SS.mk [(.vals Ls (cc * (3 : Nat)) 74 0 0), (.cells [(.int .i64 (intAt w (((A.getD default).add ((↑i : Int).toNat * (2 : Nat))).add (0 : Nat))) false), (.xs (slA w (((A.getD default).add ((↑i : Int).toNat * (2 : Nat))).add (1 : Nat))) (slN w (((A.getD default).add ((↑i : Int).toNat * (2 : Nat))).add (1 : Nat))) (slC w (((A.getD default).add ((↑i : Int).toNat * (2 : Nat))).add (1 : Nat))))] 2 35 0 0)] [] true w bs) (Hook.X (mvHook)) (Hook.out (mvHook) [(.agg [(.int .i64 (intAt w (((A.getD default).add ((↑i : Int).toNat * (2 : Nat))).add (0 : Nat))) false), (.xs (slA w (((A.getD default).add ((↑i : Int).toNat * (2 : Nat))).add (1 : Nat))) (slN w (((A.getD default).add ((↑i : Int).toNat * (2 : Nat))).add (1 : Nat))) (slC w (((A.getD default).add ((↑i : Int).toNat * (2 : Nat))).add (1 : Nat))))])] (SS.mk [(.vals Ls (cc * (3 : Nat)) 74 0 0), (.cells [(.int .i64 (intAt w (((A.getD default).add ((↑i : Int).toNat * (2 : Nat))).add (0 : Nat))) false), (.xs (slA w (((A.getD default).add ((↑i : Int).toNat * (2 : Nat))).add (1 : Nat))) (slN w (((A.getD default).add ((↑i : Int).toNat * (2 : Nat))).add (1 : Nat))) (slC w (((A.getD default).add ((↑i : Int).toNat * (2 : Nat))).add (1 : Nat))))] 2 35 0 0)] [] true w bs)) fun x0 w0 b0 =>
   (.split (decide (kk + (1 : Nat) ≤ cc))
    (.need ((0 : Nat) + kk * (3 : Nat) = Ls.length ∧ Ls.length + (denL id [SV.str x0.s false, SV.xp x0.p, SV.int IntKind.i64 x0.at' false]).length ≤ cc * (3 : Nat) ∧ thawed (0 : Nat) (0 : Nat) Ls.length (denL id [SV.str x0.s false, SV.xp x0.p, SV.int IntKind.i64 x0.at' false]).length = true)
    (.leaf .normal [(.slc 0 0 (kk + (1 : Nat)) cc false false), (.xs A n c), (.int .i64 ((↑n : Int)) false), (.int .i64 (IntKind.i64.wrap ((↑i : Int) + (1 : Int))) false)] (SS.mk [(.vals (Ls ++ denL id [SV.str x0.s false, SV.xp x0.p, SV.int IntKind.i64 x0.at' false]) (cc * (3 : Nat)) 74 0 0), (.cells [(.int .i64 (intAt w (((A.getD default).add ((↑i : Int).toNat * (2 : Nat))).add (0 : Nat))) false), (.xs (slA w (((A.getD default).add ((↑i : Int).toNat * (2 : Nat))).add (1 : Nat))) (slN w (((A.getD default).add ((↑i : Int).toNat * (2 : Nat))).add (1 : Nat))) (slC w (((A.getD default).add ((↑i : Int).toNat * (2 : Nat))).add (1 : Nat))))] 2 35 0 0), (.cells [(.str x0.s false), (.xp x0.p), (.int .i64 x0.at' false)] 3 74 0 0)] [] true w0 b0)))
    (.need ((0 : Nat) + kk * (3 : Nat) ≤ Ls.length ∧ Builtin.nextslicecap (kk + (1 : Nat)) cc * (32 : Nat) ≤ (281474976710656 : Nat) ∧ (↑(kk + (1 : Nat)) : Int) ≤ IntKind.i64.max)
    (.choose (.appendCap (kk + (1 : Nat)) cc 74) fun c1 =>
    (.leaf .normal [(.slc 3 0 (kk + (1 : Nat)) c1 false false), (.xs A n c), (.int .i64 ((↑n : Int)) false), (.int .i64 (IntKind.i64.wrap ((↑i : Int) + (1 : Int))) false)] (SS.mk [(.vals Ls (cc * (3 : Nat)) 74 0 0), (.cells [(.int .i64 (intAt w (((A.getD default).add ((↑i : Int).toNat * (2 : Nat))).add (0 : Nat))) false), (.xs (slA w (((A.getD default).add ((↑i : Int).toNat * (2 : Nat))).add (1 : Nat))) (slN w (((A.getD default).add ((↑i : Int).toNat * (2 : Nat))).add (1 : Nat))) (slC w (((A.getD default).add ((↑i : Int).toNat * (2 : Nat))).add (1 : Nat))))] 2 35 0 0), (.cells [(.str x0.s false), (.xp x0.p), (.int .i64 x0.at' false)] 3 74 0 0), (.vals (List.take (kk * (3 : Nat)) (List.drop (0 : Nat) Ls) ++ denL id [SV.str x0.s false, SV.xp x0.p, SV.int IntKind.i64 x0.at' false]) (c1 * (3 : Nat)) 74 0 0)] [] true w0 b0)))))))))
   (.leaf (.exit 0) [(.slc 0 0 kk cc false false)] (SS.mk [(.vals Ls (cc * (3 : Nat)) 74 0 0)] [] true w bs))) := by kernel_rfl


/-- The cells of a component of the package. -/
def MaR (w : World) (B : Nat) (x : Comp) (vs : List Value) : Prop := ∃ pre p, vs = [.string ⟨(pre ++ x.val).toArray⟩, .pointer (some p), .int .i64 (pre.length : Int)] ∧ ProtAt w B p x.code ∧ pre.length ≤ 26

theorem ProtAt.sub {w w' : World} {B B' : Nat} {p : Addr} {k : Int} (h : ProtAt w B p k) (hs : Sub B w w') (hB : B ≤ B') : ProtAt w' B' p k := by
  obtain ⟨h1, x, h2⟩ := h
  exact ⟨by omega, x, fun i v hi => hs _ _ (by rw [add_block]; exact h1) (h2 i v hi)⟩

theorem MaR.sub (B B' : Nat) (a b : World) (x : Comp) (vs : List Value) (hs : Sub B a b) (hB : B ≤ B') (h : MaR a B x vs) : MaR b B' x vs := by
  obtain ⟨pre, p, h1, h2, h3⟩ := h
  exact ⟨pre, p, h1, h2.sub hs hB, h3⟩

theorem MaR.len {w : World} {B : Nat} (x : Comp) (vs : List Value) (h : MaR w B x vs) : vs.length = 3 := by
  obtain ⟨pre, p, rfl, _⟩ := h
  rfl

/-- An address of the package. -/
def MasAt (w : World) (B : Nat) (A : Option Addr) (n : Nat) (l : List Comp) : Prop := SeqAt (CellsAt (MaR w B) w B) 3 B A n l

theorem MasAt.sub {w w' : World} {B B' : Nat} {A : Option Addr} {n : Nat} {l : List Comp} (h : MasAt w B A n l) (hs : Sub B w w') (hB : B ≤ B') : MasAt w' B' A n l :=
  h.imp hB fun a x _ hx => hx.sub hs hB fun x vs => MaR.sub _ _ _ _ x vs hs hB

def AddrQ (l : List Comp) (w : World) (v : Value) (w' : World) : Prop := ∃ A k c, v = .slice A k c ∧ MasAt (since w w') w'.heap.size A k l

/-- The same, and the capacity is no less than the length. -/
def AddrQc (l : List Comp) (w : World) (v : Value) (w' : World) : Prop := ∃ A k c, v = .slice A k c ∧ MasAt (since w w') w'.heap.size A k l ∧ k ≤ c

theorem mvCall {Q : SE → List Value → World → Prop} {β0 : Nat → Nat} {n0 : Nat} {s : SS} {w : World} {bs : List Nat} {key : Int} {l1 : Bool} {A : Option Addr} {n c : Nat} {val : List UInt8} {B : Nat} {objs : List SObj} {k : MV → World → List Nat → T} (hf : KFine bs w s) (hs0 : s.objs = objs) (hkey : key ∈ table)
    (hn : (n : Int) < 2 ^ 46) (hB : ∀ wc, Keep bs w wc → B ≤ wc.heap.size ∧ Bts wc B A n val)
    (hk : ∀ x wc w' bs' pre, Keep bs w wc → Below wc.heap.size wc w' → Keep bs w w' → (∀ b ∈ bs', (b ∈ bs ∨ w.heap.size ≤ b) ∧ b < wc.heap.size) → MaR (since wc w') w'.heap.size ⟨key, val⟩ [.string x.s, .pointer (some x.p), .int .i64 x.at'] → x.s = ⟨(pre ++ val).toArray⟩ →
      (k x w' bs').holds { P := Tryz.prog, β0 := β0, n0 := n0, Q := Q }) :
    (T.call 42 [.agg [.int .i64 key l1, .xs A n c]] s MV (fun x => (.agg [.str x.s false, .xp x.p, .int .i64 x.at' false], objs)) k).holds { P := Tryz.prog, β0 := β0, n0 := n0, Q := Q } := by
  refine callKN (R := fun (x : MV) wc w' => ∃ pre, x.s = ⟨(pre ++ val).toArray⟩ ∧ x.at' = (pre.length : Int) ∧ ProtAt w' w'.heap.size x.p key ∧ wc.heap.size ≤ x.p.block ∧ pre.length ≤ 26) hf (fun x => ⟨hs0.symm, trivial, trivial, trivial, trivial⟩)
    (fun β wc hst ho hkp => ?_) (fun x wc w' bs' h1 hr h2 h3 h4 => ?_)
  · obtain ⟨h1, h2⟩ := hB wc hkp
    refine (comp_c key hkey A n c val B wc h2 h1 hn).mono ?_
    rintro e w' ⟨v, rfl, ⟨pre, p, rfl, h5, h6, h7⟩, hb'⟩
    exact ⟨⟨⟨(pre ++ val).toArray⟩, p, pre.length⟩, rfl, hb', pre, rfl, rfl, h5, h6, h7⟩
  · obtain ⟨pre, e1, e2, h5, h6, h7⟩ := hr
    refine hk x wc w' bs' pre h1 h2 h3 h4 ⟨pre, x.p, by rw [e1, e2], ?_, h7⟩ e1
    obtain ⟨g1, y, g2⟩ := h5
    exact ⟨g1, y, fun i v hi => (cell_since _ _ _ _).2 ⟨by rw [add_block]; exact h6, g2 i v hi⟩⟩

theorem address_cc (A : Option Addr) (n c : Nat) (l : List Comp) (B : Nat) (w : World) (h : CompsAt w B A n l) (hB : B ≤ w.heap.size) (hn : (n : Int) < 2 ^ 40) (hc : ∀ x ∈ l, x.code ∈ table) (hv : ∀ x ∈ l, (x.val.length : Int) < 2 ^ 46) :
    Calls Tryz.prog 23 #[.slice A n c] w (Ret (AddrQc l w) w) := by
  have hl := h.1
  refine funF (hk := hkLA 19) (n := 1000) (args := [.xs A n c]) ⟨trivial, trivial⟩ ?_
  rw [t23]
  refine loopA (Fine.start _ _) 74 3 LA (α := Nat) (fun i => [.xs A n c, .int .i64 n false, .int .i64 i false]) (fun i => n - i)
    (fun w0 i A' Ls w1 => i ≤ n ∧ Row (MaR (vis w0 A' w1) w1.heap.size) (l.take i) Ls)
    (fun w0 e lv w' => e = .exit 0 ∧ ∃ A' k c', lv = [.slice A' k c'] ∧ MasAt (since w0 w') w'.heap.size A' k l ∧ k ≤ c')
    (fun _ => hk23) 1000 (by simp) (by simp [LA]) (by simp [LA]) (fun _ => ⟨trivial, trivial, trivial, trivial⟩) rfl rfl rfl (by simp) (by simp) (fun _ => ⟨trivial, trivial⟩) (fun _ => trivial) ?_ ?_ ?_ ?_
  · rintro w0 i w1 g hbw0 ⟨hi, hrow⟩ hb0 hbw
    refine holds_eq (n23 A n c i w1 g) ?_
    have hkf : KFine [] w1 (SS.mk [] [] true w1 []) := ⟨rfl, Keep.refl _ _, by simp⟩
    refine splitT (fun hlt => ?_) (fun hge => leafK hkf fun β w' hst hk => ⟨⟨rfl, none, 0, 0, rfl, ?_⟩, hk.below hb0 (Nat.le_refl _) (by simp)⟩)
    · have hlt' : i < n := by simpa using hlt
      have hB1 : B ≤ w1.heap.size := Nat.le_trans hB hbw.size
      have hA1 := h.below (hbw.mono hB) (Nat.le_refl _)
      obtain ⟨ad, x, rfl, had, hx, hR⟩ := hA1.get hlt'
      have hxm := List.mem_of_getElem? hx
      obtain ⟨f1, f2, f3⟩ := hR.facts
      refine needT (by omega) (needT rfl (needT (hR.canRead hB1 (by simp)) ?_))
      have e1 : intAt w1 ((((some ad).getD default).add ((i : Int).toNat * 2)).add 0) = x.code := f1
      rw [e1]
      refine mvCall (val := x.val) (B := B) (bs := []) ⟨rfl, Keep.refl _ _, by simp⟩ rfl (hc x hxm) ?_ (fun wc hk => ⟨Nat.le_trans hB1 hk.size, f2.below (hk.belowB hB1 (by simp)) (Nat.le_refl _)⟩) fun m wc w2 bs' pre hk1 hb2 hk2 hbs' hnew _ => ?_
      · have := f2.1
        have := hv x hxm
        exact_mod_cast (by omega : ((slN w1 ((ad.add (i * 2)).add 1) : Nat) : Int) < 2 ^ 46)
      refine needT (by omega) (needT (by decide) (chooseT ?_))
      rintro c1 ⟨t, rfl⟩
      refine leafK ⟨rfl, hk2, fun b hb => (hbs' b hb).1⟩ fun β' w' hst hk => ?_
      obtain ⟨g1, g2, g3, g4⟩ := accNext (R := MaR) MaR.sub hx hrow hnew hst rfl rfl hbs' (by simp) hb0 hk hk1.size hb2.size 2 (by simp [SS.n])
      obtain ⟨rest, e2, e3⟩ := hst.at_ 2 _ rfl
      refine ⟨i + 1, some ⟨β' 2, 0, none⟩, 1, _, _, by show n - (i + 1) < n - i; omega, ?_, .inr ⟨β' 2, rfl, g2, g3, rfl, cut_append, rest, e2, e3⟩, ⟨by omega, g1⟩, g4⟩
      rw [next_i hlt' (by omega)]
      rfl
    · have hin : i = n := by
        have : ¬ i < n := by simpa using hge
        omega
      have hle := hrow.len fun x vs => MaR.len x vs
      rw [List.length_take] at hle
      simp only [List.length_nil] at hle
      have hl0 : l = [] := List.eq_nil_of_length_eq_zero (by omega)
      subst hl0
      exact ⟨⟨rfl, fun h => absurd h (Nat.lt_irrefl 0)⟩, Nat.le_refl _⟩
  · rintro w0 i w1 g b kk cc Ls hbw0 ⟨hi, hrow⟩ hb0 hbw hb1 hb2 hLs hkc
    refine holds_eq (r23 A n c i kk cc Ls w1 [b] g) ?_
    have hBb : ∀ b' ∈ [b], B ≤ b' := fun b' hb' => by
      have := hbw0.size
      simp at hb'
      omega
    have hA0 : ∀ b' ∈ [b], ∃ a, (some (⟨b, 0, none⟩ : Addr)) = some a ∧ a.block = b' ∧ w0.heap.size ≤ b' := fun b' hb' => by
      simp at hb'
      subst hb'
      exact ⟨_, rfl, rfl, hb1⟩
    have hkn : kk ≤ i := by
      have := hrow.len fun x vs => MaR.len x vs
      simp at this
      omega
    refine splitT (fun hlt => ?_) (fun hge => leafK ⟨rfl, Keep.refl _ _, fun b hb => .inl hb⟩ fun β' w' hst hk => ⟨⟨rfl, _, kk, cc, rfl, ?_⟩, hk.below hb0 (Nat.le_refl _) (by simpa using hb1)⟩)
    · have hlt' : i < n := by simpa using hlt
      have hB1 : B ≤ w1.heap.size := Nat.le_trans hB hbw.size
      have hA1 := h.below (hbw.mono hB) (Nat.le_refl _)
      obtain ⟨ad, x, rfl, had, hx, hR⟩ := hA1.get hlt'
      have hxm := List.mem_of_getElem? hx
      obtain ⟨f1, f2, f3⟩ := hR.facts
      refine needT (by omega) (needT rfl (needT (hR.canRead hB1 hBb) ?_))
      have e1 : intAt w1 ((((some ad).getD default).add ((i : Int).toNat * 2)).add 0) = x.code := f1
      rw [e1]
      refine mvCall (val := x.val) (B := B) (bs := [b]) ⟨rfl, Keep.refl _ _, fun b hb => .inl hb⟩ rfl (hc x hxm) ?_ (fun wc hk => ⟨Nat.le_trans hB1 hk.size, f2.below (hk.belowB hB1 hBb) (Nat.le_refl _)⟩) fun m wc w2 bs' pre hk1 hb2 hk2 hbs' hnew _ => ?_
      · have := f2.1
        have := hv x hxm
        exact_mod_cast (by omega : ((slN w1 ((ad.add (i * 2)).add 1) : Nat) : Int) < 2 ^ 46)
      refine splitD (fun hcap => needT ?_ ?_) (fun hcap => needT ?_ (chooseT ?_))
      · exact ⟨by omega, by simp [denL]; omega, by simp [thawed]⟩
      · refine leafK ⟨rfl, hk2, fun b hb => (hbs' b hb).1⟩ fun β' w' hst hk => ?_
        obtain ⟨g1, g2, g3, g4⟩ := accNext (R := MaR) MaR.sub hx hrow hnew hst rfl rfl hbs' hA0 hb0 hk hk1.size hb2.size 0 (by simp [SS.n])
        obtain ⟨rest, e2, e3⟩ := hst.at_ 0 _ rfl
        refine ⟨i + 1, some ⟨β' 0, 0, none⟩, kk + 1, cc, _, by show n - (i + 1) < n - i; omega, ?_, .inr ⟨β' 0, rfl, g2, g3, by simp [hLs, denL]; omega, hcap, rest, e2, e3⟩, ⟨by omega, g1⟩, g4⟩
        rw [next_i hlt' (by omega)]
        rfl
      · have := nextslicecap_le (show cc < kk + 1 by omega)
        exact ⟨by omega, by omega, by rw [i64max]; omega⟩
      · rintro c1 ⟨t, rfl⟩
        refine leafK ⟨rfl, hk2, fun b hb => (hbs' b hb).1⟩ fun β' w' hst hk => ?_
        obtain ⟨g1, g2, g3, g4⟩ := accNext (R := MaR) MaR.sub hx hrow hnew hst rfl rfl hbs' hA0 hb0 hk hk1.size hb2.size 3 (by simp [SS.n])
        obtain ⟨rest, e2, e3⟩ := hst.at_ 3 _ rfl
        rw [List.drop_zero, List.take_of_length_le (by omega)] at e2 e3
        refine ⟨i + 1, some ⟨β' 3, 0, none⟩, kk + 1, _, _, by show n - (i + 1) < n - i; omega, ?_, .inr ⟨β' 3, rfl, g2, g3, by simp [hLs, denL]; omega, cut_append, rest, e2, e3⟩, ⟨by omega, g1⟩, g4⟩
        rw [next_i hlt' (by omega)]
        rfl
    · have hin : i = n := by
        have : ¬ i < n := by simpa using hge
        omega
      rw [List.take_of_length_le (by omega)] at hrow
      obtain ⟨rest, e2, e3⟩ := hst.at_ 0 _ rfl
      have hb0' : β' 0 = b := hst.base 0 (by show 0 < 1; omega)
      have hacc : AccAt w0 w' 74 3 (some ⟨β' 0, 0, none⟩) kk cc Ls := .inr ⟨β' 0, rfl, by omega, hst.lt 0 (by simp [SS.n]), hLs, hkc, rest, e2, e3⟩
      have hrow' : Row (MaR (since w0 w') w'.heap.size) l Ls := hrow.imp fun x vs hx => MaR.sub _ _ _ _ _ _ (vis_since _ _ _ _) (Nat.le_refl _) (MaR.sub _ _ _ _ _ _ (vis_keep (A' := some ⟨b, 0, none⟩) hk (fun b' hb' => by
        obtain ⟨a, h1, h2, _⟩ := hA0 b' hb'
        exact ⟨a, h1, h2⟩) fun a' ha' => by cases ha'; exact .inl (by simp)) hk.size hx)
      exact ⟨seq_of_row (S := fun b => w0.heap.size ≤ b) hacc hrow' (fun x vs => MaR.len x vs) (by omega) (fun a ha => by cases ha; show w0.heap.size ≤ β' 0; omega), hkc⟩
  · intro β w0 hst hb
    exact ⟨0, rfl, Nat.zero_le _, .nil⟩
  · rintro β w0 hst hb e lv w' ⟨rfl, A', k, c', rfl, hmas, hcap⟩ hb0 hb1
    refine .inl ⟨⟨A', k, c'⟩, rfl, rfl, fun g bs hbs => retF (Fine.mk' hb1 fun b hb => (hbs b hb).1) fun β w2 hst2 hb2 => ⟨A', k, c', rfl, hmas.sub (since_old (hst2.old rfl) rfl (fun b hb => (hbs b hb).2) hb.size) (hst2.old rfl).sz, hcap⟩⟩

theorem address_c (A : Option Addr) (n c : Nat) (l : List Comp) (B : Nat) (w : World) (h : CompsAt w B A n l) (hB : B ≤ w.heap.size) (hn : (n : Int) < 2 ^ 40) (hc : ∀ x ∈ l, x.code ∈ table) (hv : ∀ x ∈ l, (x.val.length : Int) < 2 ^ 46) :
    Calls Tryz.prog 23 #[.slice A n c] w (Ret (AddrQ l w) w) :=
  (address_cc A n c l B w h hB hn hc hv).mono fun _ _ ⟨v, he, ⟨A, k, c, hv, hm, _⟩, hb⟩ => ⟨v, he, ⟨A, k, c, hv, hm⟩, hb⟩

end Go.Proofs.YtdmnoagahjbjhaaGreatDoor
