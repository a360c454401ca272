/- ToIP, NetToIP. -/
import Derived.Test.YtdmnoagahjbjhaaGreatDoorM14
set_option linter.unusedVariables false
set_option linter.unusedSimpArgs false
set_option maxRecDepth 20000
namespace Go.Proofs.YtdmnoagahjbjhaaGreatDoor
open Go Go.Rx Go.RowKit
def L31 : SE → List Nat
  | .normal => [7, 8, 9]
  | .ret => [2, 3]
  | _ => []
def lh31 : LoopHook := mkHook 25 UV .ret [2, 3] (fun x => [.xs x.A x.k x.c, .one .nilIface rfl]) Unit (.exit 0) [] (fun _ => [])
def hk31 : Hooks := { calls := fun _ => none, loops := fun _ _ => some lh31 }
set_option maxRecDepth 100000 in
theorem t31 (A : Option Addr) (n c : Nat) (w : World) : xFunc Tryz.prog hk31 1000 31 [.xs A n c] (SS.mk [] [] true w []) =
  (.loop 31 (loopOf Tryz.prog 31 4) ([(.xs A n c), (.tup []), (.one (.slice none 0 0) rfl), (.one .nilIface rfl), (.one (.slice none 0 0) rfl), (.tup []), (.tup []), (.xs A n c), (.int .i64 ((↑n : Int)) false), (.int .i64 0 true)] ++ List.replicate 15 undefS) (SS.mk [] [] true w []) (LoopHook.X (lh31)) (LoopHook.out (lh31) ([(.xs A n c), (.tup []), (.one (.slice none 0 0) rfl), (.one .nilIface rfl), (.one (.slice none 0 0) rfl), (.tup []), (.tup []), (.xs A n c), (.int .i64 ((↑n : Int)) false), (.int .i64 0 true)] ++ List.replicate 15 undefS) (SS.mk [] [] true w [])) (fun x0 w0 b0 =>
   (.leaf .ret [(.tup [(.xs x0.fst.A x0.fst.k x0.fst.c), (.one .nilIface rfl)])] (SS.mk [] [] true w0 b0)))
  (LoopHook.Y (lh31)) (LoopHook.out' (lh31) ([(.xs A n c), (.tup []), (.one (.slice none 0 0) rfl), (.one .nilIface rfl), (.one (.slice none 0 0) rfl), (.tup []), (.tup []), (.xs A n c), (.int .i64 ((↑n : Int)) false), (.int .i64 0 true)] ++ List.replicate 15 undefS) (SS.mk [] [] true w [])) (fun x0 w0 b0 =>
   (.bad "load: no address"))) := by kernel_rfl
set_option maxRecDepth 100000 in
theorem r31 (A : Option Addr) (n c : Nat) (w : World) (g : Nat → Value) : xCode Tryz.prog noHk 1000 31 (loopOf Tryz.prog 31 4) (mkFrame ((L31 .normal).zip [.xs A n c, .int .i64 n false, .int .i64 0 false]) g 25 0) (fun e a s => .leaf e (sel L31 e a) s) (SS.mk [] [] true w []) =
  (.split (decide ((0 : Int) < (↑n : Int)))
   (.need ((0 : Int) ≤ (0 : Int) ∧ (0 : Int) < (↑n : Int))
   (.need (A.isSome = true)
   (.need (canRead w [] ((A.getD default).add (0 : Nat)) [SV.str (strAt w (((A.getD default).add (0 : Nat)).add (0 : Nat))) false, SV.xp (ptrAt w (((A.getD default).add (0 : Nat)).add (1 : Nat))), SV.int IntKind.i64 (intAt w (((A.getD default).add (0 : Nat)).add (2 : Nat))) false])
   (.need (canRead w [] (ptrAt w (((A.getD default).add (0 : Nat)).add (1 : Nat))) [SV.str (strAt w ((ptrAt w (((A.getD default).add (0 : Nat)).add (1 : Nat))).add (0 : Nat))) false, SV.int IntKind.i64 (intAt w ((ptrAt w (((A.getD default).add (0 : Nat)).add (1 : Nat))).add (1 : Nat))) false, SV.xs (slA w ((ptrAt w (((A.getD default).add (0 : Nat)).add (1 : Nat))).add (2 : Nat))) (slN w ((ptrAt w (((A.getD default).add (0 : Nat)).add (1 : Nat))).add (2 : Nat))) (slC w ((ptrAt w (((A.getD default).add (0 : Nat)).add (1 : Nat))).add (2 : Nat))), SV.int IntKind.i64 (intAt w ((ptrAt w (((A.getD default).add (0 : Nat)).add (1 : Nat))).add (3 : Nat))) false, SV.bool (boolAt w ((ptrAt w (((A.getD default).add (0 : Nat)).add (1 : Nat))).add (4 : Nat))) false, SV.one (oneAt w ((ptrAt w (((A.getD default).add (0 : Nat)).add (1 : Nat))).add (5 : Nat))).val (extOne._proof_1 ((((SS.mk [] [] true w []).new (SObj.cells (SV.agg (List.map SV.cellOf #[Value.string (ByteArray.mk #[]), Value.pointer none, Value.int IntKind.i64 (0 : Int)].toList)).cells (SV.agg (List.map SV.cellOf #[Value.string (ByteArray.mk #[]), Value.pointer none, Value.int IntKind.i64 (0 : Int)].toList)).cells.length (74 : Nat) (0 : Nat) (0 : Nat))).set (SS.mk [] [] true w []).n (SObj.cells [SV.str (strAt (SS.mk [] [] true w []).w0 (((A.getD default).add (Int.toNat (0 : Int) * Tryz.prog.types[(74 : Nat)].size)).add (0 : Nat))) false, SV.xp (ptrAt (SS.mk [] [] true w []).w0 (((A.getD default).add (Int.toNat (0 : Int) * Tryz.prog.types[(74 : Nat)].size)).add ((0 : Nat) + (1 : Nat)))), SV.int IntKind.i64 (intAt (SS.mk [] [] true w []).w0 (((A.getD default).add (Int.toNat (0 : Int) * Tryz.prog.types[(74 : Nat)].size)).add ((0 : Nat) + (1 : Nat) + (1 : Nat)))) false] (SV.agg (List.map SV.cellOf #[Value.string (ByteArray.mk #[]), Value.pointer none, Value.int IntKind.i64 (0 : Int)].toList)).cells.length (74 : Nat) (0 : Nat) (0 : Nat))).new (SObj.cells (SV.agg (List.map SV.cellOf #[Value.string (ByteArray.mk #[]), Value.int IntKind.i64 (0 : Int), Value.slice none (0 : Nat) (0 : Nat), Value.int IntKind.i64 (0 : Int), Value.bool false, Value.nilIface].toList)).cells (SV.agg (List.map SV.cellOf #[Value.string (ByteArray.mk #[]), Value.int IntKind.i64 (0 : Int), Value.slice none (0 : Nat) (0 : Nat), Value.int IntKind.i64 (0 : Int), Value.bool false, Value.nilIface].toList)).cells.length (71 : Nat) (0 : Nat) (0 : Nat))).w0 ((ptrAt (SS.mk [] [] true w []).w0 (((A.getD default).add (Int.toNat (0 : Int) * Tryz.prog.types[(74 : Nat)].size)).add ((0 : Nat) + (1 : Nat)))).add ((0 : Nat) + (1 : Nat) + (1 : Nat) + (1 : Nat) + (1 : Nat) + (1 : Nat))))])
   (.split (intAt w ((ptrAt w (((A.getD default).add (0 : Nat)).add (1 : Nat))).add (1 : Nat)) == (42 : Int))
    (.leaf .normal [(.xs A n c), (.int .i64 ((↑n : Int)) false), (.int .i64 1 false)] (SS.mk [(.cells [(.str (strAt w (((A.getD default).add (0 : Nat)).add (0 : Nat))) false), (.xp (ptrAt w (((A.getD default).add (0 : Nat)).add (1 : Nat)))), (.int .i64 (intAt w (((A.getD default).add (0 : Nat)).add (2 : Nat))) false)] 3 74 0 0), (.cells [(.str (strAt w ((ptrAt w (((A.getD default).add (0 : Nat)).add (1 : Nat))).add (0 : Nat))) false), (.int .i64 (intAt w ((ptrAt w (((A.getD default).add (0 : Nat)).add (1 : Nat))).add (1 : Nat))) false), (.xs (slA w ((ptrAt w (((A.getD default).add (0 : Nat)).add (1 : Nat))).add (2 : Nat))) (slN w ((ptrAt w (((A.getD default).add (0 : Nat)).add (1 : Nat))).add (2 : Nat))) (slC w ((ptrAt w (((A.getD default).add (0 : Nat)).add (1 : Nat))).add (2 : Nat)))), (.int .i64 (intAt w ((ptrAt w (((A.getD default).add (0 : Nat)).add (1 : Nat))).add (3 : Nat))) false), (.bool (boolAt w ((ptrAt w (((A.getD default).add (0 : Nat)).add (1 : Nat))).add (4 : Nat))) false), (.one (oneAt w ((ptrAt w (((A.getD default).add (0 : Nat)).add (1 : Nat))).add (5 : Nat))).1 (oneAt w ((ptrAt w (((A.getD default).add (0 : Nat)).add (1 : Nat))).add (5 : Nat))).2)] 6 71 0 0)] [] true w []))
    (.split (intAt w ((ptrAt w (((A.getD default).add (0 : Nat)).add (1 : Nat))).add (1 : Nat)) == (41 : Int))
     (.need ((0 : Int) ≤ intAt w (((A.getD default).add (0 : Nat)).add (2 : Nat)) ∧ intAt w (((A.getD default).add (0 : Nat)).add (2 : Nat)) ≤ (↑(strAt w (((A.getD default).add (0 : Nat)).add (0 : Nat))).size : Int))
     (.choose (.appendCap (((strAt w (((A.getD default).add (0 : Nat)).add (0 : Nat))).extract (intAt w (((A.getD default).add (0 : Nat)).add (2 : Nat))).toNat (strAt w (((A.getD default).add (0 : Nat)).add (0 : Nat))).size).size) 0 5) fun c0 =>
     (.leaf .ret [(.slc 2 0 (((strAt w (((A.getD default).add (0 : Nat)).add (0 : Nat))).extract (intAt w (((A.getD default).add (0 : Nat)).add (2 : Nat))).toNat (strAt w (((A.getD default).add (0 : Nat)).add (0 : Nat))).size).size) c0 false false), (.one .nilIface rfl)] (SS.mk [(.cells [(.str (strAt w (((A.getD default).add (0 : Nat)).add (0 : Nat))) false), (.xp (ptrAt w (((A.getD default).add (0 : Nat)).add (1 : Nat)))), (.int .i64 (intAt w (((A.getD default).add (0 : Nat)).add (2 : Nat))) false)] 3 74 0 0), (.cells [(.str (strAt w ((ptrAt w (((A.getD default).add (0 : Nat)).add (1 : Nat))).add (0 : Nat))) false), (.int .i64 (intAt w ((ptrAt w (((A.getD default).add (0 : Nat)).add (1 : Nat))).add (1 : Nat))) false), (.xs (slA w ((ptrAt w (((A.getD default).add (0 : Nat)).add (1 : Nat))).add (2 : Nat))) (slN w ((ptrAt w (((A.getD default).add (0 : Nat)).add (1 : Nat))).add (2 : Nat))) (slC w ((ptrAt w (((A.getD default).add (0 : Nat)).add (1 : Nat))).add (2 : Nat)))), (.int .i64 (intAt w ((ptrAt w (((A.getD default).add (0 : Nat)).add (1 : Nat))).add (3 : Nat))) false), (.bool (boolAt w ((ptrAt w (((A.getD default).add (0 : Nat)).add (1 : Nat))).add (4 : Nat))) false), (.one (oneAt w ((ptrAt w (((A.getD default).add (0 : Nat)).add (1 : Nat))).add (5 : Nat))).1 (oneAt w ((ptrAt w (((A.getD default).add (0 : Nat)).add (1 : Nat))).add (5 : Nat))).2)] 6 71 0 0), (.ints .u8 (List.map (fun b => (↑b.toNat : Int)) (#[].extract (0 : Nat) (0 : Nat) ++ (strAt w (((A.getD default).add (0 : Nat)).add (0 : Nat))).data.extract (intAt w (((A.getD default).add (0 : Nat)).add (2 : Nat))).toNat ((intAt w (((A.getD default).add (0 : Nat)).add (2 : Nat))).toNat + ((strAt w (((A.getD default).add (0 : Nat)).add (0 : Nat))).size - (intAt w (((A.getD default).add (0 : Nat)).add (2 : Nat))).toNat)) ++ #[].extract ((0 : Nat) + min ((strAt w (((A.getD default).add (0 : Nat)).add (0 : Nat))).size - (intAt w (((A.getD default).add (0 : Nat)).add (2 : Nat))).toNat) ((strAt w (((A.getD default).add (0 : Nat)).add (0 : Nat))).data.size - (intAt w (((A.getD default).add (0 : Nat)).add (2 : Nat))).toNat)) (0 : Nat)).toList ++ List.replicate (c0 - ((strAt w (((A.getD default).add (0 : Nat)).add (0 : Nat))).extract (intAt w (((A.getD default).add (0 : Nat)).add (2 : Nat))).toNat (strAt w (((A.getD default).add (0 : Nat)).add (0 : Nat))).size).size) (0 : Int)) 5 c0 (c0 + (1 : Nat)))] [] true w []))))
     (.split (intAt w ((ptrAt w (((A.getD default).add (0 : Nat)).add (1 : Nat))).add (1 : Nat)) == (4 : Int))
      (.need ((0 : Int) ≤ intAt w (((A.getD default).add (0 : Nat)).add (2 : Nat)) ∧ intAt w (((A.getD default).add (0 : Nat)).add (2 : Nat)) ≤ (↑(strAt w (((A.getD default).add (0 : Nat)).add (0 : Nat))).size : Int))
      (.choose (.appendCap (((strAt w (((A.getD default).add (0 : Nat)).add (0 : Nat))).extract (intAt w (((A.getD default).add (0 : Nat)).add (2 : Nat))).toNat (strAt w (((A.getD default).add (0 : Nat)).add (0 : Nat))).size).size) 0 5) fun c0 =>
      (.leaf .ret [(.slc 2 0 (((strAt w (((A.getD default).add (0 : Nat)).add (0 : Nat))).extract (intAt w (((A.getD default).add (0 : Nat)).add (2 : Nat))).toNat (strAt w (((A.getD default).add (0 : Nat)).add (0 : Nat))).size).size) c0 false false), (.one .nilIface rfl)] (SS.mk [(.cells [(.str (strAt w (((A.getD default).add (0 : Nat)).add (0 : Nat))) false), (.xp (ptrAt w (((A.getD default).add (0 : Nat)).add (1 : Nat)))), (.int .i64 (intAt w (((A.getD default).add (0 : Nat)).add (2 : Nat))) false)] 3 74 0 0), (.cells [(.str (strAt w ((ptrAt w (((A.getD default).add (0 : Nat)).add (1 : Nat))).add (0 : Nat))) false), (.int .i64 (intAt w ((ptrAt w (((A.getD default).add (0 : Nat)).add (1 : Nat))).add (1 : Nat))) false), (.xs (slA w ((ptrAt w (((A.getD default).add (0 : Nat)).add (1 : Nat))).add (2 : Nat))) (slN w ((ptrAt w (((A.getD default).add (0 : Nat)).add (1 : Nat))).add (2 : Nat))) (slC w ((ptrAt w (((A.getD default).add (0 : Nat)).add (1 : Nat))).add (2 : Nat)))), (.int .i64 (intAt w ((ptrAt w (((A.getD default).add (0 : Nat)).add (1 : Nat))).add (3 : Nat))) false), (.bool (boolAt w ((ptrAt w (((A.getD default).add (0 : Nat)).add (1 : Nat))).add (4 : Nat))) false), (.one (oneAt w ((ptrAt w (((A.getD default).add (0 : Nat)).add (1 : Nat))).add (5 : Nat))).1 (oneAt w ((ptrAt w (((A.getD default).add (0 : Nat)).add (1 : Nat))).add (5 : Nat))).2)] 6 71 0 0), (.ints .u8 (List.map (fun b => (↑b.toNat : Int)) (#[].extract (0 : Nat) (0 : Nat) ++ (strAt w (((A.getD default).add (0 : Nat)).add (0 : Nat))).data.extract (intAt w (((A.getD default).add (0 : Nat)).add (2 : Nat))).toNat ((intAt w (((A.getD default).add (0 : Nat)).add (2 : Nat))).toNat + ((strAt w (((A.getD default).add (0 : Nat)).add (0 : Nat))).size - (intAt w (((A.getD default).add (0 : Nat)).add (2 : Nat))).toNat)) ++ #[].extract ((0 : Nat) + min ((strAt w (((A.getD default).add (0 : Nat)).add (0 : Nat))).size - (intAt w (((A.getD default).add (0 : Nat)).add (2 : Nat))).toNat) ((strAt w (((A.getD default).add (0 : Nat)).add (0 : Nat))).data.size - (intAt w (((A.getD default).add (0 : Nat)).add (2 : Nat))).toNat)) (0 : Nat)).toList ++ List.replicate (c0 - ((strAt w (((A.getD default).add (0 : Nat)).add (0 : Nat))).extract (intAt w (((A.getD default).add (0 : Nat)).add (2 : Nat))).toNat (strAt w (((A.getD default).add (0 : Nat)).add (0 : Nat))).size).size) (0 : Int)) 5 c0 (c0 + (1 : Nat)))] [] true w []))))
      (.bad "load: no address"))))))))
   (.leaf (.exit 0) [] (SS.mk [] [] true w []))) := by kernel_rfl


theorem toIP_c (A : Option Addr) (n c : Nat) (x : Comp) (l : List Comp) (B : Nat) (w : World) (h : RowAt MaR 3 w B A n (x :: l)) (hx4 : x.code = 4) (hB : B ≤ w.heap.size) :
    Calls Tryz.prog 31 #[.slice A n c] w (Ret (fun v w' => ∃ A k c, v = .tuple #[.slice A k c, .nilIface] ∧ Bts (Rx.since w w') w'.heap.size A k x.val) w) := by
  have hl := h.1
  simp only [List.length_cons] at hl
  refine funF (hk := hk31) (n := 1000) (args := [.xs A n c]) ⟨trivial, trivial⟩ ?_
  refine holds_eq (t31 A n c w) ?_
  refine loopG (Fine.start _ _) L31 (α := Unit) (fun _ => [.xs A n c, .int .i64 n false, .int .i64 0 false]) (fun _ => 0) (fun _ _ _ => True)
    (fun w0 e lv w' => e = .ret ∧ ∃ A' k c', lv = [.slice A' k c', .nilIface] ∧ Bts (Rx.since w0 w') w'.heap.size A' k x.val) (fun _ => noHk) 1000 (by simp) (by simp [L31]) (by simp [L31]) (fun _ => ⟨trivial, trivial, trivial, trivial⟩) rfl rfl rfl
    (by simp) (by simp) (fun _ => ⟨trivial, trivial, trivial⟩) (fun _ => trivial) ?_ ?_ ?_
  · rintro w0 _ w1 g hbw0 _ hb0 hbw
    refine holds_eq (r31 A n c w1 g) (splitD (fun hlt => ?_) (fun hge => absurd (by omega) hge))
    have hB1 : B ≤ w1.heap.size := Nat.le_trans hB hbw.size
    obtain ⟨ad, x', rfl, had, hx, hR⟩ := (h.sub MaR.lasts (Below.sub (hbw.mono hB)) (Nat.le_refl _)).get (i := 0) (by omega)
    simp at hx
    subst hx
    simp only [Nat.zero_mul] at hR
    obtain ⟨r1, pr, p, r2, r3, r4⟩ := maRead hR hB1 (pre := []) (by simp)
    have e0 : strAt w1 ((((some ad).getD default).add 0).add 0) = ⟨(pr ++ x.val).toArray⟩ := by
      have := congrArg (fun l => l[0]?) r2
      simpa using this
    have ep : ptrAt w1 ((((some ad).getD default).add 0).add 1) = p := by
      have := congrArg (fun l => l[1]?) r2
      simpa using this
    have e2 : intAt w1 ((((some ad).getD default).add 0).add 2) = (pr.length : Int) := by
      have := congrArg (fun l => l[2]?) r2
      simpa using this
    rw [← ep] at r3
    obtain ⟨q1, q2⟩ := protRead' (pre := []) r3 hB1 (by simp) (oneAt w1 _).2
    rw [hx4] at q2
    refine needT (by omega) (needT rfl (needT r1 (needT q1 ?_)))
    refine splitT (fun h42 => by rw [q2] at h42; cases h42) (fun _ => splitT (fun h41 => by rw [q2] at h41; cases h41) (fun _ => splitT (fun _ => ?_) (fun h4 => by rw [q2] at h4; cases h4)))
    refine needT ?_ (chooseT ?_)
    · rw [e0, e2]
      exact ⟨by omega, by simp [ByteArray.size]; omega⟩
    rintro cc ⟨t, hcc⟩
    refine exitF (Fine.nil hb0) (by simp) fun β w' hst hb => ⟨rfl, ?_⟩
    have o := hst.old rfl
    have h0 := hst.at_ 2 _ rfl
    have hfr : Fresh w0 (some ⟨β 2, 0, none⟩) := fun a ha => by
      cases ha
      exact (Fine.nil hb0).new o 2 (by simp [SS.n])
    rw [e0, e2] at h0
    refine ⟨some ⟨β 2, 0, none⟩, x.val.length, cc, ?_, ?_⟩
    · simp only [SV.den, denL]
      rw [e0, e2]
      simp [ByteArray.size_extract, ByteArray.size]
    · have hL := bts_of_ints (k := x.val.length) h0 ?_ ?_ (hst.lt 2 (by simp [SS.n]))
      · refine Bts.since ?_ hfr
        refine cast ?_ hL
        congr 1
        simp [ByteArray.size, Function.comp_def]
      · intro v hv
        rcases List.mem_append.1 hv with h | h
        · obtain ⟨b, _, rfl⟩ := List.mem_map.1 h
          have := b.toNat_lt
          omega
        · have := List.eq_of_mem_replicate h
          omega
      · simp [ByteArray.size]
  · intro β w0 hst hb
    exact ⟨(), rfl, trivial⟩
  · rintro β w0 hst hb e lv w' ⟨rfl, A', k, c', rfl, hbt⟩ hb0 hb1
    refine .inl ⟨⟨A', k, c'⟩, rfl, rfl, fun g bs hbs => retF (Fine.mk' hb1 hbs) fun β w2 hst2 hb2 => ⟨A', k, c', rfl, ?_⟩⟩
    have o2 := hst2.old rfl
    refine Bts.sub hbt (fun a v hlt hx => ?_) o2.sz
    rw [cell_since] at hx ⊢
    have h3 := o2.fr a.block hlt (fun i hi => absurd hi (Nat.not_lt_zero i))
    refine ⟨Nat.le_trans hb.size hx.1, ?_⟩
    simp only [World.cell?, h3] at hx ⊢
    exact hx.2

end Go.Proofs.YtdmnoagahjbjhaaGreatDoor
