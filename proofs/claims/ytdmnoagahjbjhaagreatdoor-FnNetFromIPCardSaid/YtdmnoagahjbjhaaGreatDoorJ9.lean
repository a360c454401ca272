/- Joined texts: A hooked call that hands back new memory, which is tracked from then on; A hooked call that hands back new memory: which block it is; zzHex; Arguments: what their readings say of memory; Simple components, simple addresses: MaSimple, MaAddress, maSimple answer; what is simple has codes of the table; Addresses of the package: address; Lists of addresses, components of an address, lists of those; The protocols of an address; netAlive: the address that it asks about; Comparing: NetCodes, MaSame, MaAlike; AddrMatch; NetMatch; ToIP, NetToIP; NetToIP; NetIn, of the same four bytes; 'safe': what it calls is called; the deferred closure finds nothing to recover. -/
import Derived.Test.YtdmnoagahjbjhaaGreatDoorM24
import Derived.Test.YtdmnoagahjbjhaaGreatDoorJ2
import Derived.Test.YtdmnoagahjbjhaaGreatDoorM8
import Derived.Test.YtdmnoagahjbjhaaGreatDoorJ3
import Derived.Deep.Slices
import Derived.ChangeSame
import Derived.Test.YtdmnoagahjbjhaaGreatDoorChecked
import Derived.WalkKit
import Derived.Defers
import Derived.Recover
section
/- A hooked call that hands back new memory, which is tracked from then on. -/
set_option linter.unusedVariables false
set_option linter.unusedSimpArgs false
set_option maxRecDepth 20000
namespace Go.Proofs.YtdmnoagahjbjhaaGreatDoor
open Go Go.Rx Go.RowKit

@[reducible] def withNew (β : Nat → Nat) (n b : Nat) : Nat → Nat := fun i => if i = n then b else β i

theorem withNew_lt {β : Nat → Nat} {n b i : Nat} (h : i < n) : withNew β n b i = β i := by
  show (if i = n then b else β i) = β i
  rw [if_neg (by omega)]

theorem withNew_self {β : Nat → Nat} {n b : Nat} : withNew β n b n = b := by
  show (if n = n then b else β n) = b
  rw [if_pos rfl]

end Go.Proofs.YtdmnoagahjbjhaaGreatDoor
end

section
/- A hooked call that hands back new memory: which block it is. -/
set_option linter.unusedVariables false
set_option linter.unusedSimpArgs false
set_option maxRecDepth 20000
namespace Go.Proofs.YtdmnoagahjbjhaaGreatDoor
open Go Go.Rx Go.RowKit

theorem callNewB {Γ : Ctx} {s : SS} {w : World} {f : FuncId} {args : List SV} {X : Type} {o : X → SObj} {r : X → SV} {k : X → World → List Nat → T} {R : X → Nat → World → World → Prop} (hf : Fine w s) (hgl : s.gl = [])
    (hok : ∀ x, (o x).ok (s.n + 1) ∧ (r x).ok (s.n + 1))
    (hc : ∀ β w0, St Γ β s w0 → Below w.heap.size w w0 → Calls Γ.P f (denL β args).toArray w0 fun e w' => ∃ x b, e = .returned ((r x).den (withNew β s.n b)) ∧ Below w0.heap.size w0 w' ∧ w0.heap.size ≤ b ∧ b < w'.heap.size ∧ (o x).At (withNew β s.n b) w'.heap[b]? ∧ R x b w0 w')
    (hk : ∀ x b w0 w' bs, R x b w0 w' → w0.heap.size ≤ b → b < w'.heap.size → Below w.heap.size w w0 → Below w0.heap.size w0 w' → Below w.heap.size w w' → (∀ i ∈ bs, w.heap.size ≤ i ∧ (i = b ∨ i < w0.heap.size)) → (k x w' bs).holds Γ) :
    (T.call f args s X (fun x => (r x, s.objs ++ [o x])) k).holds Γ := by
  intro β w0 hs hargs
  have od := hs.old hf.ext
  have hbw := od.belowB hf.below (Nat.le_refl _) hf.pre
  refine (hc β w0 hs hbw).mono ?_
  rintro e w' ⟨x, b, rfl, hb, hb1, hb2, hat, hr⟩
  obtain ⟨ho, hv⟩ := hok x
  have hbs := blocks_ge od hf.below (Nat.le_refl _) hf.pre
  have hag : ∀ i, i < s.n → withNew β s.n b i = β i := fun i hi => withNew_lt hi
  have hn : (reS s (s.objs ++ [o x]) w' (blocks (withNew β s.n b) (s.n + 1))).n = s.n + 1 := by
    show (s.objs ++ [o x]).length = _
    simp [SS.n]
  have hlt : ∀ i, i < s.n → β i < w0.heap.size := hs.lt
  have hnewat : (s.objs ++ [o x])[s.n]? = some (o x) := by
    show (s.objs ++ [o x])[s.objs.length]? = _
    simp
  have hz := hb.size
  refine ⟨x, withNew β s.n b, blocks (withNew β s.n b) (s.n + 1), rfl, ⟨?_, ?_, ?_⟩, ?_, hk x b w0 w' _ hr hb1 hb2 hbw hb ?_ ?_⟩
  · exact { lt := fun i hi => by
              rw [hn] at hi
              rcases Nat.lt_or_ge i s.n with h | h
              · rw [hag i h]
                have := hlt i h
                omega
              · rw [show i = s.n by omega, withNew_self]
                exact hb2
            inj := fun i j hi hj he => by
              rw [hn] at hi hj
              rcases Nat.lt_or_ge i s.n with h | h <;> rcases Nat.lt_or_ge j s.n with h' | h'
              · rw [hag i h, hag j h'] at he
                exact hs.inj i j h h' he
              · rw [hag i h, show j = s.n by omega, withNew_self] at he
                have := hlt i h
                omega
              · rw [hag j h', show i = s.n by omega, withNew_self] at he
                have := hlt j h'
                omega
              · omega
            at_ := fun i u hu => by
              rcases Nat.lt_or_ge i s.n with h | h
              · have hu' : s.objs[i]? = some u := by
                  have : (s.objs ++ [o x])[i]? = some u := hu
                  rwa [List.getElem?_append_left h] at this
                rw [hag i h, hb.block _ (hlt i h)]
                exact SObj.At_agree hag (hs.ok i u hu') (hs.at_ i u hu')
              · have hu' : (s.objs ++ [o x])[i]? = some u := hu
                have hi : i = s.n := by
                  have := (List.getElem?_eq_some_iff.1 hu').1
                  simp [SS.n] at this h ⊢
                  omega
                subst hi
                rw [hnewat] at hu'
                cases hu'
                rw [withNew_self]
                exact hat
            ok := fun i u hu => by
              rw [hn]
              have hu' : (s.objs ++ [o x])[i]? = some u := hu
              rcases Nat.lt_or_ge i s.n with h | h
              · rw [List.getElem?_append_left h] at hu'
                exact SObj.ok_mono (Nat.le_succ _) (hs.ok i u hu')
              · have hi : i = s.n := by
                  have := (List.getElem?_eq_some_iff.1 hu').1
                  simp [SS.n] at this h ⊢
                  omega
                subst hi
                rw [hnewat] at hu'
                cases hu'
                exact ho
            gl := fun p hp => by rw [show (reS s (s.objs ++ [o x]) w' (blocks (withNew β s.n b) (s.n + 1))).gl = s.gl from rfl, hgl] at hp; simp at hp
            old := fun _ => { fr := fun _ _ _ => rfl, sz := Nat.le_refl _, tape := rfl, os := rfl, out := rfl,
                              pre := fun i b' hi => by
                                simp only [reS, blocks, List.getElem?_map] at hi
                                cases hr : (List.range (s.n + 1))[i]? with
                                | none => rw [hr] at hi; simp at hi
                                | some j =>
                                  rw [hr] at hi
                                  obtain ⟨hlt, he⟩ := List.getElem?_eq_some_iff.1 hr
                                  simp only [List.getElem_range] at he
                                  subst he
                                  simpa using hi
                              pren := by rw [hn]; simp [reS, blocks]
                              new := fun i hi hin => by rw [hn] at hin; simp [reS, blocks] at hi; omega }
            base := fun i hi => by
              have h0 := hs.n0
              rw [hag i (by omega)]
              exact hs.base i hi
            n0 := by rw [hn]; have := hs.n0; omega }
  · rw [hn]; omega
  · intro i hi
    exact hag i hi
  · show SV.ok (s.objs ++ [o x]).length (r x)
    have : (s.objs ++ [o x]).length = s.n + 1 := by simp [SS.n]
    rw [this]
    exact hv
  · exact hbw.trans (hb.mono hbw.size)
  · intro c hc'
    simp only [blocks, List.mem_map, List.mem_range] at hc'
    obtain ⟨i, hi, rfl⟩ := hc'
    rcases Nat.lt_or_ge i s.n with h | h
    · rw [hag i h]
      exact ⟨hbs _ (by simp only [blocks, List.mem_map, List.mem_range]; exact ⟨i, h, rfl⟩), .inr (hlt i h)⟩
    · rw [show i = s.n by omega, withNew_self]
      have := hbw.size
      exact ⟨by omega, .inl rfl⟩

end Go.Proofs.YtdmnoagahjbjhaaGreatDoor
end

section
/- zzHex. -/
set_option linter.unusedVariables false
set_option linter.unusedSimpArgs false
set_option maxRecDepth 20000
namespace Go.Proofs.YtdmnoagahjbjhaaGreatDoor
open Go Go.Rx Go.RowKit
structure HX where
  m : Nat
  s : ByteArray
  ok : Bool
def L91 : SE → List Nat
  | .normal => [0, 3, 4]
  | .exit 0 => [3]
  | _ => []
def lh91 : LoopHook := mkHook 19 ByteArray (.exit 0) [3] (fun s => [.str s false]) Unit .ret [] (fun _ => [])
def hk91 : Hooks := { calls := fun _ => none, loops := fun _ _ => some lh91 }
set_option maxRecDepth 100000 in
theorem t91 (n : Nat) (w : World) : xFunc Tryz.prog hk91 500 91 [.int .i64 n false] (SS.mk [] [] true w []) =
  (.loop 91 (loopOf Tryz.prog 91 4) ([(.int .i64 ((↑n : Int)) false), (.tup []), (.str (ByteArray.mk #[]) true), (.str (ByteArray.mk #[]) true), (.bool true true)] ++ List.replicate 14 undefS) (SS.mk [] [] true w []) (LoopHook.X (lh91)) (LoopHook.out (lh91) ([(.int .i64 ((↑n : Int)) false), (.tup []), (.str (ByteArray.mk #[]) true), (.str (ByteArray.mk #[]) true), (.bool true true)] ++ List.replicate 14 undefS) (SS.mk [] [] true w [])) (fun x0 w0 b0 =>
   (.leaf .ret [(.str x0.fst false)] (SS.mk [] [] true w0 b0)))
  (LoopHook.Y (lh91)) (LoopHook.out' (lh91) ([(.int .i64 ((↑n : Int)) false), (.tup []), (.str (ByteArray.mk #[]) true), (.str (ByteArray.mk #[]) true), (.bool true true)] ++ List.replicate 14 undefS) (SS.mk [] [] true w [])) (fun x0 w0 b0 =>
   (.leaf .ret [(.raw (x0.snd (2 : Nat)))] (SS.mk [] [] true w0 b0)))) := by kernel_rfl
set_option maxRecDepth 100000 in
theorem r91 (z : HX) (w : World) (g : Nat → Value) : xCode Tryz.prog noHk 1000 91 (loopOf Tryz.prog 91 4) (mkFrame ((L91 .normal).zip [.int .i64 z.m false, .str z.s false, .bool z.ok false]) g 19 0) (fun e a s => .leaf e (sel L91 e a) s) (SS.mk [] [] true w []) =
  (.split z.ok
   (.need ((0 : Int) ≤ IntKind.i64.wrap (IntKind.i64.wrap (↑(BitVec.ofInt (64 : Nat) (↑z.m : Int) &&& BitVec.ofInt (64 : Nat) (15 : Int)).toNat : Int) + (1 : Int)) ∧ IntKind.i64.wrap (IntKind.i64.wrap (↑(BitVec.ofInt (64 : Nat) (↑z.m : Int) &&& BitVec.ofInt (64 : Nat) (15 : Int)).toNat : Int) + (1 : Int)) ≤ (↑(16 : Nat) : Int))
   (.need ((0 : Int) ≤ IntKind.i64.wrap (↑(BitVec.ofInt (64 : Nat) (↑z.m : Int) &&& BitVec.ofInt (64 : Nat) (15 : Int)).toNat : Int) ∧ IntKind.i64.wrap (↑(BitVec.ofInt (64 : Nat) (↑z.m : Int) &&& BitVec.ofInt (64 : Nat) (15 : Int)).toNat : Int) ≤ (↑(IntKind.i64.wrap (IntKind.i64.wrap (↑(BitVec.ofInt (64 : Nat) (↑z.m : Int) &&& BitVec.ofInt (64 : Nat) (15 : Int)).toNat : Int) + (1 : Int))).toNat : Int))
   (.need ((↑(((ByteArray.mk #[(48 : UInt8), (49 : UInt8), (50 : UInt8), (51 : UInt8), (52 : UInt8), (53 : UInt8), (54 : UInt8), (55 : UInt8), (56 : UInt8), (57 : UInt8), (97 : UInt8), (98 : UInt8), (99 : UInt8), (100 : UInt8), (101 : UInt8), (102 : UInt8)]).extract (IntKind.i64.wrap (↑(BitVec.ofInt (64 : Nat) (↑z.m : Int) &&& BitVec.ofInt (64 : Nat) (15 : Int)).toNat : Int)).toNat (IntKind.i64.wrap (IntKind.i64.wrap (↑(BitVec.ofInt (64 : Nat) (↑z.m : Int) &&& BitVec.ofInt (64 : Nat) (15 : Int)).toNat : Int) + (1 : Int))).toNat).size + z.s.size) : Int) ≤ IntKind.i64.max)
   (.leaf .normal [(.int .i64 ((↑z.m : Int).fdiv ((2 : Int) ^ (4 : Nat))) false), (.str ((ByteArray.mk #[(48 : UInt8), (49 : UInt8), (50 : UInt8), (51 : UInt8), (52 : UInt8), (53 : UInt8), (54 : UInt8), (55 : UInt8), (56 : UInt8), (57 : UInt8), (97 : UInt8), (98 : UInt8), (99 : UInt8), (100 : UInt8), (101 : UInt8), (102 : UInt8)]).extract (IntKind.i64.wrap (↑(BitVec.ofInt (64 : Nat) (↑z.m : Int) &&& BitVec.ofInt (64 : Nat) (15 : Int)).toNat : Int)).toNat (IntKind.i64.wrap (IntKind.i64.wrap (↑(BitVec.ofInt (64 : Nat) (↑z.m : Int) &&& BitVec.ofInt (64 : Nat) (15 : Int)).toNat : Int) + (1 : Int))).toNat ++ z.s) false), (.bool (decide ((↑z.m : Int).fdiv ((2 : Int) ^ (4 : Nat)) > (0 : Int))) false)] (SS.mk [] [] true w [])))))
   (.leaf (.exit 0) [(.str z.s false)] (SS.mk [] [] true w []))) := by kernel_rfl

/-- A hexadecimal digit. -/
def hexd (d : Nat) : UInt8 := if d < 10 then UInt8.ofNat (48 + d) else UInt8.ofNat (87 + d)

/-- A number in hexadecimal digits. -/
def hexText (n : Nat) : List UInt8 := if h : n < 16 then [hexd n] else hexText (n / 16) ++ [hexd (n % 16)]
termination_by n
decreasing_by omega

theorem hexText_small {n : Nat} (h : n < 16) : hexText n = [hexd n] := by
  rw [hexText, dif_pos h]

theorem hexText_step {n : Nat} (h : ¬ n < 16) : hexText n = hexText (n / 16) ++ [hexd (n % 16)] := by
  rw [hexText, dif_neg h]

theorem hexText_len (n : Nat) : (hexText n).length ≤ n + 1 := by
  induction n using Nat.strongRecOn with
  | ind n ih =>
    by_cases h : n < 16
    · rw [hexText_small h]; simp
    · rw [hexText_step h]
      have := ih (n / 16) (by omega)
      simp
      omega

theorem and15 {m : Nat} (hm : m < 2 ^ 62) : (BitVec.ofInt 64 (m : Int) &&& BitVec.ofInt 64 (15 : Int)).toNat = m % 16 := by
  rw [BitVec.toNat_and]
  have e1 : (BitVec.ofInt 64 (m : Int)).toNat = m := by
    simp
    omega
  have e2 : (BitVec.ofInt 64 (15 : Int)).toNat = 2 ^ 4 - 1 := by decide
  rw [e1, e2, Nat.and_two_pow_sub_one_eq_mod]

theorem digitAt : ∀ d : Nat, d < 16 → ((ByteArray.mk #[(48 : UInt8), (49 : UInt8), (50 : UInt8), (51 : UInt8), (52 : UInt8), (53 : UInt8), (54 : UInt8), (55 : UInt8), (56 : UInt8), (57 : UInt8), (97 : UInt8), (98 : UInt8), (99 : UInt8), (100 : UInt8), (101 : UInt8), (102 : UInt8)]).extract d (d + 1)) = ⟨#[hexd d]⟩ := by
  intro d hd
  rcases (by omega : d = 0 ∨ d = 1 ∨ d = 2 ∨ d = 3 ∨ d = 4 ∨ d = 5 ∨ d = 6 ∨ d = 7 ∨ d = 8 ∨ d = 9 ∨ d = 10 ∨ d = 11 ∨ d = 12 ∨ d = 13 ∨ d = 14 ∨ d = 15) with rfl | rfl | rfl | rfl | rfl | rfl | rfl | rfl | rfl | rfl | rfl | rfl | rfl | rfl | rfl | rfl <;> rfl

theorem shr4 (m : Nat) : (m : Int).fdiv ((2 : Int) ^ 4) = ((m / 16 : Nat) : Int) := by
  rw [show ((2 : Int) ^ 4) = ((16 : Nat) : Int) from rfl]
  cases m <;> rfl

def hexI (n : Nat) (z : HX) : Prop := z.m < 2 ^ 62 ∧ z.s.size ≤ n + 1 ∧ ((z.ok = true ∧ hexText n = hexText z.m ++ z.s.data.toList) ∨ (z.ok = false ∧ z.s.data.toList = hexText n))

theorem hexNext {n : Nat} {z : HX} (hz : z.ok = true) (h : hexI n z) : hexI n ⟨z.m / 16, ⟨#[hexd (z.m % 16)]⟩ ++ z.s, decide (((z.m / 16 : Nat) : Int) > 0)⟩ := by
  obtain ⟨h1, h2, h3⟩ := h
  have h3 : hexText n = hexText z.m ++ z.s.data.toList := by
    rcases h3 with ⟨_, h⟩ | ⟨h, _⟩
    · exact h
    · rw [hz] at h; cases h
  have hd : ((⟨#[hexd (z.m % 16)]⟩ : ByteArray) ++ z.s).data.toList = hexd (z.m % 16) :: z.s.data.toList := by
    rw [ByteArray.data_append, Array.toList_append]
    rfl
  have hsz : ((⟨#[hexd (z.m % 16)]⟩ : ByteArray) ++ z.s).size = ((⟨#[hexd (z.m % 16)]⟩ : ByteArray) ++ z.s).data.toList.length := by
    rw [Array.length_toList]
    rfl
  have hlen := hexText_len n
  by_cases h16 : z.m < 16
  · rw [hexText_small h16] at h3
    have e : hexd (z.m % 16) = hexd z.m := by rw [Nat.mod_eq_of_lt h16]
    refine ⟨by show z.m / 16 < 2 ^ 62; omega, ?_, .inr ⟨?_, ?_⟩⟩
    · show ((⟨#[hexd (z.m % 16)]⟩ : ByteArray) ++ z.s).size ≤ n + 1
      rw [hsz, hd, e, ← List.singleton_append, ← h3]
      exact hlen
    · show decide (((z.m / 16 : Nat) : Int) > 0) = false
      simp
      omega
    · show ((⟨#[hexd (z.m % 16)]⟩ : ByteArray) ++ z.s).data.toList = hexText n
      rw [hd, e, ← List.singleton_append, ← h3]
  · rw [hexText_step h16, List.append_assoc, List.singleton_append] at h3
    refine ⟨by show z.m / 16 < 2 ^ 62; omega, ?_, .inl ⟨?_, ?_⟩⟩
    · show ((⟨#[hexd (z.m % 16)]⟩ : ByteArray) ++ z.s).size ≤ n + 1
      rw [hsz, hd]
      rw [h3, List.length_append] at hlen
      omega
    · show decide (((z.m / 16 : Nat) : Int) > 0) = true
      simp
      omega
    · show hexText n = hexText (z.m / 16) ++ ((⟨#[hexd (z.m % 16)]⟩ : ByteArray) ++ z.s).data.toList
      rw [hd, h3]

theorem zzHex_c (n : Nat) (hn : n < 2 ^ 60) (w : World) : Calls Tryz.prog 91 #[.int .i64 (n : Int)] w (Ret (fun v _ => v = .string ⟨(hexText n).toArray⟩) w) := by
  refine funF (hk := hk91) (n := 500) (args := [.int .i64 (n : Int) false]) ⟨trivial, trivial⟩ ?_
  refine holds_eq (t91 n w) ?_
  refine loopG (Fine.start _ _) L91 (α := HX) (fun z => [.int .i64 z.m false, .str z.s false, .bool z.ok false]) (fun z => 2 * z.m + (if z.ok then 1 else 0)) (fun _ z _ => hexI n z)
    (fun w0 e lv w' => e = .exit 0 ∧ lv = [.string ⟨(hexText n).toArray⟩]) (fun _ => noHk) 1000 (by simp) (by simp [L91]) (by simp [L91]) (fun _ => ⟨trivial, trivial, trivial, trivial⟩) rfl rfl rfl
    (by simp) (by simp) (fun _ => ⟨trivial, trivial⟩) (fun _ => trivial) ?_ ?_ ?_
  · rintro w0 z w1 g hbw0 hI hb0 hbw
    refine holds_eq (r91 z w1 g) (splitT (fun hz => ?_) (fun hz => exitF (Fine.nil hb0) (by simp) fun β w' _ _ => ⟨rfl, ?_⟩))
    · have hm := hI.1
      have hs := hI.2.1
      rw [and15 hm, wrapi (n := ((z.m % 16 : Nat) : Int)) (by omega) (by omega), wrapi (by omega) (by omega), shr4]
      rw [show ((z.m % 16 : Nat) : Int).toNat = z.m % 16 from rfl, show (((z.m % 16 : Nat) : Int) + 1).toNat = z.m % 16 + 1 from rfl, digitAt _ (Nat.mod_lt _ (by omega))]
      refine needT (by omega) (needT (by omega) (needT ?_ (nextF (Fine.nil hb0) fun β w' _ _ => ⟨_, ?_, rfl, hexNext hz hI⟩)))
      · rw [i64max]
        have : (ByteArray.mk #[hexd (z.m % 16)]).size = 1 := rfl
        rw [this]
        omega
      · show 2 * (z.m / 16) + (if decide (((z.m / 16 : Nat) : Int) > 0) = true then 1 else 0) < 2 * z.m + (if z.ok = true then 1 else 0)
        rw [if_pos hz]
        by_cases h0 : z.m / 16 = 0
        · rw [h0]; simp
        · split <;> omega
    · rcases hI.2.2 with ⟨h, _⟩ | ⟨_, h⟩
      · rw [hz] at h; cases h
      · simp only [denL, SV.den]
        rw [← h]
  · intro β w0 hst hb
    refine ⟨⟨n, ⟨#[]⟩, true⟩, rfl, ?_, ?_, .inl ⟨rfl, by simp⟩⟩
    · show n < 2 ^ 62; omega
    · show (⟨#[]⟩ : ByteArray).size ≤ n + 1
      simp [ByteArray.size]
  · rintro β w0 hst hb e lv w' ⟨rfl, rfl⟩ hb0 hb1
    exact .inl ⟨⟨(hexText n).toArray⟩, rfl, rfl, fun g bs hbs => retF (Fine.mk' hb1 hbs) fun β w' _ _ => rfl⟩

end Go.Proofs.YtdmnoagahjbjhaaGreatDoor
end

section
/- Arguments: what their readings say of memory. -/
set_option linter.unusedVariables false
set_option linter.unusedSimpArgs false
open Go.ChangeShapes Go.WideShapes
namespace Go.Rx

instance : Inhabited Comp := ⟨⟨0, []⟩⟩

theorem lt_of_cell {w : World} {a : Addr} {v : Value} (h : w.cell? a = some v) : a.block < w.heap.size := by
  refine Decidable.byContradiction fun hn => ?_
  have : w.heap[a.block]? = none := by simp; omega
  simp [World.cell?, this] at h

/-- The types of a slice of components. -/
structure CompTypes (P : Program) (T E U : TypeId) (f0 f1 : Field) : Prop where
  t : P.underlying T = some (.slice E)
  e : P.underlying E = some (.struct #[f0, f1])
  ec : P.cellsOf E = 2
  eb : 0 < P.bytesOf E
  i : P.underlying f0.type = some (.int .i64)
  io : f0.offset = 0
  ic : P.cellsOf f0.type = 1
  y : P.underlying f1.type = some (.slice U)
  yo : f1.offset = 1
  yc : P.cellsOf f1.type = 1
  u : P.underlying U = some (.int .u8)
  uc : P.cellsOf U = 1
  ub : 0 < P.bytesOf U

section
variable {H : Type} {enc : TypeId × Value → H} {P : Program} {w : World} {fuel : Nat} {cs : List Value} {x : DataW H × List MemPlace}

theorem bts_of_trod {T U : TypeId} (hT : P.underlying T = some (.slice U)) (hU : P.underlying U = some (.int .u8)) (hUc : P.cellsOf U = 1) (hb : 0 < P.bytesOf U)
    (h : DataW.trod enc P w 0 (fun _ => true) true fuel T cs = some x) (hsz : ∀ n ∈ x.1.weights P T, n ≤ reachBytes) :
    ∃ A n cap l, cs = [.slice A n cap] ∧ Bts w w.heap.size A n l ∧ n ≤ reachBytes := by
  rcases open_ints hT hU hUc h with ⟨rfl, _⟩ | ⟨a, len, cap, zs, rfl, _, hl, hm, hz, rfl, hc, hwf⟩
  · exact ⟨none, 0, 0, [], rfl, ⟨rfl, fun h => absurd h (Nat.lt_irrefl 0)⟩, Nat.zero_le _⟩
  · simp only [if_true] at hz
    refine ⟨some a, len, cap, (zs.take len).map (fun n => UInt8.ofNat n.toNat), rfl, ⟨by simp; omega, fun hn => ⟨a, rfl, ?_, ?_⟩⟩, ?_⟩
    · have := lt_of_cell (hc 0 (by omega))
      simpa [Addr.add] using this
    · intro i b hi
      rw [Nat.mul_one]
      simp only [List.getElem?_map, Option.map_eq_some_iff] at hi
      obtain ⟨z, hz', rfl⟩ := hi
      rw [List.getElem?_take] at hz'
      split at hz'
      · have h1 := hwf z (List.mem_of_getElem? hz')
        have h2 : 0 ≤ z ∧ z ≤ 255 := by simpa [Lit.wf, IntKind.min, IntKind.max, IntKind.bits, IntKind.signed] using h1
        have h3 := hc i (List.getElem?_eq_some_iff.1 hz').1
        rw [List.getD_eq_getElem?_getD, hz'] at h3
        rw [h3]
        simp
        omega
      · cases hz'
    · have := hsz (((lits (H := H) .u8 (zs.take len)).length + (lits (H := H) .u8 (zs.drop len)).length) * P.bytesOf U) (by simp [DataW.weights, hT])
      simp only [lits, List.length_map, List.length_take, List.length_drop] at this
      have h2 : len * 1 ≤ (min len zs.length + (zs.length - len)) * P.bytesOf U := Nat.mul_le_mul (by omega) hb
      omega

end

end Go.Rx
end

section
/- Simple components, simple addresses: MaSimple, MaAddress, maSimple answer; what is simple has codes of the table. -/
set_option linter.unusedVariables false
set_option maxRecDepth 20000
namespace Go.Proofs.YtdmnoagahjbjhaaGreatDoor
open Go Go.Rx Go.RowKit

/-- A bool of which something is known. -/
def BoolQ (R : Bool → Prop) (v : Value) (_ : World) : Prop := ∃ b, v = .bool b ∧ R b

theorem boolCallR {Q : SE → List Value → World → Prop} {s : SS} {w : World} {f : FuncId} {args : List SV} {a0 : List SV} {s0 : SS} {k : Bool → World → List Nat → T} (R : Bool → Prop) (hf : Fine w s) (hs0 : s0.objs = s.objs)
    (hc : ∀ β w0, Below w.heap.size w w0 → St (ctx Tryz.prog Q) β s w0 → Old β s w0 → Calls Tryz.prog f (denL β args).toArray w0 (Ret (BoolQ R) w0))
    (hk : ∀ b w' bs, R b → Below w.heap.size w w' → (∀ b ∈ bs, w.heap.size ≤ b) → (k b w' bs).holds (ctx Tryz.prog Q)) :
    (T.call f args s (Hook.X boolHook) (Hook.out boolHook a0 s0) k).holds (ctx Tryz.prog Q) := by
  refine callF (Γ := ctx Tryz.prog Q) (R := fun x _ _ => R x) hf (fun x => ⟨hs0, trivial⟩) (fun β w0 hst ho hb => ?_) (fun x w0 w' bs _ hr _ hb hbs => hk x w' bs hr hb hbs)
  refine (hc β w0 hb hst ho).mono ?_
  rintro e w' ⟨v, rfl, ⟨b, rfl, hr⟩, hb'⟩
  exact ⟨b, rfl, hb', hr⟩

end Go.Proofs.YtdmnoagahjbjhaaGreatDoor
end

section
/- Addresses of the package: address. -/
set_option linter.unusedVariables false
set_option linter.unusedSimpArgs false
set_option maxRecDepth 20000
namespace Go.Proofs.YtdmnoagahjbjhaaGreatDoor
open Go Go.Rx Go.RowKit
structure MV where
  s : ByteArray
  p : Addr
  at' : Int
@[reducible] def mvHook : Hook := { X := MV, out := fun _ s x => (.agg [.str x.s false, .xp x.p, .int .i64 x.at' false], s.objs) }
def LA : SE → List Nat
  | .normal => [3, 6, 7, 8]
  | .exit 0 => [3]
  | _ => []
def hk23 : Hooks := { calls := fun f => if f = 42 then some mvHook else none, loops := fun _ _ => none }
def lhA (N : Nat) : LoopHook := mkHook N UV (.exit 0) [3] (fun x => [.xs x.A x.k x.c]) Unit .ret [] (fun _ => [])
def hkLA (N : Nat) : Hooks := { calls := fun _ => none, loops := fun _ _ => some (lhA N) }
set_option maxRecDepth 100000 in
theorem t23 (A : Option Addr) (n c : Nat) (w : World) : xFunc Tryz.prog (hkLA 19) 1000 23 [.xs A n c] (SS.at w) =
  (.loop 23 (loopOf Tryz.prog 23 4) ([(.xs A n c), (.tup []), (.one (.slice none 0 0) rfl), (.one (.slice none 0 0) rfl), (.tup []), (.tup []), (.xs A n c), (.int .i64 ((↑n : Int)) false), (.int .i64 0 true)] ++ List.replicate 10 undefS) (SS.mk [] [] true w []) (LoopHook.X (lhA (19 : Nat))) (LoopHook.out (lhA (19 : Nat)) ([(.xs A n c), (.tup []), (.one (.slice none 0 0) rfl), (.one (.slice none 0 0) rfl), (.tup []), (.tup []), (.xs A n c), (.int .i64 ((↑n : Int)) false), (.int .i64 0 true)] ++ List.replicate 10 undefS) (SS.mk [] [] true w [])) (fun x0 w0 b0 =>
   (.leaf .ret [(.xs x0.fst.A x0.fst.k x0.fst.c)] (SS.mk [] [] true w0 b0)))
  (LoopHook.Y (lhA (19 : Nat))) (LoopHook.out' (lhA (19 : Nat)) ([(.xs A n c), (.tup []), (.one (.slice none 0 0) rfl), (.one (.slice none 0 0) rfl), (.tup []), (.tup []), (.xs A n c), (.int .i64 ((↑n : Int)) false), (.int .i64 0 true)] ++ List.replicate 10 undefS) (SS.mk [] [] true w [])) (fun x0 w0 b0 =>
   (.leaf .ret [(.raw (x0.snd (2 : Nat)))] (SS.mk [] [] true w0 b0)))) := by kernel_rfl
set_option maxRecDepth 100000 in
theorem n23 (A : Option Addr) (n c i : Nat) (w : World) (g : Nat → Value) : xCode Tryz.prog hk23 1000 23 (loopOf Tryz.prog 23 4) (mkFrame ((LA .normal).zip [.one (.slice none 0 0) rfl, .xs A n c, .int .i64 n false, .int .i64 i false]) g 19 0) (fun e a s => .leaf e (sel LA e a) s) (SS.at w) =
  (.split (decide ((↑i : Int) < (↑n : Int)))
   (.need ((0 : Int) ≤ (↑i : Int) ∧ (↑i : Int) < (↑n : Int))
   (.need (A.isSome = true)
   (.need (canRead w [] ((A.getD default).add ((↑i : Int).toNat * (2 : Nat))) [SV.int IntKind.i64 (intAt w (((A.getD default).add ((↑i : Int).toNat * (2 : Nat))).add (0 : Nat))) false, SV.xs (slA w (((A.getD default).add ((↑i : Int).toNat * (2 : Nat))).add (1 : Nat))) (slN w (((A.getD default).add ((↑i : Int).toNat * (2 : Nat))).add (1 : Nat))) (slC w (((A.getD default).add ((↑i : Int).toNat * (2 : Nat))).add (1 : Nat)))])
   (.hc 42 [(.agg [(.int .i64 (intAt w (((A.getD default).add ((↑i : Int).toNat * (2 : Nat))).add (0 : Nat))) false), (.xs (slA w (((A.getD default).add ((↑i : Int).toNat * (2 : Nat))).add (1 : Nat))) (slN w (((A.getD default).add ((↑i : Int).toNat * (2 : Nat))).add (1 : Nat))) (slC w (((A.getD default).add ((↑i : Int).toNat * (2 : Nat))).add (1 : Nat))))])] (SS.mk [(.cells [(.int .i64 (intAt w (((A.getD default).add ((↑i : Int).toNat * (2 : Nat))).add (0 : Nat))) false), (.xs (slA w (((A.getD default).add ((↑i : Int).toNat * (2 : Nat))).add (1 : Nat))) (slN w (((A.getD default).add ((↑i : Int).toNat * (2 : Nat))).add (1 : Nat))) (slC w (((A.getD default).add ((↑i : Int).toNat * (2 : Nat))).add (1 : Nat))))] 2 35 0 0)] [] true w []) (mvHook) fun x0 w0 b0 =>
   (.need ((32 : Nat) ≤ (281474976710656 : Nat))
   (.need ((↑(1 : Nat) : Int) ≤ IntKind.i64.max)
   (.choose (.appendCap 1 0 74) fun c1 =>
   (.leaf .normal [(.slc 2 0 1 c1 true false), (.xs A n c), (.int .i64 ((↑n : Int)) false), (.int .i64 (IntKind.i64.wrap ((↑i : Int) + (1 : Int))) false)] (SS.mk [(.cells [(.int .i64 (intAt w (((A.getD default).add ((↑i : Int).toNat * (2 : Nat))).add (0 : Nat))) false), (.xs (slA w (((A.getD default).add ((↑i : Int).toNat * (2 : Nat))).add (1 : Nat))) (slN w (((A.getD default).add ((↑i : Int).toNat * (2 : Nat))).add (1 : Nat))) (slC w (((A.getD default).add ((↑i : Int).toNat * (2 : Nat))).add (1 : Nat))))] 2 35 0 0), (.cells [(.str x0.s false), (.xp x0.p), (.int .i64 x0.at' false)] 3 74 0 0), (.cells [(.str x0.s false), (.xp x0.p), (.int .i64 x0.at' false)] (c1 * (3 : Nat)) 74 0 0)] [] true w0 b0)))))))))
   (.leaf (.exit 0) [(.one (.slice none 0 0) rfl)] (SS.mk [] [] true w []))) := by kernel_rfl
set_option maxRecDepth 100000 in
theorem r23 (A : Option Addr) (n c i kk cc : Nat) (Ls : List Value) (w : World) (bs : List Nat) (g : Nat → Value) : xCode Tryz.prog hk23 1000 23 (loopOf Tryz.prog 23 4) (mkFrame ((LA .normal).zip [.slc 0 0 kk cc false false, .xs A n c, .int .i64 n false, .int .i64 i false]) g 19 0) (fun e a s => .leaf e (sel LA e a) s) (SS.mk [.vals Ls (cc * 3) 74 0 0] [] true w bs) =
  (.split (decide ((↑i : Int) < (↑n : Int)))
   (.need ((0 : Int) ≤ (↑i : Int) ∧ (↑i : Int) < (↑n : Int))
   (.need (A.isSome = true)
   (.need (canRead w bs ((A.getD default).add ((↑i : Int).toNat * (2 : Nat))) [SV.int IntKind.i64 (intAt w (((A.getD default).add ((↑i : Int).toNat * (2 : Nat))).add (0 : Nat))) false, SV.xs (slA w (((A.getD default).add ((↑i : Int).toNat * (2 : Nat))).add (1 : Nat))) (slN w (((A.getD default).add ((↑i : Int).toNat * (2 : Nat))).add (1 : Nat))) (slC w (((A.getD default).add ((↑i : Int).toNat * (2 : Nat))).add (1 : Nat)))])
   (.hc 42 [(.agg [(.int .i64 (intAt w (((A.getD default).add ((↑i : Int).toNat * (2 : Nat))).add (0 : Nat))) false), (.xs (slA w (((A.getD default).add ((↑i : Int).toNat * (2 : Nat))).add (1 : Nat))) (slN w (((A.getD default).add ((↑i : Int).toNat * (2 : Nat))).add (1 : Nat))) (slC w (((A.getD default).add ((↑i : Int).toNat * (2 : Nat))).add (1 : Nat))))])] (SS.mk [(.vals Ls (cc * (3 : Nat)) 74 0 0), (.cells [(.int .i64 (intAt w (((A.getD default).add ((↑i : Int).toNat * (2 : Nat))).add (0 : Nat))) false), (.xs (slA w (((A.getD default).add ((↑i : Int).toNat * (2 : Nat))).add (1 : Nat))) (slN w (((A.getD default).add ((↑i : Int).toNat * (2 : Nat))).add (1 : Nat))) (slC w (((A.getD default).add ((↑i : Int).toNat * (2 : Nat))).add (1 : Nat))))] 2 35 0 0)] [] true w bs) (mvHook) fun x0 w0 b0 =>
   (.split (decide (kk + (1 : Nat) ≤ cc))
    (.need ((0 : Nat) + kk * (3 : Nat) = Ls.length ∧ Ls.length + (denL id [SV.str x0.s false, SV.xp x0.p, SV.int IntKind.i64 x0.at' false]).length ≤ cc * (3 : Nat) ∧ thawed (0 : Nat) (0 : Nat) Ls.length (denL id [SV.str x0.s false, SV.xp x0.p, SV.int IntKind.i64 x0.at' false]).length = true)
    (.leaf .normal [(.slc 0 0 (kk + (1 : Nat)) cc false false), (.xs A n c), (.int .i64 ((↑n : Int)) false), (.int .i64 (IntKind.i64.wrap ((↑i : Int) + (1 : Int))) false)] (SS.mk [(.vals (Ls ++ denL id [SV.str x0.s false, SV.xp x0.p, SV.int IntKind.i64 x0.at' false]) (cc * (3 : Nat)) 74 0 0), (.cells [(.int .i64 (intAt w (((A.getD default).add ((↑i : Int).toNat * (2 : Nat))).add (0 : Nat))) false), (.xs (slA w (((A.getD default).add ((↑i : Int).toNat * (2 : Nat))).add (1 : Nat))) (slN w (((A.getD default).add ((↑i : Int).toNat * (2 : Nat))).add (1 : Nat))) (slC w (((A.getD default).add ((↑i : Int).toNat * (2 : Nat))).add (1 : Nat))))] 2 35 0 0), (.cells [(.str x0.s false), (.xp x0.p), (.int .i64 x0.at' false)] 3 74 0 0)] [] true w0 b0)))
    (.need ((0 : Nat) + kk * (3 : Nat) ≤ Ls.length ∧ Builtin.nextslicecap (kk + (1 : Nat)) cc * (32 : Nat) ≤ (281474976710656 : Nat) ∧ (↑(kk + (1 : Nat)) : Int) ≤ IntKind.i64.max)
    (.choose (.appendCap (kk + (1 : Nat)) cc 74) fun c1 =>
    (.leaf .normal [(.slc 3 0 (kk + (1 : Nat)) c1 false false), (.xs A n c), (.int .i64 ((↑n : Int)) false), (.int .i64 (IntKind.i64.wrap ((↑i : Int) + (1 : Int))) false)] (SS.mk [(.vals Ls (cc * (3 : Nat)) 74 0 0), (.cells [(.int .i64 (intAt w (((A.getD default).add ((↑i : Int).toNat * (2 : Nat))).add (0 : Nat))) false), (.xs (slA w (((A.getD default).add ((↑i : Int).toNat * (2 : Nat))).add (1 : Nat))) (slN w (((A.getD default).add ((↑i : Int).toNat * (2 : Nat))).add (1 : Nat))) (slC w (((A.getD default).add ((↑i : Int).toNat * (2 : Nat))).add (1 : Nat))))] 2 35 0 0), (.cells [(.str x0.s false), (.xp x0.p), (.int .i64 x0.at' false)] 3 74 0 0), (.vals (List.take (kk * (3 : Nat)) (List.drop (0 : Nat) Ls) ++ denL id [SV.str x0.s false, SV.xp x0.p, SV.int IntKind.i64 x0.at' false]) (c1 * (3 : Nat)) 74 0 0)] [] true w0 b0)))))))))
   (.leaf (.exit 0) [(.slc 0 0 kk cc false false)] (SS.mk [(.vals Ls (cc * (3 : Nat)) 74 0 0)] [] true w bs))) := by kernel_rfl

/-- The cells of a component of the package. -/
def MaR (w : World) (B : Nat) (x : Comp) (vs : List Value) : Prop := ∃ pre p, vs = [.string ⟨(pre ++ x.val).toArray⟩, .pointer (some p), .int .i64 (pre.length : Int)] ∧ ProtAt w B p x.code ∧ pre.length ≤ 26

theorem ProtAt.sub {w w' : World} {B B' : Nat} {p : Addr} {k : Int} (h : ProtAt w B p k) (hs : Sub B w w') (hB : B ≤ B') : ProtAt w' B' p k := by
  obtain ⟨h1, x, h2⟩ := h
  exact ⟨by omega, x, fun i v hi => hs _ _ (by rw [add_block]; exact h1) (h2 i v hi)⟩

theorem MaR.sub (B B' : Nat) (a b : World) (x : Comp) (vs : List Value) (hs : Sub B a b) (hB : B ≤ B') (h : MaR a B x vs) : MaR b B' x vs := by
  obtain ⟨pre, p, h1, h2, h3⟩ := h
  exact ⟨pre, p, h1, h2.sub hs hB, h3⟩

theorem MaR.len {w : World} {B : Nat} (x : Comp) (vs : List Value) (h : MaR w B x vs) : vs.length = 3 := by
  obtain ⟨pre, p, rfl, _⟩ := h
  rfl

/-- An address of the package. -/
def MasAt (w : World) (B : Nat) (A : Option Addr) (n : Nat) (l : List Comp) : Prop := SeqAt (CellsAt (MaR w B) w B) 3 B A n l

theorem MasAt.sub {w w' : World} {B B' : Nat} {A : Option Addr} {n : Nat} {l : List Comp} (h : MasAt w B A n l) (hs : Sub B w w') (hB : B ≤ B') : MasAt w' B' A n l :=
  h.imp hB fun a x _ hx => hx.sub hs hB fun x vs => MaR.sub _ _ _ _ x vs hs hB

def AddrQ (l : List Comp) (w : World) (v : Value) (w' : World) : Prop := ∃ A k c, v = .slice A k c ∧ MasAt (since w w') w'.heap.size A k l

/-- The same, and the capacity is no less than the length. -/
def AddrQc (l : List Comp) (w : World) (v : Value) (w' : World) : Prop := ∃ A k c, v = .slice A k c ∧ MasAt (since w w') w'.heap.size A k l ∧ k ≤ c

theorem mvCall {Q : SE → List Value → World → Prop} {β0 : Nat → Nat} {n0 : Nat} {s : SS} {w : World} {bs : List Nat} {key : Int} {l1 : Bool} {A : Option Addr} {n c : Nat} {val : List UInt8} {B : Nat} {objs : List SObj} {k : MV → World → List Nat → T} (hf : KFine bs w s) (hs0 : s.objs = objs) (hkey : key ∈ table)
    (hn : (n : Int) < 2 ^ 46) (hB : ∀ wc, Keep bs w wc → B ≤ wc.heap.size ∧ Bts wc B A n val)
    (hk : ∀ x wc w' bs' pre, Keep bs w wc → Below wc.heap.size wc w' → Keep bs w w' → (∀ b ∈ bs', (b ∈ bs ∨ w.heap.size ≤ b) ∧ b < wc.heap.size) → MaR (since wc w') w'.heap.size ⟨key, val⟩ [.string x.s, .pointer (some x.p), .int .i64 x.at'] → x.s = ⟨(pre ++ val).toArray⟩ →
      (k x w' bs').holds { P := Tryz.prog, β0 := β0, n0 := n0, Q := Q }) :
    (T.call 42 [.agg [.int .i64 key l1, .xs A n c]] s MV (fun x => (.agg [.str x.s false, .xp x.p, .int .i64 x.at' false], objs)) k).holds { P := Tryz.prog, β0 := β0, n0 := n0, Q := Q } := by
  refine callKN (R := fun (x : MV) wc w' => ∃ pre, x.s = ⟨(pre ++ val).toArray⟩ ∧ x.at' = (pre.length : Int) ∧ ProtAt w' w'.heap.size x.p key ∧ wc.heap.size ≤ x.p.block ∧ pre.length ≤ 26) hf (fun x => ⟨hs0.symm, trivial, trivial, trivial, trivial⟩)
    (fun β wc hst ho hkp => ?_) (fun x wc w' bs' h1 hr h2 h3 h4 => ?_)
  · obtain ⟨h1, h2⟩ := hB wc hkp
    refine (comp_c key hkey A n c val B wc h2 h1 hn).mono ?_
    rintro e w' ⟨v, rfl, ⟨pre, p, rfl, h5, h6, h7⟩, hb'⟩
    exact ⟨⟨⟨(pre ++ val).toArray⟩, p, pre.length⟩, rfl, hb', pre, rfl, rfl, h5, h6, h7⟩
  · obtain ⟨pre, e1, e2, h5, h6, h7⟩ := hr
    refine hk x wc w' bs' pre h1 h2 h3 h4 ⟨pre, x.p, by rw [e1, e2], ?_, h7⟩ e1
    obtain ⟨g1, y, g2⟩ := h5
    exact ⟨g1, y, fun i v hi => (cell_since _ _ _ _).2 ⟨by rw [add_block]; exact h6, g2 i v hi⟩⟩

theorem address_cc (A : Option Addr) (n c : Nat) (l : List Comp) (B : Nat) (w : World) (h : CompsAt w B A n l) (hB : B ≤ w.heap.size) (hn : (n : Int) < 2 ^ 40) (hc : ∀ x ∈ l, x.code ∈ table) (hv : ∀ x ∈ l, (x.val.length : Int) < 2 ^ 46) :
    Calls Tryz.prog 23 #[.slice A n c] w (Ret (AddrQc l w) w) := by
  have hl := h.1
  refine funF (hk := hkLA 19) (n := 1000) (args := [.xs A n c]) ⟨trivial, trivial⟩ ?_
  rw [t23]
  refine loopA (Fine.start _ _) 74 3 LA (α := Nat) (fun i => [.xs A n c, .int .i64 n false, .int .i64 i false]) (fun i => n - i)
    (fun w0 i A' Ls w1 => i ≤ n ∧ Row (MaR (vis w0 A' w1) w1.heap.size) (l.take i) Ls)
    (fun w0 e lv w' => e = .exit 0 ∧ ∃ A' k c', lv = [.slice A' k c'] ∧ MasAt (since w0 w') w'.heap.size A' k l ∧ k ≤ c')
    (fun _ => hk23) 1000 (by simp) (by simp [LA]) (by simp [LA]) (fun _ => ⟨trivial, trivial, trivial, trivial⟩) rfl rfl rfl (by simp) (by simp) (fun _ => ⟨trivial, trivial⟩) (fun _ => trivial) ?_ ?_ ?_ ?_
  · rintro w0 i w1 g hbw0 ⟨hi, hrow⟩ hb0 hbw
    refine holds_eq (n23 A n c i w1 g) ?_
    have hkf : KFine [] w1 (SS.mk [] [] true w1 []) := ⟨rfl, Keep.refl _ _, by simp⟩
    refine splitT (fun hlt => ?_) (fun hge => leafK hkf fun β w' hst hk => ⟨⟨rfl, none, 0, 0, rfl, ?_⟩, hk.below hb0 (Nat.le_refl _) (by simp)⟩)
    · have hlt' : i < n := by simpa using hlt
      have hB1 : B ≤ w1.heap.size := Nat.le_trans hB hbw.size
      have hA1 := h.below (hbw.mono hB) (Nat.le_refl _)
      obtain ⟨ad, x, rfl, had, hx, hR⟩ := hA1.get hlt'
      have hxm := List.mem_of_getElem? hx
      obtain ⟨f1, f2, f3⟩ := hR.facts
      refine needT (by omega) (needT rfl (needT (hR.canRead hB1 (by simp)) ?_))
      have e1 : intAt w1 ((((some ad).getD default).add ((i : Int).toNat * 2)).add 0) = x.code := f1
      rw [e1]
      refine mvCall (val := x.val) (B := B) (bs := []) ⟨rfl, Keep.refl _ _, by simp⟩ rfl (hc x hxm) ?_ (fun wc hk => ⟨Nat.le_trans hB1 hk.size, f2.below (hk.belowB hB1 (by simp)) (Nat.le_refl _)⟩) fun m wc w2 bs' pre hk1 hb2 hk2 hbs' hnew _ => ?_
      · have := f2.1
        have := hv x hxm
        exact_mod_cast (by omega : ((slN w1 ((ad.add (i * 2)).add 1) : Nat) : Int) < 2 ^ 46)
      refine needT (by omega) (needT (by decide) (chooseT ?_))
      rintro c1 ⟨t, rfl⟩
      refine leafK ⟨rfl, hk2, fun b hb => (hbs' b hb).1⟩ fun β' w' hst hk => ?_
      obtain ⟨g1, g2, g3, g4⟩ := accNext (R := MaR) MaR.sub hx hrow hnew hst rfl rfl hbs' (by simp) hb0 hk hk1.size hb2.size 2 (by simp [SS.n])
      obtain ⟨rest, e2, e3⟩ := hst.at_ 2 _ rfl
      refine ⟨i + 1, some ⟨β' 2, 0, none⟩, 1, _, _, by show n - (i + 1) < n - i; omega, ?_, .inr ⟨β' 2, rfl, g2, g3, rfl, cut_append, rest, e2, e3⟩, ⟨by omega, g1⟩, g4⟩
      rw [next_i hlt' (by omega)]
      rfl
    · have hin : i = n := by
        have : ¬ i < n := by simpa using hge
        omega
      have hle := hrow.len fun x vs => MaR.len x vs
      rw [List.length_take] at hle
      simp only [List.length_nil] at hle
      have hl0 : l = [] := List.eq_nil_of_length_eq_zero (by omega)
      subst hl0
      exact ⟨⟨rfl, fun h => absurd h (Nat.lt_irrefl 0)⟩, Nat.le_refl _⟩
  · rintro w0 i w1 g b kk cc Ls hbw0 ⟨hi, hrow⟩ hb0 hbw hb1 hb2 hLs hkc
    refine holds_eq (r23 A n c i kk cc Ls w1 [b] g) ?_
    have hBb : ∀ b' ∈ [b], B ≤ b' := fun b' hb' => by
      have := hbw0.size
      simp at hb'
      omega
    have hA0 : ∀ b' ∈ [b], ∃ a, (some (⟨b, 0, none⟩ : Addr)) = some a ∧ a.block = b' ∧ w0.heap.size ≤ b' := fun b' hb' => by
      simp at hb'
      subst hb'
      exact ⟨_, rfl, rfl, hb1⟩
    have hkn : kk ≤ i := by
      have := hrow.len fun x vs => MaR.len x vs
      simp at this
      omega
    refine splitT (fun hlt => ?_) (fun hge => leafK ⟨rfl, Keep.refl _ _, fun b hb => .inl hb⟩ fun β' w' hst hk => ⟨⟨rfl, _, kk, cc, rfl, ?_⟩, hk.below hb0 (Nat.le_refl _) (by simpa using hb1)⟩)
    · have hlt' : i < n := by simpa using hlt
      have hB1 : B ≤ w1.heap.size := Nat.le_trans hB hbw.size
      have hA1 := h.below (hbw.mono hB) (Nat.le_refl _)
      obtain ⟨ad, x, rfl, had, hx, hR⟩ := hA1.get hlt'
      have hxm := List.mem_of_getElem? hx
      obtain ⟨f1, f2, f3⟩ := hR.facts
      refine needT (by omega) (needT rfl (needT (hR.canRead hB1 hBb) ?_))
      have e1 : intAt w1 ((((some ad).getD default).add ((i : Int).toNat * 2)).add 0) = x.code := f1
      rw [e1]
      refine mvCall (val := x.val) (B := B) (bs := [b]) ⟨rfl, Keep.refl _ _, fun b hb => .inl hb⟩ rfl (hc x hxm) ?_ (fun wc hk => ⟨Nat.le_trans hB1 hk.size, f2.below (hk.belowB hB1 hBb) (Nat.le_refl _)⟩) fun m wc w2 bs' pre hk1 hb2 hk2 hbs' hnew _ => ?_
      · have := f2.1
        have := hv x hxm
        exact_mod_cast (by omega : ((slN w1 ((ad.add (i * 2)).add 1) : Nat) : Int) < 2 ^ 46)
      refine splitD (fun hcap => needT ?_ ?_) (fun hcap => needT ?_ (chooseT ?_))
      · exact ⟨by omega, by simp [denL]; omega, by simp [thawed]⟩
      · refine leafK ⟨rfl, hk2, fun b hb => (hbs' b hb).1⟩ fun β' w' hst hk => ?_
        obtain ⟨g1, g2, g3, g4⟩ := accNext (R := MaR) MaR.sub hx hrow hnew hst rfl rfl hbs' hA0 hb0 hk hk1.size hb2.size 0 (by simp [SS.n])
        obtain ⟨rest, e2, e3⟩ := hst.at_ 0 _ rfl
        refine ⟨i + 1, some ⟨β' 0, 0, none⟩, kk + 1, cc, _, by show n - (i + 1) < n - i; omega, ?_, .inr ⟨β' 0, rfl, g2, g3, by simp [hLs, denL]; omega, hcap, rest, e2, e3⟩, ⟨by omega, g1⟩, g4⟩
        rw [next_i hlt' (by omega)]
        rfl
      · have := nextslicecap_le (show cc < kk + 1 by omega)
        exact ⟨by omega, by omega, by rw [i64max]; omega⟩
      · rintro c1 ⟨t, rfl⟩
        refine leafK ⟨rfl, hk2, fun b hb => (hbs' b hb).1⟩ fun β' w' hst hk => ?_
        obtain ⟨g1, g2, g3, g4⟩ := accNext (R := MaR) MaR.sub hx hrow hnew hst rfl rfl hbs' hA0 hb0 hk hk1.size hb2.size 3 (by simp [SS.n])
        obtain ⟨rest, e2, e3⟩ := hst.at_ 3 _ rfl
        rw [List.drop_zero, List.take_of_length_le (by omega)] at e2 e3
        refine ⟨i + 1, some ⟨β' 3, 0, none⟩, kk + 1, _, _, by show n - (i + 1) < n - i; omega, ?_, .inr ⟨β' 3, rfl, g2, g3, by simp [hLs, denL]; omega, cut_append, rest, e2, e3⟩, ⟨by omega, g1⟩, g4⟩
        rw [next_i hlt' (by omega)]
        rfl
    · have hin : i = n := by
        have : ¬ i < n := by simpa using hge
        omega
      rw [List.take_of_length_le (by omega)] at hrow
      obtain ⟨rest, e2, e3⟩ := hst.at_ 0 _ rfl
      have hb0' : β' 0 = b := hst.base 0 (by show 0 < 1; omega)
      have hacc : AccAt w0 w' 74 3 (some ⟨β' 0, 0, none⟩) kk cc Ls := .inr ⟨β' 0, rfl, by omega, hst.lt 0 (by simp [SS.n]), hLs, hkc, rest, e2, e3⟩
      have hrow' : Row (MaR (since w0 w') w'.heap.size) l Ls := hrow.imp fun x vs hx => MaR.sub _ _ _ _ _ _ (vis_since _ _ _ _) (Nat.le_refl _) (MaR.sub _ _ _ _ _ _ (vis_keep (A' := some ⟨b, 0, none⟩) hk (fun b' hb' => by
        obtain ⟨a, h1, h2, _⟩ := hA0 b' hb'
        exact ⟨a, h1, h2⟩) fun a' ha' => by cases ha'; exact .inl (by simp)) hk.size hx)
      exact ⟨seq_of_row (S := fun b => w0.heap.size ≤ b) hacc hrow' (fun x vs => MaR.len x vs) (by omega) (fun a ha => by cases ha; show w0.heap.size ≤ β' 0; omega), hkc⟩
  · intro β w0 hst hb
    exact ⟨0, rfl, Nat.zero_le _, .nil⟩
  · rintro β w0 hst hb e lv w' ⟨rfl, A', k, c', rfl, hmas, hcap⟩ hb0 hb1
    refine .inl ⟨⟨A', k, c'⟩, rfl, rfl, fun g bs hbs => retF (Fine.mk' hb1 fun b hb => (hbs b hb).1) fun β w2 hst2 hb2 => ⟨A', k, c', rfl, hmas.sub (since_old (hst2.old rfl) rfl (fun b hb => (hbs b hb).2) hb.size) (hst2.old rfl).sz, hcap⟩⟩

theorem address_c (A : Option Addr) (n c : Nat) (l : List Comp) (B : Nat) (w : World) (h : CompsAt w B A n l) (hB : B ≤ w.heap.size) (hn : (n : Int) < 2 ^ 40) (hc : ∀ x ∈ l, x.code ∈ table) (hv : ∀ x ∈ l, (x.val.length : Int) < 2 ^ 46) :
    Calls Tryz.prog 23 #[.slice A n c] w (Ret (AddrQ l w) w) :=
  (address_cc A n c l B w h hB hn hc hv).mono fun _ _ ⟨v, he, ⟨A, k, c, hv, hm, _⟩, hb⟩ => ⟨v, he, ⟨A, k, c, hv, hm⟩, hb⟩

end Go.Proofs.YtdmnoagahjbjhaaGreatDoor
end

section
/- Lists of addresses, components of an address, lists of those. -/
set_option linter.unusedVariables false
set_option linter.unusedSimpArgs false
set_option maxRecDepth 20000
namespace Go.Proofs.YtdmnoagahjbjhaaGreatDoor
open Go Go.Rx Go.RowKit
structure CV where
  code : Int
  A : Option Addr
  n : Nat
  c : Nat
@[reducible] def cvHook : Hook := { X := CV, out := fun _ s x => (.agg [.int .i64 x.code false, .xs x.A x.n x.c], s.objs) }
def hk24 : Hooks := { calls := fun f => if f = 23 then some uvHook else none, loops := fun _ _ => none }
def hk27 : Hooks := { calls := fun f => if f = 44 then some cvHook else none, loops := fun _ _ => none }
set_option maxRecDepth 100000 in
theorem t27 (A : Option Addr) (n c : Nat) (w : World) : xFunc Tryz.prog (hkLA 18) 1000 27 [.xs A n c] (SS.at w) =
  (.loop 27 (loopOf Tryz.prog 27 4) ([(.xs A n c), (.tup []), (.one (.slice none 0 0) rfl), (.one (.slice none 0 0) rfl), (.tup []), (.tup []), (.xs A n c), (.int .i64 ((↑n : Int)) false), (.int .i64 0 true)] ++ List.replicate 9 undefS) (SS.mk [] [] true w []) (LoopHook.X (lhA (18 : Nat))) (LoopHook.out (lhA (18 : Nat)) ([(.xs A n c), (.tup []), (.one (.slice none 0 0) rfl), (.one (.slice none 0 0) rfl), (.tup []), (.tup []), (.xs A n c), (.int .i64 ((↑n : Int)) false), (.int .i64 0 true)] ++ List.replicate 9 undefS) (SS.mk [] [] true w [])) (fun x0 w0 b0 =>
   (.leaf .ret [(.xs x0.fst.A x0.fst.k x0.fst.c)] (SS.mk [] [] true w0 b0)))
  (LoopHook.Y (lhA (18 : Nat))) (LoopHook.out' (lhA (18 : Nat)) ([(.xs A n c), (.tup []), (.one (.slice none 0 0) rfl), (.one (.slice none 0 0) rfl), (.tup []), (.tup []), (.xs A n c), (.int .i64 ((↑n : Int)) false), (.int .i64 0 true)] ++ List.replicate 9 undefS) (SS.mk [] [] true w [])) (fun x0 w0 b0 =>
   (.leaf .ret [(.raw (x0.snd (2 : Nat)))] (SS.mk [] [] true w0 b0)))) := by kernel_rfl
set_option maxRecDepth 100000 in
theorem n27 (A : Option Addr) (n c i : Nat) (w : World) (g : Nat → Value) : xCode Tryz.prog hk27 1000 27 (loopOf Tryz.prog 27 4) (mkFrame ((LA .normal).zip [.one (.slice none 0 0) rfl, .xs A n c, .int .i64 n false, .int .i64 i false]) g 18 0) (fun e a s => .leaf e (sel LA e a) s) (SS.mk [] [] true w []) =
  (.split (decide ((↑i : Int) < (↑n : Int)))
   (.need ((0 : Int) ≤ (↑i : Int) ∧ (↑i : Int) < (↑n : Int))
   (.need (A.isSome = true)
   (.need (canRead w [] ((A.getD default).add ((↑i : Int).toNat * (3 : Nat))) [SV.str (strAt w (((A.getD default).add ((↑i : Int).toNat * (3 : Nat))).add (0 : Nat))) false, SV.xp (ptrAt w (((A.getD default).add ((↑i : Int).toNat * (3 : Nat))).add (1 : Nat))), SV.int IntKind.i64 (intAt w (((A.getD default).add ((↑i : Int).toNat * (3 : Nat))).add (2 : Nat))) false])
   (.hc 44 [(.ptr 0 0)] (SS.mk [(.cells [(.str (strAt w (((A.getD default).add ((↑i : Int).toNat * (3 : Nat))).add (0 : Nat))) false), (.xp (ptrAt w (((A.getD default).add ((↑i : Int).toNat * (3 : Nat))).add (1 : Nat)))), (.int .i64 (intAt w (((A.getD default).add ((↑i : Int).toNat * (3 : Nat))).add (2 : Nat))) false)] 3 74 0 0)] [] true w []) (cvHook) fun x0 w0 b0 =>
   (.need ((32 : Nat) ≤ (281474976710656 : Nat))
   (.need ((↑(1 : Nat) : Int) ≤ IntKind.i64.max)
   (.choose (.appendCap 1 0 35) fun c1 =>
   (.leaf .normal [(.slc 2 0 1 c1 true false), (.xs A n c), (.int .i64 ((↑n : Int)) false), (.int .i64 (IntKind.i64.wrap ((↑i : Int) + (1 : Int))) false)] (SS.mk [(.cells [(.str (strAt w (((A.getD default).add ((↑i : Int).toNat * (3 : Nat))).add (0 : Nat))) false), (.xp (ptrAt w (((A.getD default).add ((↑i : Int).toNat * (3 : Nat))).add (1 : Nat)))), (.int .i64 (intAt w (((A.getD default).add ((↑i : Int).toNat * (3 : Nat))).add (2 : Nat))) false)] 3 74 0 0), (.cells [(.int .i64 x0.code false), (.xs x0.A x0.n x0.c)] 2 35 0 0), (.cells [(.int .i64 x0.code false), (.xs x0.A x0.n x0.c)] (c1 * (2 : Nat)) 35 0 0)] [] true w0 b0)))))))))
   (.leaf (.exit 0) [(.one (.slice none 0 0) rfl)] (SS.mk [] [] true w []))) := by kernel_rfl
set_option maxRecDepth 100000 in
theorem r27 (A : Option Addr) (n c i kk cc : Nat) (Ls : List Value) (w : World) (bs : List Nat) (g : Nat → Value) : xCode Tryz.prog hk27 1000 27 (loopOf Tryz.prog 27 4) (mkFrame ((LA .normal).zip [.slc 0 0 kk cc false false, .xs A n c, .int .i64 n false, .int .i64 i false]) g 18 0) (fun e a s => .leaf e (sel LA e a) s) (SS.mk [.vals Ls (cc * 2) 35 0 0] [] true w bs) =
  (.split (decide ((↑i : Int) < (↑n : Int)))
   (.need ((0 : Int) ≤ (↑i : Int) ∧ (↑i : Int) < (↑n : Int))
   (.need (A.isSome = true)
   (.need (canRead w bs ((A.getD default).add ((↑i : Int).toNat * (3 : Nat))) [SV.str (strAt w (((A.getD default).add ((↑i : Int).toNat * (3 : Nat))).add (0 : Nat))) false, SV.xp (ptrAt w (((A.getD default).add ((↑i : Int).toNat * (3 : Nat))).add (1 : Nat))), SV.int IntKind.i64 (intAt w (((A.getD default).add ((↑i : Int).toNat * (3 : Nat))).add (2 : Nat))) false])
   (.hc 44 [(.ptr 1 0)] (SS.mk [(.vals Ls (cc * (2 : Nat)) 35 0 0), (.cells [(.str (strAt w (((A.getD default).add ((↑i : Int).toNat * (3 : Nat))).add (0 : Nat))) false), (.xp (ptrAt w (((A.getD default).add ((↑i : Int).toNat * (3 : Nat))).add (1 : Nat)))), (.int .i64 (intAt w (((A.getD default).add ((↑i : Int).toNat * (3 : Nat))).add (2 : Nat))) false)] 3 74 0 0)] [] true w bs) (cvHook) fun x0 w0 b0 =>
   (.split (decide (kk + (1 : Nat) ≤ cc))
    (.need ((0 : Nat) + kk * (2 : Nat) = Ls.length ∧ Ls.length + (denL id [SV.int IntKind.i64 x0.code false, SV.xs x0.A x0.n x0.c]).length ≤ cc * (2 : Nat) ∧ thawed (0 : Nat) (0 : Nat) Ls.length (denL id [SV.int IntKind.i64 x0.code false, SV.xs x0.A x0.n x0.c]).length = true)
    (.leaf .normal [(.slc 0 0 (kk + (1 : Nat)) cc false false), (.xs A n c), (.int .i64 ((↑n : Int)) false), (.int .i64 (IntKind.i64.wrap ((↑i : Int) + (1 : Int))) false)] (SS.mk [(.vals (Ls ++ denL id [SV.int IntKind.i64 x0.code false, SV.xs x0.A x0.n x0.c]) (cc * (2 : Nat)) 35 0 0), (.cells [(.str (strAt w (((A.getD default).add ((↑i : Int).toNat * (3 : Nat))).add (0 : Nat))) false), (.xp (ptrAt w (((A.getD default).add ((↑i : Int).toNat * (3 : Nat))).add (1 : Nat)))), (.int .i64 (intAt w (((A.getD default).add ((↑i : Int).toNat * (3 : Nat))).add (2 : Nat))) false)] 3 74 0 0), (.cells [(.int .i64 x0.code false), (.xs x0.A x0.n x0.c)] 2 35 0 0)] [] true w0 b0)))
    (.need ((0 : Nat) + kk * (2 : Nat) ≤ Ls.length ∧ Builtin.nextslicecap (kk + (1 : Nat)) cc * (32 : Nat) ≤ (281474976710656 : Nat) ∧ (↑(kk + (1 : Nat)) : Int) ≤ IntKind.i64.max)
    (.choose (.appendCap (kk + (1 : Nat)) cc 35) fun c1 =>
    (.leaf .normal [(.slc 3 0 (kk + (1 : Nat)) c1 false false), (.xs A n c), (.int .i64 ((↑n : Int)) false), (.int .i64 (IntKind.i64.wrap ((↑i : Int) + (1 : Int))) false)] (SS.mk [(.vals Ls (cc * (2 : Nat)) 35 0 0), (.cells [(.str (strAt w (((A.getD default).add ((↑i : Int).toNat * (3 : Nat))).add (0 : Nat))) false), (.xp (ptrAt w (((A.getD default).add ((↑i : Int).toNat * (3 : Nat))).add (1 : Nat)))), (.int .i64 (intAt w (((A.getD default).add ((↑i : Int).toNat * (3 : Nat))).add (2 : Nat))) false)] 3 74 0 0), (.cells [(.int .i64 x0.code false), (.xs x0.A x0.n x0.c)] 2 35 0 0), (.vals (List.take (kk * (2 : Nat)) (List.drop (0 : Nat) Ls) ++ denL id [SV.int IntKind.i64 x0.code false, SV.xs x0.A x0.n x0.c]) (c1 * (2 : Nat)) 35 0 0)] [] true w0 b0)))))))))
   (.leaf (.exit 0) [(.slc 0 0 kk cc false false)] (SS.mk [(.vals Ls (cc * (2 : Nat)) 35 0 0)] [] true w bs))) := by kernel_rfl
set_option maxRecDepth 100000 in
theorem t44 (a : Addr) (w : World) : xFunc Tryz.prog noHk 1000 44 [.xp a] (SS.mk [] [] true w []) =
  (.need (canRead w [] (a.add (1 : Nat)) [SV.xp (ptrAt w ((a.add (1 : Nat)).add (0 : Nat)))])
  (.need (canRead w [] (a.add (1 : Nat)) [SV.xp (ptrAt w ((a.add (1 : Nat)).add (0 : Nat)))])
  (.need (canRead w [] ((ptrAt w ((a.add (1 : Nat)).add (0 : Nat))).add (1 : Nat)) [SV.int IntKind.i64 (intAt w (((ptrAt w ((a.add (1 : Nat)).add (0 : Nat))).add (1 : Nat)).add (0 : Nat))) false])
  (.need (canRead w [] (a.add (0 : Nat)) [SV.str (strAt w ((a.add (0 : Nat)).add (0 : Nat))) false])
  (.need (canRead w [] (a.add (2 : Nat)) [SV.int IntKind.i64 (intAt w ((a.add (2 : Nat)).add (0 : Nat))) false])
  (.need ((0 : Int) ≤ intAt w ((a.add (2 : Nat)).add (0 : Nat)) ∧ intAt w ((a.add (2 : Nat)).add (0 : Nat)) ≤ (↑(strAt w ((a.add (0 : Nat)).add (0 : Nat))).size : Int))
  (.choose (.appendCap (((strAt w ((a.add (0 : Nat)).add (0 : Nat))).extract (intAt w ((a.add (2 : Nat)).add (0 : Nat))).toNat (strAt w ((a.add (0 : Nat)).add (0 : Nat))).size).size) 0 5) fun c0 =>
  (.leaf .ret [(.agg [(.int .i64 (intAt w (((ptrAt w ((a.add (1 : Nat)).add (0 : Nat))).add (1 : Nat)).add (0 : Nat))) false), (.slc 1 0 (((strAt w ((a.add (0 : Nat)).add (0 : Nat))).extract (intAt w ((a.add (2 : Nat)).add (0 : Nat))).toNat (strAt w ((a.add (0 : Nat)).add (0 : Nat))).size).size) c0 false false)])] (SS.mk [(.cells [(.int .i64 (intAt w (((ptrAt w ((a.add (1 : Nat)).add (0 : Nat))).add (1 : Nat)).add (0 : Nat))) false), (.slc 1 0 (((strAt w ((a.add (0 : Nat)).add (0 : Nat))).extract (intAt w ((a.add (2 : Nat)).add (0 : Nat))).toNat (strAt w ((a.add (0 : Nat)).add (0 : Nat))).size).size) c0 false false)] 2 35 0 0), (.ints .u8 (List.map (fun b => (↑b.toNat : Int)) (#[].extract (0 : Nat) (0 : Nat) ++ (strAt w ((a.add (0 : Nat)).add (0 : Nat))).data.extract (intAt w ((a.add (2 : Nat)).add (0 : Nat))).toNat ((intAt w ((a.add (2 : Nat)).add (0 : Nat))).toNat + ((strAt w ((a.add (0 : Nat)).add (0 : Nat))).size - (intAt w ((a.add (2 : Nat)).add (0 : Nat))).toNat)) ++ #[].extract ((0 : Nat) + min ((strAt w ((a.add (0 : Nat)).add (0 : Nat))).size - (intAt w ((a.add (2 : Nat)).add (0 : Nat))).toNat) ((strAt w ((a.add (0 : Nat)).add (0 : Nat))).data.size - (intAt w ((a.add (2 : Nat)).add (0 : Nat))).toNat)) (0 : Nat)).toList ++ List.replicate (c0 - ((strAt w ((a.add (0 : Nat)).add (0 : Nat))).extract (intAt w ((a.add (2 : Nat)).add (0 : Nat))).toNat (strAt w ((a.add (0 : Nat)).add (0 : Nat))).size).size) (0 : Int)) 5 c0 (c0 + (1 : Nat)))] [] true w []))))))))) := by kernel_rfl

theorem MaR.lasts : Lasts MaR 3 := ⟨MaR.sub, fun w B x vs => MaR.len x vs, by omega⟩

/-- The cell of an address in a list of addresses. -/
def AddrR (w : World) (B : Nat) (l : List Comp) (vs : List Value) : Prop := ∃ A n c, vs = [.slice A n c] ∧ RowAt MaR 3 w B A n l

theorem AddrR.lasts : Lasts AddrR 1 where
  sub _ _ _ _ _ _ hs hB := by
    rintro ⟨A, n, c, h1, h2⟩
    exact ⟨A, n, c, h1, h2.sub MaR.lasts hs hB⟩
  len _ _ _ _ := by
    rintro ⟨A, n, c, rfl, _⟩
    rfl
  pos := by omega

/-- The cells of a component. -/
def CompR (w : World) (B : Nat) (x : Comp) (vs : List Value) : Prop := ∃ A n c, vs = [.int .i64 x.code, .slice A n c] ∧ Bts w B A n x.val

theorem CompR.lasts : Lasts CompR 2 where
  sub _ _ _ _ _ _ hs hB := by
    rintro ⟨A, n, c, h1, h2⟩
    exact ⟨A, n, c, h1, h2.sub hs hB⟩
  len _ _ _ _ := by
    rintro ⟨A, n, c, rfl, _⟩
    rfl
  pos := by omega

/-- The cell of a list of components. -/
def ListR (w : World) (B : Nat) (l : List Comp) (vs : List Value) : Prop := ∃ A n c, vs = [.slice A n c] ∧ RowAt CompR 2 w B A n l

theorem ListR.lasts : Lasts ListR 1 where
  sub _ _ _ _ _ _ hs hB := by
    rintro ⟨A, n, c, h1, h2⟩
    exact ⟨A, n, c, h1, h2.sub CompR.lasts hs hB⟩
  len _ _ _ _ := by
    rintro ⟨A, n, c, rfl, _⟩
    rfl
  pos := by omega

/-- A row is handed back, all of it new. -/
def RowQ {γ : Type} (R : World → Nat → γ → List Value → Prop) (size : Nat) (l : List γ) (w : World) (v : Value) (w' : World) : Prop := ∃ A k c, v = .slice A k c ∧ RowAt R size (since w w') w'.heap.size A k l

/-- What ends a loop that made a row. -/
theorem rowEnd {γ : Type} {R : World → Nat → γ → List Value → Prop} {size : Nat} (hR : Lasts R size) {l : List γ} {w w0 w' : World} {bs : List Nat} {objs : List SObj} {x : UV} (hb : Below w.heap.size w w0) (hb1 : Below w.heap.size w w') (hm : RowAt R size (since w0 w') w'.heap.size x.A x.k l)
    (hbs : ∀ b ∈ bs, w.heap.size ≤ b ∧ b < w0.heap.size) : (T.leaf .ret [.xs x.A x.k x.c] (SS.mk objs [] true w' bs)).holds (ctx Tryz.prog (retQ fun v w2 => RowQ R size l w v w2 ∧ Below w.heap.size w w2)) :=
  retF (Fine.mk' hb1 fun b hb => (hbs b hb).1) fun β w2 hst2 hb2 => ⟨x.A, x.k, x.c, rfl, hm.sub hR (since_old (hst2.old rfl) rfl (fun b hb => (hbs b hb).2) hb.size) (hst2.old rfl).sz⟩

theorem canRead1 {w : World} {pre : List Nat} {a : Addr} {v : SV} (hb : a.block < w.heap.size) (hp : a.block ∉ pre) (hc : w.cell? a = some (v.den id)) : canRead w pre a [v] :=
  ⟨hb, hp, fun j u hj => match j, hj with
    | 0, hj => by
      simp only [List.getElem?_cons_zero, Option.some.injEq] at hj
      subst hj
      exact hc
    | j + 1, hj => by simp at hj⟩

theorem Bts.since {w w' : World} {B : Nat} {A : Option Addr} {n : Nat} {l : List UInt8} (h : Bts w' B A n l) (hf : Fresh w A) : Bts (Rx.since w w') B A n l := by
  refine ⟨h.1, fun hn => ?_⟩
  obtain ⟨a, ha, hb, hx⟩ := h.2 hn
  exact ⟨a, ha, hb, fun i x hi => (cell_since _ _ _ _).2 ⟨by rw [add_block]; exact hf a ha, hx i x hi⟩⟩

theorem one_c (a : Addr) (x : Comp) (B : Nat) (w : World) (h : CellsAt (MaR w B) w B a x) (hB : B ≤ w.heap.size) :
    Calls Tryz.prog 44 #[.pointer (some a)] w (Ret (fun v w' => ∃ A n c, v = .agg #[.int .i64 x.code, .slice A n c] ∧ Bts (Rx.since w w') w'.heap.size A n x.val) w) := by
  obtain ⟨h1, vs, ⟨pre, p, rfl, ⟨hp1, y, hp2⟩, hlen⟩, hcell⟩ := h
  have c0 : w.cell? ((a.add 0).add 0) = some (.string ⟨(pre ++ x.val).toArray⟩) := hcell 0 _ rfl
  have c1 : w.cell? ((a.add 1).add 0) = some (.pointer (some p)) := hcell 1 _ rfl
  have c2 : w.cell? ((a.add 2).add 0) = some (.int .i64 (pre.length : Int)) := hcell 2 _ rfl
  have c3 : w.cell? ((p.add 1).add 0) = some (.int .i64 x.code) := hp2 1 _ rfl
  have e0 : strAt w ((a.add 0).add 0) = ⟨(pre ++ x.val).toArray⟩ := by simp [strAt, c0]
  have e1 : ptrAt w ((a.add 1).add 0) = p := by simp [ptrAt, c1]
  have e2 : intAt w ((a.add 2).add 0) = (pre.length : Int) := by simp [intAt, c2]
  have e3 : intAt w ((p.add 1).add 0) = x.code := by simp [intAt, c3]
  refine funF (hk := noHk) (n := 1000) (args := [.xp a]) ⟨trivial, trivial⟩ ?_
  refine holds_eq (t44 a w) ?_
  rw [e0, e1, e2, e3]
  refine needT (canRead1 (by rw [add_block]; omega) (by simp) c1) (needT (canRead1 (by rw [add_block]; omega) (by simp) c1) (needT (canRead1 (by rw [add_block]; omega) (by simp) c3) (needT (canRead1 (by rw [add_block]; omega) (by simp) c0) (needT (canRead1 (by rw [add_block]; omega) (by simp) c2) (needT ?_ (chooseT ?_))))))
  · exact ⟨by omega, by simp [ByteArray.size]; omega⟩
  rintro cc ⟨t, hcc⟩
  refine retF (Fine.start _ _) fun β w' hst hb => ?_
  have hz : ((⟨(pre ++ x.val).toArray⟩ : ByteArray).extract ((pre.length : Int)).toNat (⟨(pre ++ x.val).toArray⟩ : ByteArray).size).size = x.val.length := by simp [ByteArray.size_extract, ByteArray.size]
  have o := hst.old rfl
  have h0 := hst.at_ 1 _ rfl
  have hfr : Fresh w (some ⟨β 1, 0, none⟩) := fun a ha => by
    cases ha
    exact (Fine.start w _).new o 1 (by simp [SS.n])
  refine ⟨some ⟨β 1, 0, none⟩, x.val.length, cc, ?_, ?_⟩
  · simp only [SV.den, denL]
    rw [hz]
  · have hL := bts_of_ints (k := x.val.length) h0 ?_ ?_ (hst.lt 1 (by simp [SS.n]))
    · refine Bts.since ?_ hfr
      refine cast ?_ hL
      congr 1
      simp [ByteArray.size, Function.comp_def]
    · intro v hv
      rcases List.mem_append.1 hv with h | h
      · obtain ⟨b, _, rfl⟩ := List.mem_map.1 h
        have := b.toNat_lt
        omega
      · have := List.eq_of_mem_replicate h
        omega
    · simp [ByteArray.size]

theorem cvCall {x : Comp} {Q : SE → List Value → World → Prop} {β0 : Nat → Nat} {n0 : Nat} {s : SS} {w : World} {bs : List Nat} {args : List SV} {objs : List SObj} {k : CV → World → List Nat → T} (hf : KFine bs w s) (hs0 : s.objs = objs)
    (hc : ∀ β wc, St { P := Tryz.prog, β0 := β0, n0 := n0, Q := Q } β s wc → Keep bs w wc → ∃ a B, (denL β args).toArray = #[.pointer (some a)] ∧ CellsAt (MaR wc B) wc B a x ∧ B ≤ wc.heap.size)
    (hk : ∀ y wc w' bs', Keep bs w wc → Below wc.heap.size wc w' → Keep bs w w' → (∀ b ∈ bs', (b ∈ bs ∨ w.heap.size ≤ b) ∧ b < wc.heap.size) → CompR (Rx.since wc w') w'.heap.size x [.int .i64 y.code, .slice y.A y.n y.c] → (k y w' bs').holds { P := Tryz.prog, β0 := β0, n0 := n0, Q := Q }) :
    (T.call 44 args s CV (fun x => (.agg [.int .i64 x.code false, .xs x.A x.n x.c], objs)) k).holds { P := Tryz.prog, β0 := β0, n0 := n0, Q := Q } := by
  refine callKN (R := fun (y : CV) wc w' => CompR (Rx.since wc w') w'.heap.size x [.int .i64 y.code, .slice y.A y.n y.c]) hf (fun x => ⟨hs0.symm, trivial, trivial, trivial⟩) (fun β wc hst ho hkp => ?_) (fun y wc w' bs' h1 hr h2 h3 h4 => hk y wc w' bs' h1 h2 h3 h4 hr)
  obtain ⟨a, B, h1, h2, h3⟩ := hc β wc hst hkp
  show Calls Tryz.prog 44 (denL β args).toArray wc _
  rw [h1]
  refine (one_c a x B wc h2 h3).mono ?_
  rintro e w' ⟨v, rfl, ⟨A, kk, c, rfl, h5⟩, hb'⟩
  exact ⟨⟨x.code, A, kk, c⟩, rfl, hb', A, kk, c, rfl, h5⟩

/-- What a round reads of an address. -/
theorem maRead {w : World} {B : Nat} {a : Addr} {x : Comp} (h : CellsAt (MaR w B) w B a x) (hB : B ≤ w.heap.size) {pre : List Nat} (hp : ∀ b ∈ pre, B ≤ b) :
    canRead w pre a [SV.str (strAt w (a.add 0)) false, SV.xp (ptrAt w (a.add 1)), SV.int IntKind.i64 (intAt w (a.add 2)) false] ∧
    ∃ pr p, [Value.string (strAt w (a.add 0)), .pointer (some (ptrAt w (a.add 1))), .int .i64 (intAt w (a.add 2))] = [.string ⟨(pr ++ x.val).toArray⟩, .pointer (some p), .int .i64 (pr.length : Int)] ∧ ProtAt w B p x.code ∧ pr.length ≤ 26 := by
  obtain ⟨h1, vs, ⟨pr, p, rfl, hp1, hlen⟩, hcell⟩ := h
  have c0 := hcell 0 _ rfl
  have c1 := hcell 1 _ rfl
  have c2 := hcell 2 _ rfl
  have e0 : strAt w (a.add 0) = ⟨(pr ++ x.val).toArray⟩ := by simp [strAt, c0]
  have e1 : ptrAt w (a.add 1) = p := by simp [ptrAt, c1]
  have e2 : intAt w (a.add 2) = (pr.length : Int) := by simp [intAt, c2]
  rw [e0, e1, e2]
  refine ⟨⟨by omega, fun hm => by have := hp _ hm; omega, fun j v hj => ?_⟩, pr, p, rfl, hp1, hlen⟩
  match j, hj with
  | 0, hj => simp only [List.getElem?_cons_zero, Option.some.injEq] at hj; subst hj; exact c0
  | 1, hj => simp only [List.getElem?_cons_succ, List.getElem?_cons_zero, Option.some.injEq] at hj; subst hj; exact c1
  | 2, hj => simp only [List.getElem?_cons_succ, List.getElem?_cons_zero, Option.some.injEq] at hj; subst hj; exact c2
  | j + 3, hj => simp at hj

theorem cellsIn {w : World} {b : Nat} {vs rest : List Value} {e : TypeId} {fr : Nat × Nat} (h : w.heap[b]? = some (.cells (vs ++ rest).toArray e fr)) : ∀ j v, vs[j]? = some v → w.cell? (Addr.add ⟨b, 0, none⟩ j) = some v := by
  intro j v hj
  have ha : (Addr.add ⟨b, 0, none⟩ j) = ⟨b, j, none⟩ := by unfold Addr.add; split <;> simp_all
  rw [ha]
  simp only [World.cell?, h]
  simp [List.getElem?_append_left (List.getElem?_eq_some_iff.1 hj).1, hj]

theorem components_c (A : Option Addr) (n c : Nat) (l : List Comp) (B : Nat) (w : World) (h : RowAt MaR 3 w B A n l) (hB : B ≤ w.heap.size) (hn : (n : Int) < 2 ^ 40) :
    Calls Tryz.prog 27 #[.slice A n c] w (Ret (RowQ CompR 2 l w) w) := by
  have hl := h.1
  refine funF (hk := hkLA 18) (n := 1000) (args := [.xs A n c]) ⟨trivial, trivial⟩ ?_
  rw [t27]
  refine loopA (Fine.start _ _) 35 2 LA (α := Nat) (fun i => [.xs A n c, .int .i64 n false, .int .i64 i false]) (fun i => n - i) (IR CompR l n) (ER CompR 2 l)
    (fun _ => hk27) 1000 (by simp) (by simp [LA]) (by simp [LA]) (fun _ => ⟨trivial, trivial, trivial, trivial⟩) rfl rfl rfl (by simp) (by simp) (fun _ => ⟨trivial, trivial⟩) (fun _ => trivial) ?_ ?_ ?_ ?_
  · rintro w0 i w1 g hbw0 hI hb0 hbw
    refine holds_eq (n27 A n c i w1 g) (splitD (fun hlt => ?_) (fun hge => exitNil CompR.lasts hl (by omega) hI hb0 (fun _ => rfl)))
    have hlt' : i < n := by omega
    have hB1 : B ≤ w1.heap.size := Nat.le_trans hB hbw.size
    obtain ⟨ad, x, rfl, had, hx, hR⟩ := (h.sub MaR.lasts (Below.sub (hbw.mono hB)) (Nat.le_refl _)).get hlt'
    obtain ⟨r1, pr, p, r2, r3, r4⟩ := maRead hR hB1 (pre := []) (by simp)
    refine needT (by omega) (needT rfl (needT r1 ?_))
    refine cvCall (x := x) (bs := []) ⟨rfl, Keep.refl _ _, by simp⟩ rfl (fun β wc hst hk => ?_) fun m wc w2 bs' hk1 hb2 hk2 hbs' hnew => ?_
    · obtain ⟨rest, e1, _⟩ := hst.at_ 0 _ rfl
      refine ⟨⟨β 0, 0, none⟩, wc.heap.size, rfl, ⟨hst.lt 0 (by simp [SS.n]), _, ⟨pr, p, r2, r3.sub (Below.sub (hk.belowB hB1 (by simp))) (Nat.le_trans hB1 hk.size), r4⟩, cellsIn e1⟩, Nat.le_refl _⟩
    · exact appNil CompR.lasts hlt' hx hI hb0 hk1 hb2 hk2 hbs' (by omega) (by decide) (vs := [.int .i64 m.code, .slice m.A m.n m.c]) (fun _ => rfl) (fun _ => rfl) hnew (fun _ => by rw [next_i hlt' (by omega)]; rfl)
  · rintro w0 i w1 g b kk cc Ls hbw0 hI hb0 hbw hb1 hb2 hLs hkc
    refine holds_eq (r27 A n c i kk cc Ls w1 [b] g) (splitD (fun hlt => ?_) (fun hge => exitRow CompR.lasts hl (by omega) hI hb0 hb1 hLs hkc))
    have hlt' : i < n := by omega
    have hB1 : B ≤ w1.heap.size := Nat.le_trans hB hbw.size
    have hBb : ∀ b' ∈ [b], B ≤ b' := fun b' hb' => by
      have := hbw0.size
      simp at hb'
      omega
    obtain ⟨ad, x, rfl, had, hx, hR⟩ := (h.sub MaR.lasts (Below.sub (hbw.mono hB)) (Nat.le_refl _)).get hlt'
    obtain ⟨r1, pr, p, r2, r3, r4⟩ := maRead hR hB1 (pre := [b]) hBb
    refine needT (by omega) (needT rfl (needT r1 ?_))
    refine cvCall (x := x) (bs := [b]) ⟨rfl, Keep.refl _ _, fun b hb => .inl hb⟩ rfl (fun β wc hst hk => ?_) fun m wc w2 bs' hk1 hb2 hk2 hbs' hnew => ?_
    · obtain ⟨rest, e1, _⟩ := hst.at_ 1 _ rfl
      refine ⟨⟨β 1, 0, none⟩, wc.heap.size, rfl, ⟨hst.lt 1 (by simp [SS.n]), _, ⟨pr, p, r2, r3.sub (Below.sub (hk.belowB hB1 hBb)) (Nat.le_trans hB1 hk.size), r4⟩, cellsIn e1⟩, Nat.le_refl _⟩
    · exact appRow CompR.lasts hlt' hx hI hb0 hb1 hLs hkc hk1 hb2 hk2 hbs' (by omega) (by omega) (vs := [.int .i64 m.code, .slice m.A m.n m.c]) rfl (fun _ => rfl) hnew (fun _ => by rw [next_i hlt' (by omega)]; rfl)
  · intro β w0 hst hb
    exact ⟨0, rfl, Nat.zero_le _, .nil⟩
  · rintro β w0 hst hb e lv w' ⟨rfl, A', k, c', rfl, hmas⟩ hb0 hb1
    exact .inl ⟨⟨A', k, c'⟩, rfl, rfl, fun g bs hbs => rowEnd CompR.lasts (x := ⟨A', k, c'⟩) hb hb1 hmas hbs⟩

end Go.Proofs.YtdmnoagahjbjhaaGreatDoor
end

section
/- The protocols of an address. -/
set_option linter.unusedVariables false
set_option linter.unusedSimpArgs false
set_option maxRecDepth 20000
namespace Go.Proofs.YtdmnoagahjbjhaaGreatDoor
open Go Go.Rx Go.RowKit
structure PZ where
  i : Nat
  Ls : List Value
def LP : SE → List Nat
  | .normal => [3, 9, 10, 11]
  | .exit 0 => [3]
  | _ => []
def pSvs (A : Option Addr) (n c : Nat) (z : PZ) : List SV := [.slc 0 0 z.i n false false, .xs A n c, .int .i64 n false, .int .i64 z.i false]
def pObjs (n : Nat) (z : PZ) : List SObj := [.vals z.Ls (n * 6) 71 0 0]
def lhP (n : Nat) : LoopHook := mkHookT 21 PZ (.exit 0) [3] (fun z => [.slc 0 0 z.i n false false]) (pObjs n) PZ .ret [] (fun _ => []) (pObjs n)
def hkP (n : Nat) : Hooks := { calls := fun _ => none, loops := fun _ _ => some (lhP n) }
set_option maxRecDepth 100000 in
theorem t41 (A : Option Addr) (n c : Nat) (w : World) : xFunc Tryz.prog (hkP n) 1000 41 [.xs A n c] (SS.mk [] [] true w []) =
  (.need ((0 : Int) ≤ (↑n : Int) ∧ (↑(80 : Nat) : Int) * (↑n : Int) ≤ (2 : Int) ^ (48 : Nat) ∧ (↑n : Int) < (2 : Int) ^ (63 : Nat))
  (.loop 41 (loopOf Tryz.prog 41 4) ([(.xs A n c), (.tup []), (.one (.slice none 0 0) rfl), (.slc 0 0 0 ((↑n : Int).toNat) true false), (.tup []), (.tup []), (.xs A n c), (.int .i64 ((↑n : Int)) false), (.slc 0 0 0 ((↑n : Int).toNat) true false), (.xs A n c), (.int .i64 ((↑n : Int)) false), (.int .i64 0 true)] ++ List.replicate 9 undefS) (SS.mk [(.vals [] ((↑n : Int).toNat * (6 : Nat)) 71 0 0)] [] true w []) (LoopHook.X (lhP n)) (LoopHook.out (lhP n) ([(.xs A n c), (.tup []), (.one (.slice none 0 0) rfl), (.slc 0 0 0 ((↑n : Int).toNat) true false), (.tup []), (.tup []), (.xs A n c), (.int .i64 ((↑n : Int)) false), (.slc 0 0 0 ((↑n : Int).toNat) true false), (.xs A n c), (.int .i64 ((↑n : Int)) false), (.int .i64 0 true)] ++ List.replicate 9 undefS) (SS.mk [(.vals [] ((↑n : Int).toNat * (6 : Nat)) 71 0 0)] [] true w [])) (fun x0 w0 b0 =>
   (.leaf .ret [(.slc 0 0 x0.fst.i n false false)] (SS.mk [(.vals x0.fst.Ls (n * (6 : Nat)) 71 0 0)] [] true w0 b0)))
  (LoopHook.Y (lhP n)) (LoopHook.out' (lhP n) ([(.xs A n c), (.tup []), (.one (.slice none 0 0) rfl), (.slc 0 0 0 ((↑n : Int).toNat) true false), (.tup []), (.tup []), (.xs A n c), (.int .i64 ((↑n : Int)) false), (.slc 0 0 0 ((↑n : Int).toNat) true false), (.xs A n c), (.int .i64 ((↑n : Int)) false), (.int .i64 0 true)] ++ List.replicate 9 undefS) (SS.mk [(.vals [] ((↑n : Int).toNat * (6 : Nat)) 71 0 0)] [] true w [])) (fun x0 w0 b0 =>
   (.leaf .ret [(.raw (x0.snd (2 : Nat)))] (SS.mk [(.vals x0.fst.Ls (n * (6 : Nat)) 71 0 0)] [] true w0 b0))))) := by kernel_rfl
set_option maxRecDepth 100000 in
theorem r41 (A : Option Addr) (n c : Nat) (z : PZ) (w : World) (bs : List Nat) (g : Nat → Value) : xCode Tryz.prog noHk 1000 41 (loopOf Tryz.prog 41 4) (mkFrame ((LP .normal).zip (pSvs A n c z)) g 21 0) (fun e a s => .leaf e (sel LP e a) s) (SS.mk (pObjs n z) [] true w bs) =
  (.split (decide ((↑z.i : Int) < (↑n : Int)))
   (.need ((0 : Int) ≤ (↑z.i : Int) ∧ (↑z.i : Int) < (↑n : Int))
   (.need (A.isSome = true)
   (.need (canRead w bs ((A.getD default).add ((↑z.i : Int).toNat * (3 : Nat))) [SV.str (strAt w (((A.getD default).add ((↑z.i : Int).toNat * (3 : Nat))).add (0 : Nat))) false, SV.xp (ptrAt w (((A.getD default).add ((↑z.i : Int).toNat * (3 : Nat))).add (1 : Nat))), SV.int IntKind.i64 (intAt w (((A.getD default).add ((↑z.i : Int).toNat * (3 : Nat))).add (2 : Nat))) false])
   (.need (canRead w bs (ptrAt w (((A.getD default).add ((↑z.i : Int).toNat * (3 : Nat))).add (1 : Nat))) [SV.str (strAt w ((ptrAt w (((A.getD default).add ((↑z.i : Int).toNat * (3 : Nat))).add (1 : Nat))).add (0 : Nat))) false, SV.int IntKind.i64 (intAt w ((ptrAt w (((A.getD default).add ((↑z.i : Int).toNat * (3 : Nat))).add (1 : Nat))).add (1 : Nat))) false, SV.xs (slA w ((ptrAt w (((A.getD default).add ((↑z.i : Int).toNat * (3 : Nat))).add (1 : Nat))).add (2 : Nat))) (slN w ((ptrAt w (((A.getD default).add ((↑z.i : Int).toNat * (3 : Nat))).add (1 : Nat))).add (2 : Nat))) (slC w ((ptrAt w (((A.getD default).add ((↑z.i : Int).toNat * (3 : Nat))).add (1 : Nat))).add (2 : Nat))), SV.int IntKind.i64 (intAt w ((ptrAt w (((A.getD default).add ((↑z.i : Int).toNat * (3 : Nat))).add (1 : Nat))).add (3 : Nat))) false, SV.bool (boolAt w ((ptrAt w (((A.getD default).add ((↑z.i : Int).toNat * (3 : Nat))).add (1 : Nat))).add (4 : Nat))) false, SV.one (oneAt w ((ptrAt w (((A.getD default).add ((↑z.i : Int).toNat * (3 : Nat))).add (1 : Nat))).add (5 : Nat))).val (extOne._proof_1 ((((SS.mk (pObjs n z) [] true w bs).new (SObj.cells (SV.agg (List.map SV.cellOf #[Value.string (ByteArray.mk #[]), Value.pointer none, Value.int IntKind.i64 (0 : Int)].toList)).cells (SV.agg (List.map SV.cellOf #[Value.string (ByteArray.mk #[]), Value.pointer none, Value.int IntKind.i64 (0 : Int)].toList)).cells.length (74 : Nat) (0 : Nat) (0 : Nat))).set (SS.mk (pObjs n z) [] true w bs).n (SObj.cells [SV.str (strAt (SS.mk (pObjs n z) [] true w bs).w0 (((A.getD default).add ((↑z.i : Int).toNat * Tryz.prog.types[(74 : Nat)].size)).add (0 : Nat))) false, SV.xp (ptrAt (SS.mk (pObjs n z) [] true w bs).w0 (((A.getD default).add ((↑z.i : Int).toNat * Tryz.prog.types[(74 : Nat)].size)).add ((0 : Nat) + (1 : Nat)))), SV.int IntKind.i64 (intAt (SS.mk (pObjs n z) [] true w bs).w0 (((A.getD default).add ((↑z.i : Int).toNat * Tryz.prog.types[(74 : Nat)].size)).add ((0 : Nat) + (1 : Nat) + (1 : Nat)))) false] (SV.agg (List.map SV.cellOf #[Value.string (ByteArray.mk #[]), Value.pointer none, Value.int IntKind.i64 (0 : Int)].toList)).cells.length (74 : Nat) (0 : Nat) (0 : Nat))).new (SObj.cells (SV.agg (List.map SV.cellOf #[Value.string (ByteArray.mk #[]), Value.int IntKind.i64 (0 : Int), Value.slice none (0 : Nat) (0 : Nat), Value.int IntKind.i64 (0 : Int), Value.bool false, Value.nilIface].toList)).cells (SV.agg (List.map SV.cellOf #[Value.string (ByteArray.mk #[]), Value.int IntKind.i64 (0 : Int), Value.slice none (0 : Nat) (0 : Nat), Value.int IntKind.i64 (0 : Int), Value.bool false, Value.nilIface].toList)).cells.length (71 : Nat) (0 : Nat) (0 : Nat))).w0 ((ptrAt (SS.mk (pObjs n z) [] true w bs).w0 (((A.getD default).add ((↑z.i : Int).toNat * Tryz.prog.types[(74 : Nat)].size)).add ((0 : Nat) + (1 : Nat)))).add ((0 : Nat) + (1 : Nat) + (1 : Nat) + (1 : Nat) + (1 : Nat) + (1 : Nat))))])
   (.split (decide (z.i + (1 : Nat) ≤ n))
    (.need ((0 : Nat) + z.i * (6 : Nat) = z.Ls.length ∧ z.Ls.length + (denL id [SV.str (strAt w ((ptrAt w (((A.getD default).add ((↑z.i : Int).toNat * (3 : Nat))).add (1 : Nat))).add (0 : Nat))) false, SV.int IntKind.i64 (intAt w ((ptrAt w (((A.getD default).add ((↑z.i : Int).toNat * (3 : Nat))).add (1 : Nat))).add (1 : Nat))) false, SV.xs (slA w ((ptrAt w (((A.getD default).add ((↑z.i : Int).toNat * (3 : Nat))).add (1 : Nat))).add (2 : Nat))) (slN w ((ptrAt w (((A.getD default).add ((↑z.i : Int).toNat * (3 : Nat))).add (1 : Nat))).add (2 : Nat))) (slC w ((ptrAt w (((A.getD default).add ((↑z.i : Int).toNat * (3 : Nat))).add (1 : Nat))).add (2 : Nat))), SV.int IntKind.i64 (intAt w ((ptrAt w (((A.getD default).add ((↑z.i : Int).toNat * (3 : Nat))).add (1 : Nat))).add (3 : Nat))) false, SV.bool (boolAt w ((ptrAt w (((A.getD default).add ((↑z.i : Int).toNat * (3 : Nat))).add (1 : Nat))).add (4 : Nat))) false, SV.one (oneAt w ((ptrAt w (((A.getD default).add ((↑z.i : Int).toNat * (3 : Nat))).add (1 : Nat))).add (5 : Nat))).val (extOne._proof_1 ((((SS.mk (pObjs n z) [] true w bs).new (SObj.cells (SV.agg (List.map SV.cellOf #[Value.string (ByteArray.mk #[]), Value.pointer none, Value.int IntKind.i64 (0 : Int)].toList)).cells (SV.agg (List.map SV.cellOf #[Value.string (ByteArray.mk #[]), Value.pointer none, Value.int IntKind.i64 (0 : Int)].toList)).cells.length (74 : Nat) (0 : Nat) (0 : Nat))).set (SS.mk (pObjs n z) [] true w bs).n (SObj.cells [SV.str (strAt (SS.mk (pObjs n z) [] true w bs).w0 (((A.getD default).add ((↑z.i : Int).toNat * Tryz.prog.types[(74 : Nat)].size)).add (0 : Nat))) false, SV.xp (ptrAt (SS.mk (pObjs n z) [] true w bs).w0 (((A.getD default).add ((↑z.i : Int).toNat * Tryz.prog.types[(74 : Nat)].size)).add ((0 : Nat) + (1 : Nat)))), SV.int IntKind.i64 (intAt (SS.mk (pObjs n z) [] true w bs).w0 (((A.getD default).add ((↑z.i : Int).toNat * Tryz.prog.types[(74 : Nat)].size)).add ((0 : Nat) + (1 : Nat) + (1 : Nat)))) false] (SV.agg (List.map SV.cellOf #[Value.string (ByteArray.mk #[]), Value.pointer none, Value.int IntKind.i64 (0 : Int)].toList)).cells.length (74 : Nat) (0 : Nat) (0 : Nat))).new (SObj.cells (SV.agg (List.map SV.cellOf #[Value.string (ByteArray.mk #[]), Value.int IntKind.i64 (0 : Int), Value.slice none (0 : Nat) (0 : Nat), Value.int IntKind.i64 (0 : Int), Value.bool false, Value.nilIface].toList)).cells (SV.agg (List.map SV.cellOf #[Value.string (ByteArray.mk #[]), Value.int IntKind.i64 (0 : Int), Value.slice none (0 : Nat) (0 : Nat), Value.int IntKind.i64 (0 : Int), Value.bool false, Value.nilIface].toList)).cells.length (71 : Nat) (0 : Nat) (0 : Nat))).w0 ((ptrAt (SS.mk (pObjs n z) [] true w bs).w0 (((A.getD default).add ((↑z.i : Int).toNat * Tryz.prog.types[(74 : Nat)].size)).add ((0 : Nat) + (1 : Nat)))).add ((0 : Nat) + (1 : Nat) + (1 : Nat) + (1 : Nat) + (1 : Nat) + (1 : Nat))))]).length ≤ n * (6 : Nat) ∧ thawed (0 : Nat) (0 : Nat) z.Ls.length (denL id [SV.str (strAt w ((ptrAt w (((A.getD default).add ((↑z.i : Int).toNat * (3 : Nat))).add (1 : Nat))).add (0 : Nat))) false, SV.int IntKind.i64 (intAt w ((ptrAt w (((A.getD default).add ((↑z.i : Int).toNat * (3 : Nat))).add (1 : Nat))).add (1 : Nat))) false, SV.xs (slA w ((ptrAt w (((A.getD default).add ((↑z.i : Int).toNat * (3 : Nat))).add (1 : Nat))).add (2 : Nat))) (slN w ((ptrAt w (((A.getD default).add ((↑z.i : Int).toNat * (3 : Nat))).add (1 : Nat))).add (2 : Nat))) (slC w ((ptrAt w (((A.getD default).add ((↑z.i : Int).toNat * (3 : Nat))).add (1 : Nat))).add (2 : Nat))), SV.int IntKind.i64 (intAt w ((ptrAt w (((A.getD default).add ((↑z.i : Int).toNat * (3 : Nat))).add (1 : Nat))).add (3 : Nat))) false, SV.bool (boolAt w ((ptrAt w (((A.getD default).add ((↑z.i : Int).toNat * (3 : Nat))).add (1 : Nat))).add (4 : Nat))) false, SV.one (oneAt w ((ptrAt w (((A.getD default).add ((↑z.i : Int).toNat * (3 : Nat))).add (1 : Nat))).add (5 : Nat))).val (extOne._proof_1 ((((SS.mk (pObjs n z) [] true w bs).new (SObj.cells (SV.agg (List.map SV.cellOf #[Value.string (ByteArray.mk #[]), Value.pointer none, Value.int IntKind.i64 (0 : Int)].toList)).cells (SV.agg (List.map SV.cellOf #[Value.string (ByteArray.mk #[]), Value.pointer none, Value.int IntKind.i64 (0 : Int)].toList)).cells.length (74 : Nat) (0 : Nat) (0 : Nat))).set (SS.mk (pObjs n z) [] true w bs).n (SObj.cells [SV.str (strAt (SS.mk (pObjs n z) [] true w bs).w0 (((A.getD default).add ((↑z.i : Int).toNat * Tryz.prog.types[(74 : Nat)].size)).add (0 : Nat))) false, SV.xp (ptrAt (SS.mk (pObjs n z) [] true w bs).w0 (((A.getD default).add ((↑z.i : Int).toNat * Tryz.prog.types[(74 : Nat)].size)).add ((0 : Nat) + (1 : Nat)))), SV.int IntKind.i64 (intAt (SS.mk (pObjs n z) [] true w bs).w0 (((A.getD default).add ((↑z.i : Int).toNat * Tryz.prog.types[(74 : Nat)].size)).add ((0 : Nat) + (1 : Nat) + (1 : Nat)))) false] (SV.agg (List.map SV.cellOf #[Value.string (ByteArray.mk #[]), Value.pointer none, Value.int IntKind.i64 (0 : Int)].toList)).cells.length (74 : Nat) (0 : Nat) (0 : Nat))).new (SObj.cells (SV.agg (List.map SV.cellOf #[Value.string (ByteArray.mk #[]), Value.int IntKind.i64 (0 : Int), Value.slice none (0 : Nat) (0 : Nat), Value.int IntKind.i64 (0 : Int), Value.bool false, Value.nilIface].toList)).cells (SV.agg (List.map SV.cellOf #[Value.string (ByteArray.mk #[]), Value.int IntKind.i64 (0 : Int), Value.slice none (0 : Nat) (0 : Nat), Value.int IntKind.i64 (0 : Int), Value.bool false, Value.nilIface].toList)).cells.length (71 : Nat) (0 : Nat) (0 : Nat))).w0 ((ptrAt (SS.mk (pObjs n z) [] true w bs).w0 (((A.getD default).add ((↑z.i : Int).toNat * Tryz.prog.types[(74 : Nat)].size)).add ((0 : Nat) + (1 : Nat)))).add ((0 : Nat) + (1 : Nat) + (1 : Nat) + (1 : Nat) + (1 : Nat) + (1 : Nat))))]).length = true)
    (.leaf .normal [(.slc 0 0 (z.i + (1 : Nat)) n false false), (.xs A n c), (.int .i64 ((↑n : Int)) false), (.int .i64 (IntKind.i64.wrap ((↑z.i : Int) + (1 : Int))) false)] (SS.mk [(.vals (z.Ls ++ denL id [SV.str (strAt w ((ptrAt w (((A.getD default).add ((↑z.i : Int).toNat * (3 : Nat))).add (1 : Nat))).add (0 : Nat))) false, SV.int IntKind.i64 (intAt w ((ptrAt w (((A.getD default).add ((↑z.i : Int).toNat * (3 : Nat))).add (1 : Nat))).add (1 : Nat))) false, SV.xs (slA w ((ptrAt w (((A.getD default).add ((↑z.i : Int).toNat * (3 : Nat))).add (1 : Nat))).add (2 : Nat))) (slN w ((ptrAt w (((A.getD default).add ((↑z.i : Int).toNat * (3 : Nat))).add (1 : Nat))).add (2 : Nat))) (slC w ((ptrAt w (((A.getD default).add ((↑z.i : Int).toNat * (3 : Nat))).add (1 : Nat))).add (2 : Nat))), SV.int IntKind.i64 (intAt w ((ptrAt w (((A.getD default).add ((↑z.i : Int).toNat * (3 : Nat))).add (1 : Nat))).add (3 : Nat))) false, SV.bool (boolAt w ((ptrAt w (((A.getD default).add ((↑z.i : Int).toNat * (3 : Nat))).add (1 : Nat))).add (4 : Nat))) false, SV.one (oneAt w ((ptrAt w (((A.getD default).add ((↑z.i : Int).toNat * (3 : Nat))).add (1 : Nat))).add (5 : Nat))).val (extOne._proof_1 ((((SS.mk (pObjs n z) [] true w bs).new (SObj.cells (SV.agg (List.map SV.cellOf #[Value.string (ByteArray.mk #[]), Value.pointer none, Value.int IntKind.i64 (0 : Int)].toList)).cells (SV.agg (List.map SV.cellOf #[Value.string (ByteArray.mk #[]), Value.pointer none, Value.int IntKind.i64 (0 : Int)].toList)).cells.length (74 : Nat) (0 : Nat) (0 : Nat))).set (SS.mk (pObjs n z) [] true w bs).n (SObj.cells [SV.str (strAt (SS.mk (pObjs n z) [] true w bs).w0 (((A.getD default).add ((↑z.i : Int).toNat * Tryz.prog.types[(74 : Nat)].size)).add (0 : Nat))) false, SV.xp (ptrAt (SS.mk (pObjs n z) [] true w bs).w0 (((A.getD default).add ((↑z.i : Int).toNat * Tryz.prog.types[(74 : Nat)].size)).add ((0 : Nat) + (1 : Nat)))), SV.int IntKind.i64 (intAt (SS.mk (pObjs n z) [] true w bs).w0 (((A.getD default).add ((↑z.i : Int).toNat * Tryz.prog.types[(74 : Nat)].size)).add ((0 : Nat) + (1 : Nat) + (1 : Nat)))) false] (SV.agg (List.map SV.cellOf #[Value.string (ByteArray.mk #[]), Value.pointer none, Value.int IntKind.i64 (0 : Int)].toList)).cells.length (74 : Nat) (0 : Nat) (0 : Nat))).new (SObj.cells (SV.agg (List.map SV.cellOf #[Value.string (ByteArray.mk #[]), Value.int IntKind.i64 (0 : Int), Value.slice none (0 : Nat) (0 : Nat), Value.int IntKind.i64 (0 : Int), Value.bool false, Value.nilIface].toList)).cells (SV.agg (List.map SV.cellOf #[Value.string (ByteArray.mk #[]), Value.int IntKind.i64 (0 : Int), Value.slice none (0 : Nat) (0 : Nat), Value.int IntKind.i64 (0 : Int), Value.bool false, Value.nilIface].toList)).cells.length (71 : Nat) (0 : Nat) (0 : Nat))).w0 ((ptrAt (SS.mk (pObjs n z) [] true w bs).w0 (((A.getD default).add ((↑z.i : Int).toNat * Tryz.prog.types[(74 : Nat)].size)).add ((0 : Nat) + (1 : Nat)))).add ((0 : Nat) + (1 : Nat) + (1 : Nat) + (1 : Nat) + (1 : Nat) + (1 : Nat))))]) (n * (6 : Nat)) 71 0 0), (.cells [(.str (strAt w (((A.getD default).add ((↑z.i : Int).toNat * (3 : Nat))).add (0 : Nat))) false), (.xp (ptrAt w (((A.getD default).add ((↑z.i : Int).toNat * (3 : Nat))).add (1 : Nat)))), (.int .i64 (intAt w (((A.getD default).add ((↑z.i : Int).toNat * (3 : Nat))).add (2 : Nat))) false)] 3 74 0 0), (.cells [(.str (strAt w ((ptrAt w (((A.getD default).add ((↑z.i : Int).toNat * (3 : Nat))).add (1 : Nat))).add (0 : Nat))) false), (.int .i64 (intAt w ((ptrAt w (((A.getD default).add ((↑z.i : Int).toNat * (3 : Nat))).add (1 : Nat))).add (1 : Nat))) false), (.xs (slA w ((ptrAt w (((A.getD default).add ((↑z.i : Int).toNat * (3 : Nat))).add (1 : Nat))).add (2 : Nat))) (slN w ((ptrAt w (((A.getD default).add ((↑z.i : Int).toNat * (3 : Nat))).add (1 : Nat))).add (2 : Nat))) (slC w ((ptrAt w (((A.getD default).add ((↑z.i : Int).toNat * (3 : Nat))).add (1 : Nat))).add (2 : Nat)))), (.int .i64 (intAt w ((ptrAt w (((A.getD default).add ((↑z.i : Int).toNat * (3 : Nat))).add (1 : Nat))).add (3 : Nat))) false), (.bool (boolAt w ((ptrAt w (((A.getD default).add ((↑z.i : Int).toNat * (3 : Nat))).add (1 : Nat))).add (4 : Nat))) false), (.one (oneAt w ((ptrAt w (((A.getD default).add ((↑z.i : Int).toNat * (3 : Nat))).add (1 : Nat))).add (5 : Nat))).1 (oneAt w ((ptrAt w (((A.getD default).add ((↑z.i : Int).toNat * (3 : Nat))).add (1 : Nat))).add (5 : Nat))).2)] 6 71 0 0), (.cells [(.str (strAt w ((ptrAt w (((A.getD default).add ((↑z.i : Int).toNat * (3 : Nat))).add (1 : Nat))).add (0 : Nat))) false), (.int .i64 (intAt w ((ptrAt w (((A.getD default).add ((↑z.i : Int).toNat * (3 : Nat))).add (1 : Nat))).add (1 : Nat))) false), (.xs (slA w ((ptrAt w (((A.getD default).add ((↑z.i : Int).toNat * (3 : Nat))).add (1 : Nat))).add (2 : Nat))) (slN w ((ptrAt w (((A.getD default).add ((↑z.i : Int).toNat * (3 : Nat))).add (1 : Nat))).add (2 : Nat))) (slC w ((ptrAt w (((A.getD default).add ((↑z.i : Int).toNat * (3 : Nat))).add (1 : Nat))).add (2 : Nat)))), (.int .i64 (intAt w ((ptrAt w (((A.getD default).add ((↑z.i : Int).toNat * (3 : Nat))).add (1 : Nat))).add (3 : Nat))) false), (.bool (boolAt w ((ptrAt w (((A.getD default).add ((↑z.i : Int).toNat * (3 : Nat))).add (1 : Nat))).add (4 : Nat))) false), (.one (oneAt w ((ptrAt w (((A.getD default).add ((↑z.i : Int).toNat * (3 : Nat))).add (1 : Nat))).add (5 : Nat))).1 (oneAt w ((ptrAt w (((A.getD default).add ((↑z.i : Int).toNat * (3 : Nat))).add (1 : Nat))).add (5 : Nat))).2)] 6 71 0 0)] [] true w bs)))
    (.need ((0 : Nat) + z.i * (6 : Nat) ≤ z.Ls.length ∧ Builtin.nextslicecap (z.i + (1 : Nat)) n * (80 : Nat) ≤ (281474976710656 : Nat) ∧ (↑(z.i + (1 : Nat)) : Int) ≤ IntKind.i64.max)
    (.choose (.appendCap (z.i + (1 : Nat)) n 71) fun c0 =>
    (.leaf .normal [(.slc 4 0 (z.i + (1 : Nat)) c0 false false), (.xs A n c), (.int .i64 ((↑n : Int)) false), (.int .i64 (IntKind.i64.wrap ((↑z.i : Int) + (1 : Int))) false)] (SS.mk [(.vals z.Ls (n * (6 : Nat)) 71 0 0), (.cells [(.str (strAt w (((A.getD default).add ((↑z.i : Int).toNat * (3 : Nat))).add (0 : Nat))) false), (.xp (ptrAt w (((A.getD default).add ((↑z.i : Int).toNat * (3 : Nat))).add (1 : Nat)))), (.int .i64 (intAt w (((A.getD default).add ((↑z.i : Int).toNat * (3 : Nat))).add (2 : Nat))) false)] 3 74 0 0), (.cells [(.str (strAt w ((ptrAt w (((A.getD default).add ((↑z.i : Int).toNat * (3 : Nat))).add (1 : Nat))).add (0 : Nat))) false), (.int .i64 (intAt w ((ptrAt w (((A.getD default).add ((↑z.i : Int).toNat * (3 : Nat))).add (1 : Nat))).add (1 : Nat))) false), (.xs (slA w ((ptrAt w (((A.getD default).add ((↑z.i : Int).toNat * (3 : Nat))).add (1 : Nat))).add (2 : Nat))) (slN w ((ptrAt w (((A.getD default).add ((↑z.i : Int).toNat * (3 : Nat))).add (1 : Nat))).add (2 : Nat))) (slC w ((ptrAt w (((A.getD default).add ((↑z.i : Int).toNat * (3 : Nat))).add (1 : Nat))).add (2 : Nat)))), (.int .i64 (intAt w ((ptrAt w (((A.getD default).add ((↑z.i : Int).toNat * (3 : Nat))).add (1 : Nat))).add (3 : Nat))) false), (.bool (boolAt w ((ptrAt w (((A.getD default).add ((↑z.i : Int).toNat * (3 : Nat))).add (1 : Nat))).add (4 : Nat))) false), (.one (oneAt w ((ptrAt w (((A.getD default).add ((↑z.i : Int).toNat * (3 : Nat))).add (1 : Nat))).add (5 : Nat))).1 (oneAt w ((ptrAt w (((A.getD default).add ((↑z.i : Int).toNat * (3 : Nat))).add (1 : Nat))).add (5 : Nat))).2)] 6 71 0 0), (.cells [(.str (strAt w ((ptrAt w (((A.getD default).add ((↑z.i : Int).toNat * (3 : Nat))).add (1 : Nat))).add (0 : Nat))) false), (.int .i64 (intAt w ((ptrAt w (((A.getD default).add ((↑z.i : Int).toNat * (3 : Nat))).add (1 : Nat))).add (1 : Nat))) false), (.xs (slA w ((ptrAt w (((A.getD default).add ((↑z.i : Int).toNat * (3 : Nat))).add (1 : Nat))).add (2 : Nat))) (slN w ((ptrAt w (((A.getD default).add ((↑z.i : Int).toNat * (3 : Nat))).add (1 : Nat))).add (2 : Nat))) (slC w ((ptrAt w (((A.getD default).add ((↑z.i : Int).toNat * (3 : Nat))).add (1 : Nat))).add (2 : Nat)))), (.int .i64 (intAt w ((ptrAt w (((A.getD default).add ((↑z.i : Int).toNat * (3 : Nat))).add (1 : Nat))).add (3 : Nat))) false), (.bool (boolAt w ((ptrAt w (((A.getD default).add ((↑z.i : Int).toNat * (3 : Nat))).add (1 : Nat))).add (4 : Nat))) false), (.one (oneAt w ((ptrAt w (((A.getD default).add ((↑z.i : Int).toNat * (3 : Nat))).add (1 : Nat))).add (5 : Nat))).1 (oneAt w ((ptrAt w (((A.getD default).add ((↑z.i : Int).toNat * (3 : Nat))).add (1 : Nat))).add (5 : Nat))).2)] 6 71 0 0), (.vals (List.take (z.i * (6 : Nat)) (List.drop (0 : Nat) z.Ls) ++ denL id [SV.str (strAt w ((ptrAt w (((A.getD default).add ((↑z.i : Int).toNat * (3 : Nat))).add (1 : Nat))).add (0 : Nat))) false, SV.int IntKind.i64 (intAt w ((ptrAt w (((A.getD default).add ((↑z.i : Int).toNat * (3 : Nat))).add (1 : Nat))).add (1 : Nat))) false, SV.xs (slA w ((ptrAt w (((A.getD default).add ((↑z.i : Int).toNat * (3 : Nat))).add (1 : Nat))).add (2 : Nat))) (slN w ((ptrAt w (((A.getD default).add ((↑z.i : Int).toNat * (3 : Nat))).add (1 : Nat))).add (2 : Nat))) (slC w ((ptrAt w (((A.getD default).add ((↑z.i : Int).toNat * (3 : Nat))).add (1 : Nat))).add (2 : Nat))), SV.int IntKind.i64 (intAt w ((ptrAt w (((A.getD default).add ((↑z.i : Int).toNat * (3 : Nat))).add (1 : Nat))).add (3 : Nat))) false, SV.bool (boolAt w ((ptrAt w (((A.getD default).add ((↑z.i : Int).toNat * (3 : Nat))).add (1 : Nat))).add (4 : Nat))) false, SV.one (oneAt w ((ptrAt w (((A.getD default).add ((↑z.i : Int).toNat * (3 : Nat))).add (1 : Nat))).add (5 : Nat))).val (extOne._proof_1 ((((SS.mk (pObjs n z) [] true w bs).new (SObj.cells (SV.agg (List.map SV.cellOf #[Value.string (ByteArray.mk #[]), Value.pointer none, Value.int IntKind.i64 (0 : Int)].toList)).cells (SV.agg (List.map SV.cellOf #[Value.string (ByteArray.mk #[]), Value.pointer none, Value.int IntKind.i64 (0 : Int)].toList)).cells.length (74 : Nat) (0 : Nat) (0 : Nat))).set (SS.mk (pObjs n z) [] true w bs).n (SObj.cells [SV.str (strAt (SS.mk (pObjs n z) [] true w bs).w0 (((A.getD default).add ((↑z.i : Int).toNat * Tryz.prog.types[(74 : Nat)].size)).add (0 : Nat))) false, SV.xp (ptrAt (SS.mk (pObjs n z) [] true w bs).w0 (((A.getD default).add ((↑z.i : Int).toNat * Tryz.prog.types[(74 : Nat)].size)).add ((0 : Nat) + (1 : Nat)))), SV.int IntKind.i64 (intAt (SS.mk (pObjs n z) [] true w bs).w0 (((A.getD default).add ((↑z.i : Int).toNat * Tryz.prog.types[(74 : Nat)].size)).add ((0 : Nat) + (1 : Nat) + (1 : Nat)))) false] (SV.agg (List.map SV.cellOf #[Value.string (ByteArray.mk #[]), Value.pointer none, Value.int IntKind.i64 (0 : Int)].toList)).cells.length (74 : Nat) (0 : Nat) (0 : Nat))).new (SObj.cells (SV.agg (List.map SV.cellOf #[Value.string (ByteArray.mk #[]), Value.int IntKind.i64 (0 : Int), Value.slice none (0 : Nat) (0 : Nat), Value.int IntKind.i64 (0 : Int), Value.bool false, Value.nilIface].toList)).cells (SV.agg (List.map SV.cellOf #[Value.string (ByteArray.mk #[]), Value.int IntKind.i64 (0 : Int), Value.slice none (0 : Nat) (0 : Nat), Value.int IntKind.i64 (0 : Int), Value.bool false, Value.nilIface].toList)).cells.length (71 : Nat) (0 : Nat) (0 : Nat))).w0 ((ptrAt (SS.mk (pObjs n z) [] true w bs).w0 (((A.getD default).add ((↑z.i : Int).toNat * Tryz.prog.types[(74 : Nat)].size)).add ((0 : Nat) + (1 : Nat)))).add ((0 : Nat) + (1 : Nat) + (1 : Nat) + (1 : Nat) + (1 : Nat) + (1 : Nat))))]) (c0 * (6 : Nat)) 71 0 0)] [] true w bs)))))))))
   (.leaf (.exit 0) [(.slc 0 0 z.i n false false)] (SS.mk [(.vals z.Ls (n * (6 : Nat)) 71 0 0)] [] true w bs))) := by kernel_rfl

/-- The cells of a protocol; of them the code matters alone. -/
def ProtR (_ : World) (_ : Nat) (x : Comp) (vs : List Value) : Prop := ∃ y : PV, vs = [.string y.name, .int .i64 x.code, .slice y.A y.n y.c, .int .i64 y.size, .bool y.path, y.tr.1]

theorem ProtR.lasts : Lasts ProtR 6 where
  sub _ _ _ _ _ _ _ _ h := h
  len _ _ _ _ := by
    rintro ⟨y, rfl⟩
    rfl
  pos := by omega

theorem protRead {w : World} {B : Nat} {p : Addr} {k : Int} (h : ProtAt w B p k) (hB : B ≤ w.heap.size) {pre : List Nat} (hp : ∀ b ∈ pre, B ≤ b) (h1 : (oneAt w (p.add 5)).1.oneCell' = true) :
    canRead w pre p [SV.str (strAt w (p.add 0)) false, SV.int .i64 (intAt w (p.add 1)) false, SV.xs (slA w (p.add 2)) (slN w (p.add 2)) (slC w (p.add 2)), SV.int .i64 (intAt w (p.add 3)) false, SV.bool (boolAt w (p.add 4)) false, SV.one (oneAt w (p.add 5)).1 h1] ∧
    ∃ y : PV, denL id [SV.str (strAt w (p.add 0)) false, SV.int .i64 (intAt w (p.add 1)) false, SV.xs (slA w (p.add 2)) (slN w (p.add 2)) (slC w (p.add 2)), SV.int .i64 (intAt w (p.add 3)) false, SV.bool (boolAt w (p.add 4)) false, SV.one (oneAt w (p.add 5)).1 h1] =
      [.string y.name, .int .i64 k, .slice y.A y.n y.c, .int .i64 y.size, .bool y.path, y.tr.1] := by
  obtain ⟨g1, y, g2⟩ := h
  have c0 := g2 0 _ rfl
  have c1 := g2 1 _ rfl
  have c2 := g2 2 _ rfl
  have c3 := g2 3 _ rfl
  have c4 := g2 4 _ rfl
  have c5 := g2 5 _ rfl
  have e0 : strAt w (p.add 0) = y.name := by simp [strAt, c0]
  have e1 : intAt w (p.add 1) = k := by simp [intAt, c1]
  have e2 : slA w (p.add 2) = y.A := by simp [slA, c2]
  have e2' : slN w (p.add 2) = y.n := by simp [slN, c2]
  have e2'' : slC w (p.add 2) = y.c := by simp [slC, c2]
  have e3 : intAt w (p.add 3) = y.size := by simp [intAt, c3]
  have e4 : boolAt w (p.add 4) = y.path := by simp [boolAt, c4]
  have e5 : (oneAt w (p.add 5)).1 = y.tr.1 := by simp [oneAt, c5, y.tr.2]
  have key : denL id [SV.str (strAt w (p.add 0)) false, SV.int .i64 (intAt w (p.add 1)) false, SV.xs (slA w (p.add 2)) (slN w (p.add 2)) (slC w (p.add 2)), SV.int .i64 (intAt w (p.add 3)) false, SV.bool (boolAt w (p.add 4)) false, SV.one (oneAt w (p.add 5)).1 h1] =
      [.string y.name, .int .i64 k, .slice y.A y.n y.c, .int .i64 y.size, .bool y.path, y.tr.1] := by
    simp only [denL, SV.den, e0, e1, e2, e2', e2'', e3, e4, e5]
  refine ⟨⟨by omega, fun hm => by have := hp _ hm; omega, fun j v hj => ?_⟩, y, key⟩
  refine g2 j _ ?_
  rw [← key, denL_get, hj]
  rfl

theorem protocols_c (A : Option Addr) (n c : Nat) (l : List Comp) (B : Nat) (w : World) (h : RowAt MaR 3 w B A n l) (hB : B ≤ w.heap.size) (hn : (n : Int) < 2 ^ 40) :
    Calls Tryz.prog 41 #[.slice A n c] w (Ret (RowQ ProtR 6 l w) w) := by
  have hl := h.1
  refine funF (hk := hkP n) (n := 1000) (args := [.xs A n c]) ⟨trivial, trivial⟩ ?_
  refine holds_eq (t41 A n c w) ?_
  refine needT ⟨by omega, by omega, by omega⟩ ?_
  refine loopT (w := w) (Fine.start _ _) rfl 1 rfl LP (pSvs A n c) (pObjs n) (fun z => n - z.i) (fun _ z _ => z.i ≤ n ∧ Row (ProtR w 0) (l.take z.i) z.Ls) (fun _ z _ => z.i = n ∧ Row (ProtR w 0) l z.Ls) (fun _ _ _ => False) (fun _ => noHk) 1000
    (by simp) (by simp [LP]) (by simp [LP]) (fun _ => ⟨by simp [SV.ok], trivial, trivial, trivial, trivial⟩) (fun _ => ⟨rfl, by simp [pObjs, SObj.ok]⟩) rfl rfl (by simp) (by simp) (fun _ => ⟨⟨by simp [SV.ok], trivial⟩, rfl, by simp [pObjs, SObj.ok]⟩) (fun _ => ⟨trivial, rfl, by simp [pObjs, SObj.ok]⟩) ?_ ?_ ?_ ?_
  · rintro β w0 z w2 g hb0 ⟨hi, hrow⟩ hk hge
    refine holds_eq (r41 A n c z w2 (blocks β 1) g) (splitD (fun hlt => ?_) (fun hge' => ?_))
    · have hlt' : z.i < n := by omega
      have hbl : ∀ b ∈ blocks β 1, w.heap.size ≤ b := fun b hb => by
        simp [blocks] at hb
        subst hb
        exact hge 0 (by omega)
      have hw2 : Below w.heap.size w w2 := hk.below hb0 (Nat.le_refl _) hbl
      have hB2 : B ≤ w2.heap.size := Nat.le_trans hB hw2.size
      have hBb : ∀ b ∈ blocks β 1, B ≤ b := fun b hb => Nat.le_trans hB (hbl b hb)
      obtain ⟨ad, x, rfl, had, hx, hR⟩ := (h.sub MaR.lasts (Below.sub (hw2.mono hB)) (Nat.le_refl _)).get hlt'
      obtain ⟨r1, pr, p, r2, r3, r4⟩ := maRead hR hB2 hBb
      have ep : ptrAt w2 ((((some ad).getD default).add ((z.i : Int).toNat * 3)).add 1) = p := by
        have := congrArg (fun l => l[1]?) r2
        simpa using this
      rw [← ep] at r3
      obtain ⟨q1, y, q2⟩ := protRead r3 hB2 hBb (oneAt w2 _).2
      have hlen := hrow.len (ProtR.lasts.len w 0)
      rw [List.length_take] at hlen
      refine needT (by omega) (needT rfl (needT r1 (needT q1 (splitD (fun _ => needT ?_ ?_) (fun hno => absurd hno (by omega))))))
      · rw [q2]
        exact ⟨by omega, by simp; omega, by simp [thawed]⟩
      · rw [q2]
        refine leafK ⟨rfl, hk, fun b hb => .inl hb⟩ fun β' w' hst hk' => ?_
        refine ⟨⟨z.i + 1, _⟩, by show n - (z.i + 1) < n - z.i; omega, ?_, hst.objsAt rfl (by simp [pObjs, SObj.ok]), ⟨by show z.i + 1 ≤ n; omega, ?_⟩, hk'⟩
        · rw [next_i hlt' (by omega)]
          have := hst.base 0 (by show 0 < 1; omega)
          simp only [pSvs, denL, SV.den]
          rw [this]
        · show Row (ProtR w 0) (l.take (z.i + 1)) (z.Ls ++ _)
          rw [List.take_add_one, hx]
          exact .snoc hrow ⟨y, rfl⟩
    · refine leafK ⟨rfl, hk, fun b hb => .inl hb⟩ fun β' w' hst hk' => ⟨.inl ⟨z, rfl, ?_, hst.objsAt rfl (by simp [pObjs, SObj.ok]), by omega, ?_⟩, hk'⟩
      · have := hst.base 0 (by show 0 < 1; omega)
        simp only [denL, SV.den]
        rw [this]
      · rw [List.take_of_length_le (by omega)] at hrow
        exact hrow
  · intro β w0 hst hb0
    refine ⟨⟨0, []⟩, rfl, ?_, Nat.zero_le _, .nil⟩
    intro i o hi
    exact hst.at_ i o (by simpa [pObjs] using hi)
  · rintro w0 z w' ⟨hi, hrow⟩ hb0 hb1 g bs' hbs'
    refine retF (Fine.mk' hb1 hbs') fun β w2 hst hb2 => ?_
    obtain ⟨rest, e2, e3⟩ := hst.at_ 0 _ rfl
    have hlen := hrow.len (ProtR.lasts.len w 0)
    have hfr := (Fine.mk' hb1 hbs').new (hst.old rfl) 0 (by simp [SS.n])
    have hacc : AccAt w w2 71 6 (some ⟨β 0, 0, none⟩) z.i n z.Ls := .inr ⟨β 0, rfl, hfr, hst.lt 0 (by simp [SS.n]), by omega, by omega, rest, e2, e3⟩
    refine ⟨some ⟨β 0, 0, none⟩, z.i, n, rfl, ?_⟩
    exact seq_of_row (R := ProtR w 0) (S := fun b => w.heap.size ≤ b) hacc hrow (ProtR.lasts.len w 0) (by omega) (fun a ha => by cases ha; exact hfr)
  · rintro w0 z w' h
    exact h.elim

end Go.Proofs.YtdmnoagahjbjhaaGreatDoor
end

section
/- netAlive: the address that it asks about. -/
set_option linter.unusedVariables false
set_option linter.unusedSimpArgs false
set_option maxRecDepth 20000
namespace Go.Proofs.YtdmnoagahjbjhaaGreatDoor
open Go Go.Rx Go.RowKit
set_option maxRecDepth 100000 in
theorem t17 (w : World) : xFunc Tryz.prog noHk 1000 17 [] (SS.mk [] [] true w []) =
  (.leaf .ret [(.slc 2 0 2 2 true true)] (SS.mk [(.cells [(.int .u8 127 true), (.int .u8 0 true), (.int .u8 0 true), (.int .u8 1 true)] 4 5 0 0), (.cells [(.int .u8 4 true), (.int .u8 210 true)] 2 5 0 0), (.cells [(.int .i64 4 true), (.slc 0 0 4 4 true true), (.int .i64 273 true), (.slc 1 0 2 2 true true)] 4 35 0 0)] [] true w [])) := by kernel_rfl

/-- /ip4/127.0.0.1/udp/1234 -/
def twoL : List Comp := [⟨4, [127, 0, 0, 1]⟩, ⟨273, [4, 210]⟩]

theorem bts_of_cells {β : Nat → Nat} {w : World} {b B : Nat} {l : List UInt8} {cs : List SV} {tot : Nat} {e : TypeId} {lo hi : Nat} (h : (SObj.cells cs tot e lo hi).At β w.heap[b]?) (hcs : cs = l.map fun x => SV.int .u8 (x.toNat : Int) true) (htot : tot = l.length) (hB : b < B) :
    Bts w B (some ⟨b, 0, none⟩) l.length l := by
  obtain ⟨rest, h1, h2⟩ := h
  subst hcs htot
  have hr : rest = [] := List.eq_nil_of_length_eq_zero (by simp at h2; simp [h2])
  subst hr
  have e1 : denL β (l.map fun x => SV.int .u8 (x.toNat : Int) true) ++ [] = (l.map fun x => (x.toNat : Int)).map (Value.int .u8) := by
    rw [List.append_nil, denL_map]
    simp [SV.den]
  rw [e1] at h1
  have := bts_of_ints (k := l.length) h1 (fun v hv => by
    simp only [List.mem_map] at hv
    obtain ⟨x, _, rfl⟩ := hv
    have := x.toNat_lt
    omega) (by simp) hB
  simpa [Function.comp_def, List.take_of_length_le] using this

theorem maTwo_c (w : World) : Calls Tryz.prog 17 #[] w (Ret (fun v w' => ∃ A, v = .slice A 2 2 ∧ RowAt CompR 2 (Rx.since w w') w'.heap.size A 2 twoL) w) := by
  refine funF (hk := noHk) (n := 1000) (args := []) trivial ?_
  refine holds_eq (t17 w) ?_
  refine retF (Fine.start _ _) fun β w' hst hb => ?_
  have o := hst.old rfl
  have hf := (Fine.start w [(.cells [(.int .u8 127 true), (.int .u8 0 true), (.int .u8 0 true), (.int .u8 1 true)] 4 5 0 0), (.cells [(.int .u8 4 true), (.int .u8 210 true)] 2 5 0 0), (.cells [(.int .i64 4 true), (.slc 0 0 4 4 true true), (.int .i64 273 true), (.slc 1 0 2 2 true true)] 4 35 0 0)]).new o
  have b0 := bts_of_cells (l := [127, 0, 0, 1]) (hst.at_ 0 _ rfl) rfl rfl (hst.lt 0 (by simp [SS.n]))
  have b1 := bts_of_cells (l := [4, 210]) (hst.at_ 1 _ rfl) rfl rfl (hst.lt 1 (by simp [SS.n]))
  have f0 : Fresh w (some ⟨β 0, 0, none⟩) := fun a ha => by cases ha; exact hf 0 (by simp [SS.n])
  have f1 : Fresh w (some ⟨β 1, 0, none⟩) := fun a ha => by cases ha; exact hf 1 (by simp [SS.n])
  have b0' := Bts.since b0 f0
  have b1' := Bts.since b1 f1
  obtain ⟨rest, e1, e2⟩ := hst.at_ 2 _ rfl
  refine ⟨some ⟨β 2, 0, none⟩, rfl, ?_⟩
  have hacc : AccAt w w' 35 2 (some ⟨β 2, 0, none⟩) 2 2 [.int .i64 4, .slice (some ⟨β 0, 0, none⟩) 4 4, .int .i64 273, .slice (some ⟨β 1, 0, none⟩) 2 2] := .inr ⟨β 2, rfl, hf 2 (by simp [SS.n]), hst.lt 2 (by simp [SS.n]), rfl, Nat.le_refl _, rest, e1, e2⟩
  exact seq_of_row (R := CompR (Rx.since w w') w'.heap.size) (S := fun b => w.heap.size ≤ b) hacc (.snoc (l := [_]) (L := [_, _]) (.snoc (l := []) (L := []) .nil ⟨_, _, _, rfl, b0'⟩) ⟨_, _, _, rfl, b1'⟩) (CompR.lasts.len _ _) (by omega) (fun a ha => by cases ha; exact hf 2 (by simp [SS.n]))

end Go.Proofs.YtdmnoagahjbjhaaGreatDoor
end

section
/- Comparing: NetCodes, MaSame, MaAlike. -/
set_option linter.unusedVariables false
set_option maxRecDepth 20000
namespace Go.Proofs.YtdmnoagahjbjhaaGreatDoor
open Go Go.Rx Go.RowKit

def L10 : SE → List Nat
  | .normal => [0, 1, 11, 12, 13]
  | .ret => [4]
  | _ => []
def lh12 : LoopHook := mkHook 27 Unit .ret [4] (fun _ => [.bool false true]) Unit (.exit 0) [] (fun _ => [])
def hk12 : Hooks := { calls := fun f => none, loops := fun f k => some lh12 }
set_option maxRecDepth 100000 in
theorem t12 (A : Option Addr) (n c : Nat) (A' : Option Addr) (n' c' : Nat) (w : World) : xFunc Tryz.prog hk12 1000 12 [.xs A n c, .xs A' n' c'] (SS.at w) =
  (.split ((↑n : Int) != (↑n' : Int))
   (.leaf .ret [(.bool false true)] (SS.mk [] [] true w []))
   (.loop 12 (loopOf Tryz.prog 12 5) ([(.xs A n c), (.xs A' n' c'), (.tup []), (.tup []), (.bool false true), (.tup []), (.xs A n c), (.int .i64 ((↑n : Int)) false), (.xs A' n' c'), (.int .i64 ((↑n' : Int)) false), (.bool false true), (.xs A n c), (.int .i64 ((↑n : Int)) false), (.int .i64 0 true)] ++ List.replicate 13 undefS) (SS.mk [] [] true w []) (LoopHook.X (lh12)) (LoopHook.out (lh12) ([(.xs A n c), (.xs A' n' c'), (.tup []), (.tup []), (.bool false true), (.tup []), (.xs A n c), (.int .i64 ((↑n : Int)) false), (.xs A' n' c'), (.int .i64 ((↑n' : Int)) false), (.bool false true), (.xs A n c), (.int .i64 ((↑n : Int)) false), (.int .i64 0 true)] ++ List.replicate 13 undefS) (SS.mk [] [] true w [])) (fun x0 w0 b0 =>
    (.leaf .ret [(.bool false true)] (SS.mk [] [] true w0 b0)))
   (LoopHook.Y (lh12)) (LoopHook.out' (lh12) ([(.xs A n c), (.xs A' n' c'), (.tup []), (.tup []), (.bool false true), (.tup []), (.xs A n c), (.int .i64 ((↑n : Int)) false), (.xs A' n' c'), (.int .i64 ((↑n' : Int)) false), (.bool false true), (.xs A n c), (.int .i64 ((↑n : Int)) false), (.int .i64 0 true)] ++ List.replicate 13 undefS) (SS.mk [] [] true w [])) (fun x0 w0 b0 =>
    (.leaf .ret [(.bool true true)] (SS.mk [] [] true w0 b0))))) := by kernel_rfl
set_option maxRecDepth 100000 in
theorem r12 (A : Option Addr) (n c : Nat) (A' : Option Addr) (n' c' i : Nat) (w : World) (g : Nat → Value) : xCode Tryz.prog noHk 1000 12 (loopOf Tryz.prog 12 5) (mkFrame ((L10 .normal).zip [.xs A n c, .xs A' n' c', .xs A n c, .int .i64 n false, .int .i64 i false]) g 27 0) (fun e a s => .leaf e (sel L10 e a) s) (SS.at w) =
  (.split (decide ((↑i : Int) < (↑n : Int)))
   (.need ((0 : Int) ≤ (↑i : Int) ∧ (↑i : Int) < (↑n : Int))
   (.need (A.isSome = true)
   (.need (canRead w [] ((A.getD default).add ((↑i : Int).toNat * (2 : Nat))) [SV.int IntKind.i64 (intAt w (((A.getD default).add ((↑i : Int).toNat * (2 : Nat))).add (0 : Nat))) false, SV.xs (slA w (((A.getD default).add ((↑i : Int).toNat * (2 : Nat))).add (1 : Nat))) (slN w (((A.getD default).add ((↑i : Int).toNat * (2 : Nat))).add (1 : Nat))) (slC w (((A.getD default).add ((↑i : Int).toNat * (2 : Nat))).add (1 : Nat)))])
   (.need ((0 : Int) ≤ (↑i : Int) ∧ (↑i : Int) < (↑n' : Int))
   (.need (A'.isSome = true)
   (.need (canRead w [] ((A'.getD default).add ((↑i : Int).toNat * (2 : Nat))) [SV.int IntKind.i64 (intAt w (((A'.getD default).add ((↑i : Int).toNat * (2 : Nat))).add (0 : Nat))) false, SV.xs (slA w (((A'.getD default).add ((↑i : Int).toNat * (2 : Nat))).add (1 : Nat))) (slN w (((A'.getD default).add ((↑i : Int).toNat * (2 : Nat))).add (1 : Nat))) (slC w (((A'.getD default).add ((↑i : Int).toNat * (2 : Nat))).add (1 : Nat)))])
   (.split (intAt w (((A.getD default).add ((↑i : Int).toNat * (2 : Nat))).add (0 : Nat)) == intAt w (((A'.getD default).add ((↑i : Int).toNat * (2 : Nat))).add (0 : Nat)))
    (.need (canBytes w [] (slA w (((A.getD default).add ((↑i : Int).toNat * (2 : Nat))).add (1 : Nat))) (slN w (((A.getD default).add ((↑i : Int).toNat * (2 : Nat))).add (1 : Nat))))
    (.need (canBytes w [] (slA w (((A'.getD default).add ((↑i : Int).toNat * (2 : Nat))).add (1 : Nat))) (slN w (((A'.getD default).add ((↑i : Int).toNat * (2 : Nat))).add (1 : Nat))))
    (.split (!(bytesAt w (slA w (((A.getD default).add ((↑i : Int).toNat * (2 : Nat))).add (1 : Nat))) (slN w (((A.getD default).add ((↑i : Int).toNat * (2 : Nat))).add (1 : Nat)))).toList == (bytesAt w (slA w (((A'.getD default).add ((↑i : Int).toNat * (2 : Nat))).add (1 : Nat))) (slN w (((A'.getD default).add ((↑i : Int).toNat * (2 : Nat))).add (1 : Nat)))).toList)
     (.leaf .ret [(.bool false true)] (SS.mk [(.cells [(.int .i64 (intAt w (((A.getD default).add ((↑i : Int).toNat * (2 : Nat))).add (0 : Nat))) false), (.xs (slA w (((A.getD default).add ((↑i : Int).toNat * (2 : Nat))).add (1 : Nat))) (slN w (((A.getD default).add ((↑i : Int).toNat * (2 : Nat))).add (1 : Nat))) (slC w (((A.getD default).add ((↑i : Int).toNat * (2 : Nat))).add (1 : Nat))))] 2 35 0 0), (.cells [(.int .i64 (intAt w (((A'.getD default).add ((↑i : Int).toNat * (2 : Nat))).add (0 : Nat))) false), (.xs (slA w (((A'.getD default).add ((↑i : Int).toNat * (2 : Nat))).add (1 : Nat))) (slN w (((A'.getD default).add ((↑i : Int).toNat * (2 : Nat))).add (1 : Nat))) (slC w (((A'.getD default).add ((↑i : Int).toNat * (2 : Nat))).add (1 : Nat))))] 2 35 0 0)] [] true w []))
     (.leaf .normal [(.xs A n c), (.xs A' n' c'), (.xs A n c), (.int .i64 ((↑n : Int)) false), (.int .i64 (IntKind.i64.wrap ((↑i : Int) + (1 : Int))) false)] (SS.mk [(.cells [(.int .i64 (intAt w (((A.getD default).add ((↑i : Int).toNat * (2 : Nat))).add (0 : Nat))) false), (.xs (slA w (((A.getD default).add ((↑i : Int).toNat * (2 : Nat))).add (1 : Nat))) (slN w (((A.getD default).add ((↑i : Int).toNat * (2 : Nat))).add (1 : Nat))) (slC w (((A.getD default).add ((↑i : Int).toNat * (2 : Nat))).add (1 : Nat))))] 2 35 0 0), (.cells [(.int .i64 (intAt w (((A'.getD default).add ((↑i : Int).toNat * (2 : Nat))).add (0 : Nat))) false), (.xs (slA w (((A'.getD default).add ((↑i : Int).toNat * (2 : Nat))).add (1 : Nat))) (slN w (((A'.getD default).add ((↑i : Int).toNat * (2 : Nat))).add (1 : Nat))) (slC w (((A'.getD default).add ((↑i : Int).toNat * (2 : Nat))).add (1 : Nat))))] 2 35 0 0)] [] true w [])))))
    (.leaf .ret [(.bool false true)] (SS.mk [(.cells [(.int .i64 (intAt w (((A.getD default).add ((↑i : Int).toNat * (2 : Nat))).add (0 : Nat))) false), (.xs (slA w (((A.getD default).add ((↑i : Int).toNat * (2 : Nat))).add (1 : Nat))) (slN w (((A.getD default).add ((↑i : Int).toNat * (2 : Nat))).add (1 : Nat))) (slC w (((A.getD default).add ((↑i : Int).toNat * (2 : Nat))).add (1 : Nat))))] 2 35 0 0), (.cells [(.int .i64 (intAt w (((A'.getD default).add ((↑i : Int).toNat * (2 : Nat))).add (0 : Nat))) false), (.xs (slA w (((A'.getD default).add ((↑i : Int).toNat * (2 : Nat))).add (1 : Nat))) (slN w (((A'.getD default).add ((↑i : Int).toNat * (2 : Nat))).add (1 : Nat))) (slC w (((A'.getD default).add ((↑i : Int).toNat * (2 : Nat))).add (1 : Nat))))] 2 35 0 0)] [] true w [])))))))))
   (.leaf (.exit 0) [] (SS.mk [] [] true w []))) := by kernel_rfl

def codes (l : List Comp) : List Int := l.map (·.code)

theorem maAlike_c (A : Option Addr) (n c : Nat) (A' : Option Addr) (n' c' : Nat) (l : List Comp) (B : Nat) (w : World) (h : CompsAt w B A n l) (h' : CompsAt w B A' n' l) (hB : B ≤ w.heap.size) (hn : (n : Int) < 2 ^ 48) :
    Calls Tryz.prog 12 #[.slice A n c, .slice A' n' c'] w (Ret (BoolQ fun b => b = true) w) := by
  have hnn : n = n' := by rw [h.1, h'.1]
  subst hnn
  refine funF (hk := hk12) (n := 1000) (args := [.xs A n c, .xs A' n c']) ⟨trivial, trivial, trivial⟩ ?_
  rw [t12]
  refine splitT (fun hne => by simp at hne) (fun heq => ?_)
  refine loopG (Fine.start _ _) L10 (α := Nat) (fun i => [.xs A n c, .xs A' n c', .xs A n c, .int .i64 n false, .int .i64 i false]) (fun i => n - i) (fun _ i _ => i ≤ n)
    (fun _ e lv _ => e = .exit 0 ∧ lv = []) (fun _ => noHk) 1000 (by simp) (by simp [L10]) (by simp [L10]) (fun _ => ⟨trivial, trivial, trivial, trivial, trivial, trivial⟩) rfl rfl rfl
    (by simp) (by simp) (fun _ => ⟨trivial, trivial⟩) (fun _ => trivial) ?_ ?_ ?_
  · rintro w0 i w1 g _ hi hb0 hbw
    refine holds_eq (r12 A n c A' n c' i w1 g) ?_
    refine splitT (fun hlt => ?_) (fun hge => exitF (Fine.nil hb0) (by simp) fun β w' _ _ => ⟨rfl, rfl⟩)
    have hlt' : i < n := by simpa using hlt
    have hB1 : B ≤ w1.heap.size := Nat.le_trans hB hbw.size
    obtain ⟨ad, x, rfl, had, hx, hR⟩ := (h.below (hbw.mono hB) (Nat.le_refl _)).get hlt'
    obtain ⟨ad', x', rfl, had', hx', hR'⟩ := (h'.below (hbw.mono hB) (Nat.le_refl _)).get hlt'
    rw [hx] at hx'
    cases hx'
    obtain ⟨f1, f2, f3⟩ := hR.facts
    obtain ⟨f1', f2', f3'⟩ := hR'.facts
    refine needT (by omega) (needT rfl (needT (hR.canRead hB1 (by simp)) (needT (by omega) (needT rfl (needT (hR'.canRead hB1 (by simp)) ?_)))))
    have e1 : intAt w1 ((((some ad).getD default).add ((i : Int).toNat * 2)).add 0) = x.code := f1
    have e2 : intAt w1 ((((some ad').getD default).add ((i : Int).toNat * 2)).add 0) = x.code := f1'
    rw [e1, e2]
    refine splitT (fun _ => needT (f2.canBytes hB1 (by simp)) (needT (f2'.canBytes hB1 (by simp)) ?_)) (fun hne => by simp at hne)
    have e3 := f2.bytesAt
    have e4 := f2'.bytesAt
    refine splitT (fun hne => ?_) (fun _ => nextF (Fine.nil hb0) fun β w' _ _ => ⟨i + 1, by omega, ?_, by omega⟩)
    · exfalso
      have : bytesAt w1 (slA w1 ((ad.add (i * 2)).add 1)) (slN w1 ((ad.add (i * 2)).add 1)) = bytesAt w1 (slA w1 ((ad'.add (i * 2)).add 1)) (slN w1 ((ad'.add (i * 2)).add 1)) := by rw [e3, e4]
      have h2 : (!(bytesAt w1 (slA w1 ((ad.add (i * 2)).add 1)) (slN w1 ((ad.add (i * 2)).add 1))).toList == (bytesAt w1 (slA w1 ((ad'.add (i * 2)).add 1)) (slN w1 ((ad'.add (i * 2)).add 1))).toList) = true := hne
      rw [this] at h2
      simp at h2
    · rw [next_i hlt' (by omega)]; rfl
  · intro β w0 hst hb
    exact ⟨0, rfl, Nat.zero_le _⟩
  · rintro β w0 hst hb e lv w' ⟨rfl, rfl⟩ hb0 hb1
    exact .inr ⟨(), rfl, rfl, fun g bs hbs => retF (Fine.mk' hb1 hbs) fun β w' _ _ => ⟨_, rfl, rfl⟩⟩

end Go.Proofs.YtdmnoagahjbjhaaGreatDoor
end

section
/- AddrMatch. -/
set_option linter.unusedVariables false
set_option linter.unusedSimpArgs false
set_option maxRecDepth 20000
namespace Go.Proofs.YtdmnoagahjbjhaaGreatDoor
open Go Go.Rx Go.RowKit
structure MC where
  A : Option Addr
  n : Nat
  c : Nat
  A' : Option Addr
  n' : Nat
  c' : Nat
structure MZ where
  i : Nat
  kk : Nat
  Ls : List Value
structure EZ where
  A : Option Addr
  n : Nat
  c : Nat
theorem protRead' {w : World} {B : Nat} {p : Addr} {k : Int} (h : ProtAt w B p k) (hB : B ≤ w.heap.size) {pre : List Nat} (hp : p.block ∉ pre) (h1 : (oneAt w (p.add 5)).1.oneCell' = true) :
    canRead w pre p [SV.str (strAt w (p.add 0)) false, SV.int .i64 (intAt w (p.add 1)) false, SV.xs (slA w (p.add 2)) (slN w (p.add 2)) (slC w (p.add 2)), SV.int .i64 (intAt w (p.add 3)) false, SV.bool (boolAt w (p.add 4)) false, SV.one (oneAt w (p.add 5)).1 h1] ∧ intAt w (p.add 1) = k := by
  obtain ⟨q1, y, q2⟩ := protRead h hB (pre := []) (by simp) h1
  refine ⟨⟨q1.1, hp, q1.2.2⟩, ?_⟩
  have := congrArg (fun l => l[1]?) q2
  simpa [denL, SV.den] using this

/-- Those that have the same codes. -/
def same (l : List Comp) (ll : List (List Comp)) : List (List Comp) := ll.filter fun x => decide (codes l = codes x)

end Go.Proofs.YtdmnoagahjbjhaaGreatDoor
end

section
/- NetMatch. -/
set_option linter.unusedVariables false
set_option linter.unusedSimpArgs false
set_option maxRecDepth 20000
namespace Go.Proofs.YtdmnoagahjbjhaaGreatDoor
open Go Go.Rx Go.RowKit
/-- A call where nothing is tracked. -/
theorem call0 {Γ : Ctx} {w : World} {f : FuncId} {args : List SV} {X : Type} {out : X → SV × List SObj} {k : X → World → List Nat → T} {R : X → World → World → Prop} (hout : ∀ x, (out x).2 = [] ∧ (out x).1.ok 0)
    (hc : ∀ β w0, Below w.heap.size w w0 → Calls Γ.P f (denL β args).toArray w0 fun e w' => ∃ x, e = .returned ((out x).1.den β) ∧ Below w0.heap.size w0 w' ∧ R x w0 w')
    (hk : ∀ x w0 w', Below w.heap.size w w0 → R x w0 w' → Below w0.heap.size w0 w' → (k x w' []).holds Γ) : (T.call f args (SS.mk [] [] true w []) X out k).holds Γ := by
  intro β w0 hs hargs
  have o := hs.old rfl
  have hbw : Below w.heap.size w w0 := o.belowB (Below.refl _ _) (Nat.le_refl _) (by simp)
  refine (hc β w0 hbw).mono ?_
  rintro e w' ⟨x, rfl, hb, hr⟩
  obtain ⟨ho1, ho2⟩ := hout x
  refine ⟨x, β, [], rfl, ⟨?_, ?_, fun _ _ => rfl⟩, ?_, hk x w0 w' hbw hr hb⟩
  · rw [ho1]; exact hs.rebase hb
  · exact Nat.zero_le _
  · rw [ho1]; exact ho2

theorem row0 {γ : Type} {R : World → Nat → γ → List Value → Prop} {size : Nat} {l : List γ} {Γ : Ctx} (hP : Γ.P = Tryz.prog) {w : World} {f : FuncId} {args : List SV} {k : UV → World → List Nat → T}
    (hc : ∀ β wc, Below w.heap.size w wc → Calls Tryz.prog f (denL β args).toArray wc (Ret (RowQ R size l wc) wc))
    (hk : ∀ x wc w', Below w.heap.size w wc → Below wc.heap.size wc w' → RowAt R size (Rx.since wc w') w'.heap.size x.A x.k l → (k x w' []).holds Γ) :
    (T.call f args (SS.mk [] [] true w []) UV (fun x => (.xs x.A x.k x.c, [])) k).holds Γ := by
  refine call0 (R := fun (x : UV) wc w' => RowAt R size (Rx.since wc w') w'.heap.size x.A x.k l) (fun x => ⟨rfl, trivial⟩) (fun β wc hb => ?_) (fun x wc w' h1 hr h2 => hk x wc w' h1 h2 hr)
  rw [hP]
  refine (hc β wc hb).mono ?_
  rintro e w' ⟨v, rfl, ⟨A, kk, c, rfl, h5⟩, hb'⟩
  exact ⟨⟨A, kk, c⟩, rfl, hb', h5⟩

end Go.Proofs.YtdmnoagahjbjhaaGreatDoor
end

section
/- ToIP, NetToIP. -/
set_option linter.unusedVariables false
set_option linter.unusedSimpArgs false
set_option maxRecDepth 20000
namespace Go.Proofs.YtdmnoagahjbjhaaGreatDoor
open Go Go.Rx Go.RowKit
def L31 : SE → List Nat
  | .normal => [7, 8, 9]
  | .ret => [2, 3]
  | _ => []
def lh31 : LoopHook := mkHook 25 UV .ret [2, 3] (fun x => [.xs x.A x.k x.c, .one .nilIface rfl]) Unit (.exit 0) [] (fun _ => [])
def hk31 : Hooks := { calls := fun _ => none, loops := fun _ _ => some lh31 }
set_option maxRecDepth 100000 in
theorem t31 (A : Option Addr) (n c : Nat) (w : World) : xFunc Tryz.prog hk31 1000 31 [.xs A n c] (SS.mk [] [] true w []) =
  (.loop 31 (loopOf Tryz.prog 31 4) ([(.xs A n c), (.tup []), (.one (.slice none 0 0) rfl), (.one .nilIface rfl), (.one (.slice none 0 0) rfl), (.tup []), (.tup []), (.xs A n c), (.int .i64 ((↑n : Int)) false), (.int .i64 0 true)] ++ List.replicate 15 undefS) (SS.mk [] [] true w []) (LoopHook.X (lh31)) (LoopHook.out (lh31) ([(.xs A n c), (.tup []), (.one (.slice none 0 0) rfl), (.one .nilIface rfl), (.one (.slice none 0 0) rfl), (.tup []), (.tup []), (.xs A n c), (.int .i64 ((↑n : Int)) false), (.int .i64 0 true)] ++ List.replicate 15 undefS) (SS.mk [] [] true w [])) (fun x0 w0 b0 =>
   (.leaf .ret [(.tup [(.xs x0.fst.A x0.fst.k x0.fst.c), (.one .nilIface rfl)])] (SS.mk [] [] true w0 b0)))
  (LoopHook.Y (lh31)) (LoopHook.out' (lh31) ([(.xs A n c), (.tup []), (.one (.slice none 0 0) rfl), (.one .nilIface rfl), (.one (.slice none 0 0) rfl), (.tup []), (.tup []), (.xs A n c), (.int .i64 ((↑n : Int)) false), (.int .i64 0 true)] ++ List.replicate 15 undefS) (SS.mk [] [] true w [])) (fun x0 w0 b0 =>
   (.bad "load: no address"))) := by kernel_rfl
set_option maxRecDepth 100000 in
theorem r31 (A : Option Addr) (n c : Nat) (w : World) (g : Nat → Value) : xCode Tryz.prog noHk 1000 31 (loopOf Tryz.prog 31 4) (mkFrame ((L31 .normal).zip [.xs A n c, .int .i64 n false, .int .i64 0 false]) g 25 0) (fun e a s => .leaf e (sel L31 e a) s) (SS.mk [] [] true w []) =
  (.split (decide ((0 : Int) < (↑n : Int)))
   (.need ((0 : Int) ≤ (0 : Int) ∧ (0 : Int) < (↑n : Int))
   (.need (A.isSome = true)
   (.need (canRead w [] ((A.getD default).add (0 : Nat)) [SV.str (strAt w (((A.getD default).add (0 : Nat)).add (0 : Nat))) false, SV.xp (ptrAt w (((A.getD default).add (0 : Nat)).add (1 : Nat))), SV.int IntKind.i64 (intAt w (((A.getD default).add (0 : Nat)).add (2 : Nat))) false])
   (.need (canRead w [] (ptrAt w (((A.getD default).add (0 : Nat)).add (1 : Nat))) [SV.str (strAt w ((ptrAt w (((A.getD default).add (0 : Nat)).add (1 : Nat))).add (0 : Nat))) false, SV.int IntKind.i64 (intAt w ((ptrAt w (((A.getD default).add (0 : Nat)).add (1 : Nat))).add (1 : Nat))) false, SV.xs (slA w ((ptrAt w (((A.getD default).add (0 : Nat)).add (1 : Nat))).add (2 : Nat))) (slN w ((ptrAt w (((A.getD default).add (0 : Nat)).add (1 : Nat))).add (2 : Nat))) (slC w ((ptrAt w (((A.getD default).add (0 : Nat)).add (1 : Nat))).add (2 : Nat))), SV.int IntKind.i64 (intAt w ((ptrAt w (((A.getD default).add (0 : Nat)).add (1 : Nat))).add (3 : Nat))) false, SV.bool (boolAt w ((ptrAt w (((A.getD default).add (0 : Nat)).add (1 : Nat))).add (4 : Nat))) false, SV.one (oneAt w ((ptrAt w (((A.getD default).add (0 : Nat)).add (1 : Nat))).add (5 : Nat))).val (extOne._proof_1 ((((SS.mk [] [] true w []).new (SObj.cells (SV.agg (List.map SV.cellOf #[Value.string (ByteArray.mk #[]), Value.pointer none, Value.int IntKind.i64 (0 : Int)].toList)).cells (SV.agg (List.map SV.cellOf #[Value.string (ByteArray.mk #[]), Value.pointer none, Value.int IntKind.i64 (0 : Int)].toList)).cells.length (74 : Nat) (0 : Nat) (0 : Nat))).set (SS.mk [] [] true w []).n (SObj.cells [SV.str (strAt (SS.mk [] [] true w []).w0 (((A.getD default).add (Int.toNat (0 : Int) * Tryz.prog.types[(74 : Nat)].size)).add (0 : Nat))) false, SV.xp (ptrAt (SS.mk [] [] true w []).w0 (((A.getD default).add (Int.toNat (0 : Int) * Tryz.prog.types[(74 : Nat)].size)).add ((0 : Nat) + (1 : Nat)))), SV.int IntKind.i64 (intAt (SS.mk [] [] true w []).w0 (((A.getD default).add (Int.toNat (0 : Int) * Tryz.prog.types[(74 : Nat)].size)).add ((0 : Nat) + (1 : Nat) + (1 : Nat)))) false] (SV.agg (List.map SV.cellOf #[Value.string (ByteArray.mk #[]), Value.pointer none, Value.int IntKind.i64 (0 : Int)].toList)).cells.length (74 : Nat) (0 : Nat) (0 : Nat))).new (SObj.cells (SV.agg (List.map SV.cellOf #[Value.string (ByteArray.mk #[]), Value.int IntKind.i64 (0 : Int), Value.slice none (0 : Nat) (0 : Nat), Value.int IntKind.i64 (0 : Int), Value.bool false, Value.nilIface].toList)).cells (SV.agg (List.map SV.cellOf #[Value.string (ByteArray.mk #[]), Value.int IntKind.i64 (0 : Int), Value.slice none (0 : Nat) (0 : Nat), Value.int IntKind.i64 (0 : Int), Value.bool false, Value.nilIface].toList)).cells.length (71 : Nat) (0 : Nat) (0 : Nat))).w0 ((ptrAt (SS.mk [] [] true w []).w0 (((A.getD default).add (Int.toNat (0 : Int) * Tryz.prog.types[(74 : Nat)].size)).add ((0 : Nat) + (1 : Nat)))).add ((0 : Nat) + (1 : Nat) + (1 : Nat) + (1 : Nat) + (1 : Nat) + (1 : Nat))))])
   (.split (intAt w ((ptrAt w (((A.getD default).add (0 : Nat)).add (1 : Nat))).add (1 : Nat)) == (42 : Int))
    (.leaf .normal [(.xs A n c), (.int .i64 ((↑n : Int)) false), (.int .i64 1 false)] (SS.mk [(.cells [(.str (strAt w (((A.getD default).add (0 : Nat)).add (0 : Nat))) false), (.xp (ptrAt w (((A.getD default).add (0 : Nat)).add (1 : Nat)))), (.int .i64 (intAt w (((A.getD default).add (0 : Nat)).add (2 : Nat))) false)] 3 74 0 0), (.cells [(.str (strAt w ((ptrAt w (((A.getD default).add (0 : Nat)).add (1 : Nat))).add (0 : Nat))) false), (.int .i64 (intAt w ((ptrAt w (((A.getD default).add (0 : Nat)).add (1 : Nat))).add (1 : Nat))) false), (.xs (slA w ((ptrAt w (((A.getD default).add (0 : Nat)).add (1 : Nat))).add (2 : Nat))) (slN w ((ptrAt w (((A.getD default).add (0 : Nat)).add (1 : Nat))).add (2 : Nat))) (slC w ((ptrAt w (((A.getD default).add (0 : Nat)).add (1 : Nat))).add (2 : Nat)))), (.int .i64 (intAt w ((ptrAt w (((A.getD default).add (0 : Nat)).add (1 : Nat))).add (3 : Nat))) false), (.bool (boolAt w ((ptrAt w (((A.getD default).add (0 : Nat)).add (1 : Nat))).add (4 : Nat))) false), (.one (oneAt w ((ptrAt w (((A.getD default).add (0 : Nat)).add (1 : Nat))).add (5 : Nat))).1 (oneAt w ((ptrAt w (((A.getD default).add (0 : Nat)).add (1 : Nat))).add (5 : Nat))).2)] 6 71 0 0)] [] true w []))
    (.split (intAt w ((ptrAt w (((A.getD default).add (0 : Nat)).add (1 : Nat))).add (1 : Nat)) == (41 : Int))
     (.need ((0 : Int) ≤ intAt w (((A.getD default).add (0 : Nat)).add (2 : Nat)) ∧ intAt w (((A.getD default).add (0 : Nat)).add (2 : Nat)) ≤ (↑(strAt w (((A.getD default).add (0 : Nat)).add (0 : Nat))).size : Int))
     (.choose (.appendCap (((strAt w (((A.getD default).add (0 : Nat)).add (0 : Nat))).extract (intAt w (((A.getD default).add (0 : Nat)).add (2 : Nat))).toNat (strAt w (((A.getD default).add (0 : Nat)).add (0 : Nat))).size).size) 0 5) fun c0 =>
     (.leaf .ret [(.slc 2 0 (((strAt w (((A.getD default).add (0 : Nat)).add (0 : Nat))).extract (intAt w (((A.getD default).add (0 : Nat)).add (2 : Nat))).toNat (strAt w (((A.getD default).add (0 : Nat)).add (0 : Nat))).size).size) c0 false false), (.one .nilIface rfl)] (SS.mk [(.cells [(.str (strAt w (((A.getD default).add (0 : Nat)).add (0 : Nat))) false), (.xp (ptrAt w (((A.getD default).add (0 : Nat)).add (1 : Nat)))), (.int .i64 (intAt w (((A.getD default).add (0 : Nat)).add (2 : Nat))) false)] 3 74 0 0), (.cells [(.str (strAt w ((ptrAt w (((A.getD default).add (0 : Nat)).add (1 : Nat))).add (0 : Nat))) false), (.int .i64 (intAt w ((ptrAt w (((A.getD default).add (0 : Nat)).add (1 : Nat))).add (1 : Nat))) false), (.xs (slA w ((ptrAt w (((A.getD default).add (0 : Nat)).add (1 : Nat))).add (2 : Nat))) (slN w ((ptrAt w (((A.getD default).add (0 : Nat)).add (1 : Nat))).add (2 : Nat))) (slC w ((ptrAt w (((A.getD default).add (0 : Nat)).add (1 : Nat))).add (2 : Nat)))), (.int .i64 (intAt w ((ptrAt w (((A.getD default).add (0 : Nat)).add (1 : Nat))).add (3 : Nat))) false), (.bool (boolAt w ((ptrAt w (((A.getD default).add (0 : Nat)).add (1 : Nat))).add (4 : Nat))) false), (.one (oneAt w ((ptrAt w (((A.getD default).add (0 : Nat)).add (1 : Nat))).add (5 : Nat))).1 (oneAt w ((ptrAt w (((A.getD default).add (0 : Nat)).add (1 : Nat))).add (5 : Nat))).2)] 6 71 0 0), (.ints .u8 (List.map (fun b => (↑b.toNat : Int)) (#[].extract (0 : Nat) (0 : Nat) ++ (strAt w (((A.getD default).add (0 : Nat)).add (0 : Nat))).data.extract (intAt w (((A.getD default).add (0 : Nat)).add (2 : Nat))).toNat ((intAt w (((A.getD default).add (0 : Nat)).add (2 : Nat))).toNat + ((strAt w (((A.getD default).add (0 : Nat)).add (0 : Nat))).size - (intAt w (((A.getD default).add (0 : Nat)).add (2 : Nat))).toNat)) ++ #[].extract ((0 : Nat) + min ((strAt w (((A.getD default).add (0 : Nat)).add (0 : Nat))).size - (intAt w (((A.getD default).add (0 : Nat)).add (2 : Nat))).toNat) ((strAt w (((A.getD default).add (0 : Nat)).add (0 : Nat))).data.size - (intAt w (((A.getD default).add (0 : Nat)).add (2 : Nat))).toNat)) (0 : Nat)).toList ++ List.replicate (c0 - ((strAt w (((A.getD default).add (0 : Nat)).add (0 : Nat))).extract (intAt w (((A.getD default).add (0 : Nat)).add (2 : Nat))).toNat (strAt w (((A.getD default).add (0 : Nat)).add (0 : Nat))).size).size) (0 : Int)) 5 c0 (c0 + (1 : Nat)))] [] true w []))))
     (.split (intAt w ((ptrAt w (((A.getD default).add (0 : Nat)).add (1 : Nat))).add (1 : Nat)) == (4 : Int))
      (.need ((0 : Int) ≤ intAt w (((A.getD default).add (0 : Nat)).add (2 : Nat)) ∧ intAt w (((A.getD default).add (0 : Nat)).add (2 : Nat)) ≤ (↑(strAt w (((A.getD default).add (0 : Nat)).add (0 : Nat))).size : Int))
      (.choose (.appendCap (((strAt w (((A.getD default).add (0 : Nat)).add (0 : Nat))).extract (intAt w (((A.getD default).add (0 : Nat)).add (2 : Nat))).toNat (strAt w (((A.getD default).add (0 : Nat)).add (0 : Nat))).size).size) 0 5) fun c0 =>
      (.leaf .ret [(.slc 2 0 (((strAt w (((A.getD default).add (0 : Nat)).add (0 : Nat))).extract (intAt w (((A.getD default).add (0 : Nat)).add (2 : Nat))).toNat (strAt w (((A.getD default).add (0 : Nat)).add (0 : Nat))).size).size) c0 false false), (.one .nilIface rfl)] (SS.mk [(.cells [(.str (strAt w (((A.getD default).add (0 : Nat)).add (0 : Nat))) false), (.xp (ptrAt w (((A.getD default).add (0 : Nat)).add (1 : Nat)))), (.int .i64 (intAt w (((A.getD default).add (0 : Nat)).add (2 : Nat))) false)] 3 74 0 0), (.cells [(.str (strAt w ((ptrAt w (((A.getD default).add (0 : Nat)).add (1 : Nat))).add (0 : Nat))) false), (.int .i64 (intAt w ((ptrAt w (((A.getD default).add (0 : Nat)).add (1 : Nat))).add (1 : Nat))) false), (.xs (slA w ((ptrAt w (((A.getD default).add (0 : Nat)).add (1 : Nat))).add (2 : Nat))) (slN w ((ptrAt w (((A.getD default).add (0 : Nat)).add (1 : Nat))).add (2 : Nat))) (slC w ((ptrAt w (((A.getD default).add (0 : Nat)).add (1 : Nat))).add (2 : Nat)))), (.int .i64 (intAt w ((ptrAt w (((A.getD default).add (0 : Nat)).add (1 : Nat))).add (3 : Nat))) false), (.bool (boolAt w ((ptrAt w (((A.getD default).add (0 : Nat)).add (1 : Nat))).add (4 : Nat))) false), (.one (oneAt w ((ptrAt w (((A.getD default).add (0 : Nat)).add (1 : Nat))).add (5 : Nat))).1 (oneAt w ((ptrAt w (((A.getD default).add (0 : Nat)).add (1 : Nat))).add (5 : Nat))).2)] 6 71 0 0), (.ints .u8 (List.map (fun b => (↑b.toNat : Int)) (#[].extract (0 : Nat) (0 : Nat) ++ (strAt w (((A.getD default).add (0 : Nat)).add (0 : Nat))).data.extract (intAt w (((A.getD default).add (0 : Nat)).add (2 : Nat))).toNat ((intAt w (((A.getD default).add (0 : Nat)).add (2 : Nat))).toNat + ((strAt w (((A.getD default).add (0 : Nat)).add (0 : Nat))).size - (intAt w (((A.getD default).add (0 : Nat)).add (2 : Nat))).toNat)) ++ #[].extract ((0 : Nat) + min ((strAt w (((A.getD default).add (0 : Nat)).add (0 : Nat))).size - (intAt w (((A.getD default).add (0 : Nat)).add (2 : Nat))).toNat) ((strAt w (((A.getD default).add (0 : Nat)).add (0 : Nat))).data.size - (intAt w (((A.getD default).add (0 : Nat)).add (2 : Nat))).toNat)) (0 : Nat)).toList ++ List.replicate (c0 - ((strAt w (((A.getD default).add (0 : Nat)).add (0 : Nat))).extract (intAt w (((A.getD default).add (0 : Nat)).add (2 : Nat))).toNat (strAt w (((A.getD default).add (0 : Nat)).add (0 : Nat))).size).size) (0 : Int)) 5 c0 (c0 + (1 : Nat)))] [] true w []))))
      (.bad "load: no address"))))))))
   (.leaf (.exit 0) [] (SS.mk [] [] true w []))) := by kernel_rfl

theorem toIP_c (A : Option Addr) (n c : Nat) (x : Comp) (l : List Comp) (B : Nat) (w : World) (h : RowAt MaR 3 w B A n (x :: l)) (hx4 : x.code = 4) (hB : B ≤ w.heap.size) :
    Calls Tryz.prog 31 #[.slice A n c] w (Ret (fun v w' => ∃ A k c, v = .tuple #[.slice A k c, .nilIface] ∧ Bts (Rx.since w w') w'.heap.size A k x.val) w) := by
  have hl := h.1
  simp only [List.length_cons] at hl
  refine funF (hk := hk31) (n := 1000) (args := [.xs A n c]) ⟨trivial, trivial⟩ ?_
  refine holds_eq (t31 A n c w) ?_
  refine loopG (Fine.start _ _) L31 (α := Unit) (fun _ => [.xs A n c, .int .i64 n false, .int .i64 0 false]) (fun _ => 0) (fun _ _ _ => True)
    (fun w0 e lv w' => e = .ret ∧ ∃ A' k c', lv = [.slice A' k c', .nilIface] ∧ Bts (Rx.since w0 w') w'.heap.size A' k x.val) (fun _ => noHk) 1000 (by simp) (by simp [L31]) (by simp [L31]) (fun _ => ⟨trivial, trivial, trivial, trivial⟩) rfl rfl rfl
    (by simp) (by simp) (fun _ => ⟨trivial, trivial, trivial⟩) (fun _ => trivial) ?_ ?_ ?_
  · rintro w0 _ w1 g hbw0 _ hb0 hbw
    refine holds_eq (r31 A n c w1 g) (splitD (fun hlt => ?_) (fun hge => absurd (by omega) hge))
    have hB1 : B ≤ w1.heap.size := Nat.le_trans hB hbw.size
    obtain ⟨ad, x', rfl, had, hx, hR⟩ := (h.sub MaR.lasts (Below.sub (hbw.mono hB)) (Nat.le_refl _)).get (i := 0) (by omega)
    simp at hx
    subst hx
    simp only [Nat.zero_mul] at hR
    obtain ⟨r1, pr, p, r2, r3, r4⟩ := maRead hR hB1 (pre := []) (by simp)
    have e0 : strAt w1 ((((some ad).getD default).add 0).add 0) = ⟨(pr ++ x.val).toArray⟩ := by
      have := congrArg (fun l => l[0]?) r2
      simpa using this
    have ep : ptrAt w1 ((((some ad).getD default).add 0).add 1) = p := by
      have := congrArg (fun l => l[1]?) r2
      simpa using this
    have e2 : intAt w1 ((((some ad).getD default).add 0).add 2) = (pr.length : Int) := by
      have := congrArg (fun l => l[2]?) r2
      simpa using this
    rw [← ep] at r3
    obtain ⟨q1, q2⟩ := protRead' (pre := []) r3 hB1 (by simp) (oneAt w1 _).2
    rw [hx4] at q2
    refine needT (by omega) (needT rfl (needT r1 (needT q1 ?_)))
    refine splitT (fun h42 => by rw [q2] at h42; cases h42) (fun _ => splitT (fun h41 => by rw [q2] at h41; cases h41) (fun _ => splitT (fun _ => ?_) (fun h4 => by rw [q2] at h4; cases h4)))
    refine needT ?_ (chooseT ?_)
    · rw [e0, e2]
      exact ⟨by omega, by simp [ByteArray.size]; omega⟩
    rintro cc ⟨t, hcc⟩
    refine exitF (Fine.nil hb0) (by simp) fun β w' hst hb => ⟨rfl, ?_⟩
    have o := hst.old rfl
    have h0 := hst.at_ 2 _ rfl
    have hfr : Fresh w0 (some ⟨β 2, 0, none⟩) := fun a ha => by
      cases ha
      exact (Fine.nil hb0).new o 2 (by simp [SS.n])
    rw [e0, e2] at h0
    refine ⟨some ⟨β 2, 0, none⟩, x.val.length, cc, ?_, ?_⟩
    · simp only [SV.den, denL]
      rw [e0, e2]
      simp [ByteArray.size_extract, ByteArray.size]
    · have hL := bts_of_ints (k := x.val.length) h0 ?_ ?_ (hst.lt 2 (by simp [SS.n]))
      · refine Bts.since ?_ hfr
        refine cast ?_ hL
        congr 1
        simp [ByteArray.size, Function.comp_def]
      · intro v hv
        rcases List.mem_append.1 hv with h | h
        · obtain ⟨b, _, rfl⟩ := List.mem_map.1 h
          have := b.toNat_lt
          omega
        · have := List.eq_of_mem_replicate h
          omega
      · simp [ByteArray.size]
  · intro β w0 hst hb
    exact ⟨(), rfl, trivial⟩
  · rintro β w0 hst hb e lv w' ⟨rfl, A', k, c', rfl, hbt⟩ hb0 hb1
    refine .inl ⟨⟨A', k, c'⟩, rfl, rfl, fun g bs hbs => retF (Fine.mk' hb1 hbs) fun β w2 hst2 hb2 => ⟨A', k, c', rfl, ?_⟩⟩
    have o2 := hst2.old rfl
    refine Bts.sub hbt (fun a v hlt hx => ?_) o2.sz
    rw [cell_since] at hx ⊢
    have h3 := o2.fr a.block hlt (fun i hi => absurd hi (Nat.not_lt_zero i))
    refine ⟨Nat.le_trans hb.size hx.1, ?_⟩
    simp only [World.cell?, h3] at hx ⊢
    exact hx.2

end Go.Proofs.YtdmnoagahjbjhaaGreatDoor
end

section
/- NetToIP. -/
set_option linter.unusedVariables false
set_option linter.unusedSimpArgs false
set_option maxRecDepth 20000
namespace Go.Proofs.YtdmnoagahjbjhaaGreatDoor
open Go Go.Rx Go.RowKit
@[reducible] def ipHook : Hook := { X := UV, out := fun _ s x => (.tup [.xs x.A x.k x.c, .one .nilIface rfl], s.objs) }
def hk18 : Hooks := { calls := fun f => if f = 23 then some uvHook else if f = 31 then some ipHook else none, loops := fun _ _ => none }
set_option maxRecDepth 100000 in
theorem t18 (A : Option Addr) (n c : Nat) (w : World) : xFunc Tryz.prog hk18 1000 18 [.xs A n c] (SS.mk [] [] true w []) =
  (.hc 23 [(.xs A n c)] (SS.mk [] [] true w []) (uvHook) fun x0 w0 b0 =>
  (.hc 31 [(.xs x0.A x0.k x0.c)] (SS.mk [] [] true w0 b0) (ipHook) fun x1 w1 b1 =>
  (.leaf .ret [(.tup [(.xs x1.A x1.k x1.c), (.bool true true)])] (SS.mk [] [] true w1 b1)))) := by kernel_rfl

theorem netToIP_c (A : Option Addr) (n c : Nat) (x : Comp) (l : List Comp) (B : Nat) (w : World) (h : CompsAt w B A n (x :: l)) (hx4 : x.code = 4) (hB : B ≤ w.heap.size) (hn : (n : Int) < 2 ^ 40) (hc : ∀ y ∈ x :: l, y.code ∈ table) (hv : ∀ y ∈ x :: l, (y.val.length : Int) < 2 ^ 46) :
    Calls Tryz.prog 18 #[.slice A n c] w (Ret (fun v w' => ∃ A k c, v = .tuple #[.slice A k c, .bool true] ∧ Bts (Rx.since w w') w'.heap.size A k x.val) w) := by
  refine funF (hk := hk18) (n := 1000) (args := [.xs A n c]) ⟨trivial, trivial⟩ ?_
  refine holds_eq (t18 A n c w) ?_
  refine row0 (R := MaR) (size := 3) (l := x :: l) rfl (fun β wc hk => address_c A n c (x :: l) B wc (h.below (hk.mono hB) (Nat.le_refl _)) (Nat.le_trans hB hk.size) hn hc hv) ?_
  rintro ⟨A1, k1, c1⟩ wc1 w1 hk1 hb1 hp1
  have hw1 : Below w.heap.size w w1 := hk1.trans (hb1.mono hk1.size)
  dsimp only at hp1
  refine call0 (R := fun (y : UV) wc w' => Bts (Rx.since wc w') w'.heap.size y.A y.k x.val) (fun x => ⟨rfl, trivial, trivial, trivial⟩) (fun β wc hk => ?_) ?_
  · refine (toIP_c A1 k1 c1 x l wc.heap.size wc (hp1.sub MaR.lasts ((since_sub _ _ _).trans (Below.sub hk)) hk.size) hx4 (Nat.le_refl _)).mono ?_
    rintro e w' ⟨v, rfl, ⟨A3, k3, c3, rfl, h5⟩, hb'⟩
    exact ⟨⟨A3, k3, c3⟩, rfl, hb', h5⟩
  rintro ⟨A2, k2, c2⟩ wc2 w2 hk2 hr hb2
  have hw2 : Below w.heap.size w wc2 := hw1.trans (hk2.mono hw1.size)
  refine retF (Fine.nil (hw2.trans (hb2.mono hw2.size))) fun β w3 hst hb3 => ⟨A2, k2, c2, rfl, ?_⟩
  have o2 := hst.old rfl
  refine Bts.sub hr (fun a v hlt hx => ?_) o2.sz
  rw [cell_since] at hx ⊢
  have h3 := o2.fr a.block hlt (fun i hi => absurd hi (Nat.not_lt_zero i))
  refine ⟨Nat.le_trans hw2.size hx.1, ?_⟩
  simp only [World.cell?, h3] at hx ⊢
  exact hx.2

end Go.Proofs.YtdmnoagahjbjhaaGreatDoor
end

section
/- NetIn, of the same four bytes. -/
set_option linter.unusedVariables false
set_option linter.unusedSimpArgs false
set_option maxRecDepth 20000
namespace Go.Proofs.YtdmnoagahjbjhaaGreatDoor
open Go Go.Rx Go.RowKit
def L20 : SE → List Nat
  | .normal => [0, 1, 2, 7]
  | .ret => [6]
  | _ => []
def lh20 : LoopHook := mkHook 44 Unit (.exit 0) [] (fun _ => []) Unit .ret [6] (fun _ => [.bool false true])
def hk20 : Hooks := { calls := fun _ => none, loops := fun _ _ => some lh20 }
set_option maxRecDepth 100000 in
theorem t20 (A : Option Addr) (c : Nat) (A' : Option Addr) (c' : Nat) (w : World) : xFunc Tryz.prog hk20 1000 20 [.xs A 4 c, .int .i64 32 true, .xs A' 4 c'] (SS.mk [] [] true w []) =
  (.loop 20 (loopOf Tryz.prog 20 3) ([(.xs A 4 c), (.int .i64 32 true), (.xs A' 4 c'), (.tup []), (.tup []), (.tup []), (.bool false true), (.int .i64 0 true)] ++ List.replicate 36 undefS) (SS.mk [] [] true w []) (LoopHook.X (lh20)) (LoopHook.out (lh20) ([(.xs A 4 c), (.int .i64 32 true), (.xs A' 4 c'), (.tup []), (.tup []), (.tup []), (.bool false true), (.int .i64 0 true)] ++ List.replicate 36 undefS) (SS.mk [] [] true w [])) (fun x0 w0 b0 =>
   (.leaf .ret [(.bool true true)] (SS.mk [] [] true w0 b0)))
  (LoopHook.Y (lh20)) (LoopHook.out' (lh20) ([(.xs A 4 c), (.int .i64 32 true), (.xs A' 4 c'), (.tup []), (.tup []), (.tup []), (.bool false true), (.int .i64 0 true)] ++ List.replicate 36 undefS) (SS.mk [] [] true w [])) (fun x0 w0 b0 =>
   (.leaf .ret [(.bool false true)] (SS.mk [] [] true w0 b0)))) := by kernel_rfl
set_option maxRecDepth 100000 in
theorem r20 (A : Option Addr) (c : Nat) (A' : Option Addr) (c' i : Nat) (w : World) (g : Nat → Value) : xCode Tryz.prog noHk 1000 20 (loopOf Tryz.prog 20 3) (mkFrame ((L20 .normal).zip [.xs A 4 c, .int .i64 32 true, .xs A' 4 c', .int .i64 i false]) g 44 0) (fun e a s => .leaf e (sel L20 e a) s) (SS.mk [] [] true w []) =
  (.split (decide ((↑i : Int) < (32 : Int)))
   (.split (decide (IntKind.i64.wrap ((↑i : Int).tdiv (8 : Int)) < (↑(4 : Nat) : Int)))
    (.need ((0 : Int) ≤ IntKind.i64.wrap ((↑i : Int).tdiv (8 : Int)) ∧ IntKind.i64.wrap ((↑i : Int).tdiv (8 : Int)) < (↑(4 : Nat) : Int))
    (.need (A'.isSome = true)
    (.need (canRead w [] ((A'.getD default).add ((IntKind.i64.wrap ((↑i : Int).tdiv (8 : Int))).toNat * (1 : Nat))) [SV.int IntKind.u8 (intAt w (((A'.getD default).add ((IntKind.i64.wrap ((↑i : Int).tdiv (8 : Int))).toNat * (1 : Nat))).add (0 : Nat))) false])
    (.split (decide (IntKind.i64.wrap ((↑i : Int).tdiv (8 : Int)) ≥ (↑(4 : Nat) : Int)))
     (.leaf .ret [(.bool false true)] (SS.mk [] [] true w []))
     (.need ((0 : Int) ≤ IntKind.i64.wrap ((↑i : Int).tdiv (8 : Int)) ∧ IntKind.i64.wrap ((↑i : Int).tdiv (8 : Int)) < (↑(4 : Nat) : Int))
     (.need (A.isSome = true)
     (.need (canRead w [] ((A.getD default).add ((IntKind.i64.wrap ((↑i : Int).tdiv (8 : Int))).toNat * (1 : Nat))) [SV.int IntKind.u8 (intAt w (((A.getD default).add ((IntKind.i64.wrap ((↑i : Int).tdiv (8 : Int))).toNat * (1 : Nat))).add (0 : Nat))) false])
     (.need ((0 : Int) ≤ IntKind.i64.wrap ((7 : Int) - (↑i : Int).tmod (8 : Int)))
     (.split (IntKind.u8.wrap (↑(BitVec.ofInt (8 : Nat) ((IntKind.u8.wrap (↑(BitVec.ofInt (8 : Nat) (intAt w (((A.getD default).add ((IntKind.i64.wrap ((↑i : Int).tdiv (8 : Int))).toNat * (1 : Nat))).add (0 : Nat))) ^^^ BitVec.ofInt (8 : Nat) (intAt w (((A'.getD default).add ((IntKind.i64.wrap ((↑i : Int).tdiv (8 : Int))).toNat * (1 : Nat))).add (0 : Nat)))).toNat : Int)).fdiv ((2 : Int) ^ min (IntKind.i64.wrap ((7 : Int) - (↑i : Int).tmod (8 : Int))).toNat (8 : Nat))) &&& BitVec.ofInt (8 : Nat) (1 : Int)).toNat : Int) == (1 : Int))
      (.leaf .ret [(.bool false true)] (SS.mk [] [] true w []))
      (.leaf .normal [(.xs A 4 c), (.int .i64 32 true), (.xs A' 4 c'), (.int .i64 (IntKind.i64.wrap ((↑i : Int) + (1 : Int))) false)] (SS.mk [] [] true w [])))))))))))
    (.split (decide (IntKind.i64.wrap ((↑i : Int).tdiv (8 : Int)) ≥ (↑(4 : Nat) : Int)))
     (.leaf .ret [(.bool false true)] (SS.mk [] [] true w []))
     (.need ((0 : Int) ≤ IntKind.i64.wrap ((↑i : Int).tdiv (8 : Int)) ∧ IntKind.i64.wrap ((↑i : Int).tdiv (8 : Int)) < (↑(4 : Nat) : Int))
     (.need (A.isSome = true)
     (.need (canRead w [] ((A.getD default).add ((IntKind.i64.wrap ((↑i : Int).tdiv (8 : Int))).toNat * (1 : Nat))) [SV.int IntKind.u8 (intAt w (((A.getD default).add ((IntKind.i64.wrap ((↑i : Int).tdiv (8 : Int))).toNat * (1 : Nat))).add (0 : Nat))) false])
     (.need ((0 : Int) ≤ IntKind.i64.wrap ((7 : Int) - (↑i : Int).tmod (8 : Int)))
     (.split (IntKind.u8.wrap (↑(BitVec.ofInt (8 : Nat) ((IntKind.u8.wrap (↑(BitVec.ofInt (8 : Nat) (intAt w (((A.getD default).add ((IntKind.i64.wrap ((↑i : Int).tdiv (8 : Int))).toNat * (1 : Nat))).add (0 : Nat))) ^^^ BitVec.ofInt (8 : Nat) (0 : Int)).toNat : Int)).fdiv ((2 : Int) ^ min (IntKind.i64.wrap ((7 : Int) - (↑i : Int).tmod (8 : Int))).toNat (8 : Nat))) &&& BitVec.ofInt (8 : Nat) (1 : Int)).toNat : Int) == (1 : Int))
      (.leaf .ret [(.bool false true)] (SS.mk [] [] true w []))
      (.leaf .normal [(.xs A 4 c), (.int .i64 32 true), (.xs A' 4 c'), (.int .i64 (IntKind.i64.wrap ((↑i : Int) + (1 : Int))) false)] (SS.mk [] [] true w [])))))))))
   (.leaf (.exit 0) [] (SS.mk [] [] true w []))) := by kernel_rfl

theorem netIn_c (A : Option Addr) (c : Nat) (A' : Option Addr) (c' : Nat) (l : List UInt8) (B : Nat) (w : World) (h : Bts w B A 4 l) (h' : Bts w B A' 4 l) (hB : B ≤ w.heap.size) :
    Calls Tryz.prog 20 #[.slice A 4 c, .int .i64 32, .slice A' 4 c'] w (Ret (BoolQ fun b => b = true) w) := by
  refine funF (hk := hk20) (n := 1000) (args := [.xs A 4 c, .int .i64 32 true, .xs A' 4 c']) ⟨trivial, trivial, trivial, trivial⟩ ?_
  refine holds_eq (t20 A c A' c' w) ?_
  refine loopG (Fine.start _ _) L20 (α := Nat) (fun i => [.xs A 4 c, .int .i64 32 true, .xs A' 4 c', .int .i64 i false]) (fun i => 32 - i) (fun _ i _ => i ≤ 32)
    (fun w0 e lv w' => e = .exit 0 ∧ lv = []) (fun _ => noHk) 1000 (by simp) (by simp [L20]) (by simp [L20]) (fun _ => ⟨trivial, trivial, trivial, trivial, trivial⟩) rfl rfl rfl
    (by simp) (by simp) (fun _ => trivial) (fun _ => ⟨trivial, trivial⟩) ?_ ?_ ?_
  · rintro w0 i w1 g hbw0 hi hb0 hbw
    refine holds_eq (r20 A c A' c' i w1 g) (splitD (fun hlt => ?_) (fun hge => exitF (Fine.nil hb0) (by simp) fun β w' _ _ => ⟨rfl, rfl⟩))
    have hlt' : i < 32 := by omega
    have hB1 : B ≤ w1.heap.size := Nat.le_trans hB hbw.size
    have e8 : IntKind.i64.wrap ((i : Int).tdiv 8) = ((i / 8 : Nat) : Int) := by
      have : ((i : Int).tdiv 8) = ((i / 8 : Nat) : Int) := rfl
      rw [this, wrapi (by omega) (by omega)]
    have e7 : IntKind.i64.wrap (7 - (i : Int).tmod 8) = ((7 - i % 8 : Nat) : Int) := by
      have : ((i : Int).tmod 8) = ((i % 8 : Nat) : Int) := rfl
      rw [this, wrapi (by omega) (by omega)]
      omega
    obtain ⟨ad, x, rfl, had, hx, hR⟩ := (h.below (hbw.mono hB) (Nat.le_refl _)).get (i := i / 8) (by omega)
    obtain ⟨ad', x', rfl, had', hx', hR'⟩ := (h'.below (hbw.mono hB) (Nat.le_refl _)).get (i := i / 8) (by omega)
    rw [hx] at hx'
    cases hx'
    rw [e8, e7]
    have f1 : intAt w1 ((((some ad).getD default).add (((i / 8 : Nat) : Int).toNat * 1)).add 0) = (x.toNat : Int) := by
      have : w1.cell? ((((some ad).getD default).add (((i / 8 : Nat) : Int).toNat * 1)).add 0) = some (.int .u8 (x.toNat : Int)) := hR
      simp only [intAt, this]
    have f2 : intAt w1 ((((some ad').getD default).add (((i / 8 : Nat) : Int).toNat * 1)).add 0) = (x.toNat : Int) := by
      have : w1.cell? ((((some ad').getD default).add (((i / 8 : Nat) : Int).toNat * 1)).add 0) = some (.int .u8 (x.toNat : Int)) := hR'
      simp only [intAt, this]
    rw [f1, f2]
    have g1 : canRead w1 [] (ad.add (i / 8 * 1)) [SV.int .u8 (x.toNat : Int) false] := canRead1 (by rw [add_block]; omega) (by simp) hR
    have g2 : canRead w1 [] (ad'.add (i / 8 * 1)) [SV.int .u8 (x.toNat : Int) false] := canRead1 (by rw [add_block]; omega) (by simp) hR'
    refine splitD (fun _ => ?_) (fun hno => absurd (by omega) hno)
    refine needT (by omega) (needT rfl (needT g2 (splitD (fun hno => absurd hno (by omega)) (fun _ => needT (by omega) (needT rfl (needT g1 (needT (by omega) (splitT (fun hne => ?_) (fun _ => nextF (Fine.nil hb0) fun β w' _ _ => ⟨i + 1, by omega, ?_, by omega⟩))))))))) 
    · rw [BitVec.xor_self] at hne
      exfalso
      have z : IntKind.u8.wrap (((0#8).toNat : Nat) : Int) = 0 := by decide
      rw [z, Int.zero_fdiv] at hne
      revert hne
      decide
    · rw [next_i hlt' (by omega)]; rfl
  · intro β w0 hst hb
    exact ⟨0, rfl, Nat.zero_le _⟩
  · rintro β w0 hst hb e lv w' ⟨rfl, rfl⟩ hb0 hb1
    exact .inl ⟨(), rfl, rfl, fun g bs hbs => retF (Fine.mk' hb1 hbs) fun β w' _ _ => ⟨_, rfl, rfl⟩⟩

end Go.Proofs.YtdmnoagahjbjhaaGreatDoor
end

section
/- 'safe': what it calls is called; the deferred closure finds nothing to recover. -/
set_option linter.unusedVariables false
set_option linter.unusedSimpArgs false
open Go Go.RowKit
namespace Go.Proofs.YtdmnoagahjbjhaaGreatDoor

theorem catch47 (p : Addr) (w : World) : CallsD Tryz.prog 47 #[.pointer (some p)] .returning w fun e u' w' => e = .returned (.tuple #[]) ∧ u' = .returning ∧ w' = w := by
  refine callsD_of_wpS Tryz.func47 rfl fun c₀ cs hu => ?_
  apply wpS_seq
  apply wpS_region
  simp [wpOpsS, go_sem, recoverD, hu, Tryz.ntmps47, Exit.thenS]
  refine wpS_cond (t := false) (by simp [Act.eval, Array.replicate]) ?_
  refine wpS_of_wp ?_
  simp only [Bool.false_eq_true, if_false]
  go_wp2
  cases c₀
  simp_all [bodyPostS, results, Tryz.results47, Exit.thenS]

theorem safe_c (p q r : Addr) (w : World) (bs : List Nat) (R : World → Prop) (hbs : ∀ b ∈ bs, b < w.heap.size)
    (hR : ∀ w2 w3 : World, (∀ b, b < w.heap.size → w3.heap[b]? = w2.heap[b]?) → R w2 → R w3)
    (h : ∀ w1, Below w.heap.size w w1 → Calls Tryz.prog 33 #[.pointer (some p), .pointer (some q), .pointer (some r)] w1 fun e w' => e = .returned (.tuple #[]) ∧ Rx.Keep bs w1 w' ∧ R w') :
    Calls Tryz.prog 32 #[.func (.func 33) #[] #[.pointer (some p), .pointer (some q), .pointer (some r)]] w fun e w' => e = .returned (.bool true) ∧ Rx.Keep bs w w' ∧ R w' := by
  have hmf : ∀ (fn : Fn) (first cap : Array Value) (w : World), (Instr.makeFunc fn first cap).run Tryz.prog w = .ok (.func fn first cap) w := fun _ _ _ _ => rfl
  have h1 := h (w.alloc (Obj.cells #[Value.bool false] 4)) (Below.alloc (Below.refl _ _) (Nat.le_refl _) _)
  clear h
  go_enter_defers Tryz.func32, Tryz.ntmps32
  go_wp2_with fail
  refine h1.mono ?_
  rintro e w' ⟨rfl, hk, hr⟩
  have hb : w'.heap[w.heap.size]? = some (.cells #[.bool false] 4 (0, 0)) := by
    rw [hk.block w.heap.size (by show w.heap.size < (w.heap.push _).size; simp) (fun hm => Nat.lt_irrefl _ (hbs _ hm))]
    show (w.heap.push _)[w.heap.size]? = _
    simp
  have hc : w'.cell? ⟨w.heap.size, 0, none⟩ = some (.bool false) := by simp [World.cell?, hb]
  have hz : w'.frozen? ⟨w.heap.size, 0, none⟩ = false := by simp [World.frozen?, hb]
  go_wp2
  refine leaves_cons (f := 47) (args := #[.pointer (some ⟨w.heap.size, 0, none⟩)]) (by simp) (by simp [go_sem]) ?_
  refine (catch47 ⟨w.heap.size, 0, none⟩ _).mono ?_
  rintro e u' w'' ⟨rfl, rfl, rfl⟩
  simp [Leaves, settle, results, Tryz.results32, go_sem]
  have hs : (w'.setCell ⟨w.heap.size, 0, none⟩ (.bool true)).cell? ⟨w.heap.size, 0, none⟩ = some (.bool true) := by
    simp [World.cell?, World.setCell, Array.getElem?_modify, hb]
  rw [hs]
  have hz1 : w.heap.size < w'.heap.size := (Array.getElem?_eq_some_iff.1 hb).1
  have hblk : ∀ b, b < w.heap.size → (w'.setCell ⟨w.heap.size, 0, none⟩ (.bool true)).heap[b]? = w'.heap[b]? := fun b hb => Below.heap_setCell _ _ _ _ (by show b ≠ w.heap.size; omega)
  refine ⟨_, rfl, rfl, ⟨hk.os, hk.tape, hk.output, ?_, fun b hb1 hb2 => ?_⟩, hR _ _ hblk hr⟩
  · show w.heap.size ≤ (w'.heap.modify _ _).size
    simp
    omega
  · rw [hblk b hb1, hk.block b (by show b < (w.heap.push _).size; simp; omega) hb2]
    exact Below.heap_alloc _ _ _ hb1
end Go.Proofs.YtdmnoagahjbjhaaGreatDoor
end

