/- The symbolic executor: symbolic values, symbolic memory, the tree of ways, and the executor itself: plain definitions; nothing is proved here. -/
import Derived.WalkKit
import Derived.Orders
import Derived.Deep.Quiet
/- The symbolic executor: symbolic values, symbolic memory, the tree of ways, and the executor itself. Plain definitions; nothing is proved here. -/
set_option linter.unusedVariables false
set_option linter.unusedSimpArgs false
namespace Go.Rx

/-- A symbolic value: numbers and texts are Lean terms ('lit': may be computed with), addresses are an identity of a tracked block and an offset. -/
inductive SV where
  | one (v : Value) (h : v.oneCell' = true)
  | int (k : IntKind) (n : Int) (lit : Bool)
  | bool (b : Bool) (lit : Bool)
  | str (s : ByteArray) (lit : Bool)
  | ptr (id off : Nat)
  | slc (id off len cap : Nat) (ll lc : Bool)
  | ifc (t : TypeId) (v : SV)
  | agg (cs : List SV)
  | tup (cs : List SV)
  | fn (f : Fn) (first captured : List SV)
  /-- A value of which nothing is known. -/
  | raw (v : Value)
  /-- An address in memory that is not tracked. -/
  | xp (a : Addr)
  /-- A slice over memory that is not tracked. -/
  | xs (a : Option Addr) (len cap : Nat)

instance : Inhabited SV := ⟨.tup []⟩

/-- What a tracked block holds. -/
inductive SObj where
  /-- The first cells are 'cs', there are 'total' in all; what the others hold is not known. -/
  | cells (cs : List SV) (total : Nat) (elem : TypeId) (lo hi : Nat)
  | ints (k : IntKind) (l : List Int) (elem : TypeId) (lo hi : Nat)
  | other (o : Obj)
  | unk
  /-- The first cells are the values 'l', there are 'total' in all. -/
  | vals (l : List Value) (total : Nat) (elem : TypeId) (lo hi : Nat)

/-- 'w0': what is not tracked is as it was in that world; 'pre': the first tracked blocks, which were there already; 'ext': both may be used. -/
structure SS where
  objs : List SObj
  gl : List (Nat × Nat)
  ext : Bool
  w0 : World
  pre : List Nat

/-- What a piece of code ends in. -/
inductive SE where
  | normal
  | exit (id : Nat)
  | goto (l : Nat)
  | ret

/-- The tree of ways. -/
inductive T where
  | leaf (e : SE) (vs : List SV) (s : SS)
  | bad (why : String)
  | need (p : Prop) (t : T)
  | split (b : Bool) (t f : T)
  | choose (q : Question) (k : Nat → T)
  | both (a b : T)
  | call (f : FuncId) (args : List SV) (s : SS) (X : Type) (out : X → SV × List SObj) (k : X → World → List Nat → T)
  | loop (f : FuncId) (body : Code) (tmps : List SV) (s : SS) (X : Type) (out : X → SE × List SV × List SObj) (k : X → World → List Nat → T) (Y : Type) (out' : Y → SE × List SV × List SObj) (k' : Y → World → List Nat → T)

/-- The tracked memory behind something that may have turned all else. -/
def reS (s : SS) (objs : List SObj) (w' : World) (bs : List Nat) : SS := { s with objs := objs, w0 := w', pre := bs }

/-- Nothing is tracked. -/
def SS.at (w : World) : SS := ⟨[], [], true, w, []⟩

mutual
def SV.den (β : Nat → Nat) : SV → Value
  | .one v _ => v
  | .int k n _ => .int k n
  | .bool b _ => .bool b
  | .str s _ => .string s
  | .ptr i o => .pointer (some ⟨β i, o, none⟩)
  | .slc i o n c _ _ => .slice (some ⟨β i, o, none⟩) n c
  | .ifc t v => .iface t (SV.den β v)
  | .agg cs => .agg (denL β cs).toArray
  | .tup cs => .tuple (denL β cs).toArray
  | .fn f a c => .func f (denL β a).toArray (denL β c).toArray
  | .raw v => v
  | .xp a => .pointer (some a)
  | .xs a n c => .slice a n c
def denL (β : Nat → Nat) : List SV → List Value
  | [] => []
  | v :: vs => SV.den β v :: denL β vs
end

def SV.cell (v : Value) : SV :=
  match v with
  | .int k n => .int k n true
  | .bool b => .bool b true
  | .string s => .str s true
  | .agg _ => .tup []
  | .tuple _ => .tup []
  | .float k b => .one (.float k b) rfl
  | .complex k a b => .one (.complex k a b) rfl
  | .pointer a => .one (.pointer a) rfl
  | .slice a n c => .one (.slice a n c) rfl
  | .map r => .one (.map r) rfl
  | .chan r => .one (.chan r) rfl
  | .func f a c => .one (.func f a c) rfl
  | .nilFunc => .one .nilFunc rfl
  | .iface t v => .one (.iface t v) rfl
  | .nilIface => .one .nilIface rfl

def SV.cellOf (v : Value) : SV :=
  match v with
  | .iface t x => (match x with
    | .agg _ => .one (.iface t x) rfl
    | .tuple _ => .one (.iface t x) rfl
    | _ => .ifc t (SV.cell x))
  | _ => SV.cell v

/-- A constant of the program. 'none': a form that is not taken. -/
def SV.ofValue (v : Value) : Option SV :=
  match v with
  | .agg cs => if cs.toList.all Value.oneCell' then some (.agg (cs.toList.map SV.cellOf)) else none
  | .tuple cs => if cs.toList.isEmpty then some (.tup []) else none
  | _ => some (SV.cellOf v)

def SV.cells : SV → List SV
  | .agg cs => cs
  | .raw v => v.cells.toList.map .raw
  | v => [v]

def SV.isOne : SV → Bool
  | .agg _ => false
  | .tup _ => false
  | .raw _ => false
  | _ => true

def undefS : SV := .tup []

/-! ### Lists -/

def nth (l : List SV) (i : Nat) : Option SV := l[i]?

def takeN : Nat → List SV → Option (List SV)
  | 0, _ => some []
  | _ + 1, [] => none
  | n + 1, x :: xs => match takeN n xs with
    | some l => some (x :: l)
    | none => none

def takeAt : Nat → Nat → List SV → Option (List SV)
  | 0, n, l => takeN n l
  | _ + 1, _, [] => none
  | o + 1, n, _ :: l => takeAt o n l

/-- Several cells written from an offset on; every one must be there. -/
def putAt : Nat → List SV → List SV → Option (List SV)
  | 0, [], l => some l
  | 0, _ :: _, [] => none
  | 0, v :: vs, _ :: l => match putAt 0 vs l with
    | some r => some (v :: r)
    | none => none
  | _ + 1, _, [] => none
  | o + 1, vs, x :: l => match putAt o vs l with
    | some r => some (x :: r)
    | none => none

def SS.set (s : SS) (i : Nat) (o : SObj) : SS := { s with objs := s.objs.set i o }
def SS.new (s : SS) (o : SObj) : SS := { s with objs := s.objs ++ [o] }
def SS.n (s : SS) : Nat := s.objs.length

/-! ### Types -/

/-- none: no such type · some none: one cell · some (some n): n cells, a struct or an array. -/
def aggSize (P : Program) (t : TypeId) : Option (Option Nat) :=
  match P.underlying t with
  | none => none
  | some (.struct _) => (P.info? t).map fun i => some i.size
  | some (.array _ _) => (P.info? t).map fun i => some i.size
  | some _ => some none

def zeroS (P : Program) (t : TypeId) : Option SV :=
  match P.info? t with
  | some i => match i.zero with
    | some z => SV.ofValue z
    | none => none
  | none => none

/-! ### Memory -/

def intAt (w : World) (a : Addr) : Int :=
  match w.cell? a with
  | some (.int _ n) => n
  | _ => 0

def boolAt (w : World) (a : Addr) : Bool :=
  match w.cell? a with
  | some (.bool b) => b
  | _ => false

def strAt (w : World) (a : Addr) : ByteArray :=
  match w.cell? a with
  | some (.string s) => s
  | _ => ByteArray.empty

def ptrAt (w : World) (a : Addr) : Addr :=
  match w.cell? a with
  | some (.pointer (some b)) => b
  | _ => default

def slA (w : World) (a : Addr) : Option Addr :=
  match w.cell? a with
  | some (.slice b _ _) => b
  | _ => none

def slN (w : World) (a : Addr) : Nat :=
  match w.cell? a with
  | some (.slice _ n _) => n
  | _ => 0

def slC (w : World) (a : Addr) : Nat :=
  match w.cell? a with
  | some (.slice _ _ c) => c
  | _ => 0

def oneAt (w : World) (a : Addr) : { v : Value // v.oneCell' = true } :=
  match w.cell? a with
  | some v => if h : v.oneCell' = true then ⟨v, h⟩ else ⟨.nilIface, rfl⟩
  | none => ⟨.nilIface, rfl⟩

/-- What a cell of a type holds, memory that is not tracked. -/
def extOne (P : Program) (t : TypeId) (w : World) (a : Addr) : Option SV :=
  match P.underlying t with
  | none => none
  | some (.int k) => some (.int k (intAt w a) false)
  | some .bool => some (.bool (boolAt w a) false)
  | some .string => some (.str (strAt w a) false)
  | some (.slice _) => some (.xs (slA w a) (slN w a) (slC w a))
  | some (.pointer _) => some (.xp (ptrAt w a))
  | some (.struct _) => none
  | some (.array _ _) => none
  | some _ => some (.one (oneAt w a).1 (oneAt w a).2)

mutual
/-- The types of a type's cells. -/
def leaves (P : Program) : Nat → TypeId → Option (List TypeId)
  | 0, _ => none
  | n + 1, t => match P.underlying t with
    | none => none
    | some (.struct fields) => leavesL P n fields.toList
    | some (.array _ _) => none
    | some _ => some [t]
def leavesL (P : Program) : Nat → List Field → Option (List TypeId)
  | 0, _ => none
  | _ + 1, [] => some []
  | n + 1, f :: fs => match leaves P n f.type, leavesL P n fs with
    | some a, some b => some (a ++ b)
    | _, _ => none
end

def extCells (P : Program) (w : World) (a : Addr) : List TypeId → Nat → Option (List SV)
  | [], _ => some []
  | t :: ts, j => match extOne P t w (a.add j), extCells P w a ts (j + 1) with
    | some v, some vs => some (v :: vs)
    | _, _ => none

/-- The cells of memory that is not tracked hold these values. -/
def canRead (w : World) (pre : List Nat) (a : Addr) (vs : List SV) : Prop :=
  a.block < w.heap.size ∧ a.block ∉ pre ∧ ∀ (j : Nat) (v : SV), vs[j]? = some v → w.cell? (a.add j) = some (v.den id)

/-- The cells of memory that is not tracked hold bytes. -/
def canBytes (w : World) (pre : List Nat) (A : Option Addr) (n : Nat) : Prop :=
  n = 0 ∨ ∃ a, A = some a ∧ a.block < w.heap.size ∧ a.block ∉ pre ∧ ∀ i, i < n → ∃ b : UInt8, w.cell? (a.add i) = some (.int .u8 (b.toNat : Int))

def bytesAt (w : World) (A : Option Addr) (n : Nat) : ByteArray :=
  ⟨((List.range n).map fun i => UInt8.ofNat (intAt w ((A.getD default).add i)).toNat).toArray⟩

def valsAt (w : World) (A : Option Addr) (n : Nat) : List Value :=
  (List.range n).map fun i => .int .u8 (intAt w ((A.getD default).add i))

/-- 'off + j' of bytes. -/
def byteVals (l : List Value) : Prop := ∀ v ∈ l, ∃ b : UInt8, v = .int .u8 (b.toNat : Int)

def valInt (v : Value) : Int :=
  match v with
  | .int _ n => n
  | _ => 0

def xExt (P : Program) (t : TypeId) (a : Addr) (s : SS) (K : SV → T) : T :=
  if s.ext then
    (match leaves P 12 t with
    | none => .bad "load: types of cells"
    | some ts => (match extCells P s.w0 a ts 0 with
      | none => .bad "load: cells"
      | some vs => .need (canRead s.w0 s.pre a vs) (match aggSize P t with
        | none => .bad "load: no such type"
        | some none => (match vs with
          | [v] => K v
          | _ => .bad "load: one cell")
        | some (some n) => if vs.length = n then K (.agg vs) else .bad "load: another size")))
  else .bad "load: not tracked"

def xCell (s : SS) (id off : Nat) (K : SV → T) : T :=
  match s.objs[id]? with
  | some (.cells cs _ _ _ _) => match cs[off]? with
    | some v => K v
    | none => .bad "load: no such cell"
  | some (.ints k l _ _ _) => .need (off < l.length) (K (.int k (l.getD off 0) false))
  | _ => .bad "load: not tracked"

def xLoad (P : Program) (t : TypeId) (a : SV) (s : SS) (K : SV → T) : T :=
  match a with
  | .ptr id off => match aggSize P t with
    | none => .bad "load: no such type"
    | some none => xCell s id off K
    | some (some n) => match s.objs[id]? with
      | some (.cells cs _ _ _ _) => match takeAt off n cs with
        | some l => K (.agg l)
        | none => .bad "load: no such cells"
      | _ => .bad "load: cells not tracked"
  | .xp a => xExt P t a s K
  | _ => .bad "load: no address"

/-- 'lo ≤ off + j < hi' for no j < n: nothing that is written is frozen. -/
def thawed (lo hi off n : Nat) : Bool := decide (hi ≤ off ∨ off + n ≤ lo ∨ hi ≤ lo)

def xStore (P : Program) (t : TypeId) (a v : SV) (s : SS) (K : SS → T) : T :=
  match a with
  | .ptr id off => match P.info? t with
    | none => .bad "store: no such type"
    | some i => if v.cells.length = i.size then
        if v.cells.all SV.isOne then
        match s.objs[id]? with
        | some (.cells cs tot e lo hi) => match putAt off v.cells cs with
          | some cs' => if thawed lo hi off v.cells.length then K (s.set id (.cells cs' tot e lo hi)) else .bad "store: frozen"
          | none => .bad "store: no such cells"
        | some (.ints k l e lo hi) => (match v with
          | .int k' n _ => if k = k' then .need (off < l.length) (.need (thawed lo hi off 1 = true) (K (s.set id (.ints k (l.set off n) e lo hi)))) else .bad "store: another kind"
          | _ => .bad "store: no integer")
        | _ => .bad "store: not tracked"
        else .bad "store: a cell is none"
      else .bad "store: another size"
  | _ => .bad "store: no address"

def xNew (s : SS) (cs : List SV) (e : TypeId) (K : SV → SS → T) : T :=
  if cs.all SV.isOne then K (.ptr s.n 0) (s.new (.cells cs cs.length e 0 0)) else .bad "new: a cell is none"

def xAlloc (P : Program) (e : TypeId) (s : SS) (K : SV → SS → T) : T :=
  match zeroS P e with
  | some z => xNew s z.cells e K
  | none => .bad "alloc: no zero value"

/-! ### Struct and array literals -/

def fillS (place : Nat → Option (Nat × Nat)) (cells : List SV) : List (Nat × SV) → Option (List SV)
  | [] => some cells
  | (i, v) :: rest =>
    match place i with
    | none => none
    | some (off, size) =>
      if v.cells.length = size then
        match putAt off v.cells cells with
        | some cs => fillS place cs rest
        | none => none
      else none

def fieldPlaces (P : Program) (fields : List Field) : Option (List (Nat × Nat)) :=
  match fields with
  | [] => some []
  | f :: fs => match P.info? f.type, fieldPlaces P fs with
    | some i, some l => some ((f.offset, i.size) :: l)
    | _, _ => none

def xBuild (P : Program) (t : TypeId) (parts : List (Nat × SV)) (K : SV → T) : T :=
  match zeroS P t with
  | none => .bad "build: no zero value"
  | some z => match P.underlying t with
    | some (.struct fields) => match fieldPlaces P fields.toList with
      | some places => match fillS (places[·]?) z.cells parts with
        | some cs => K (.agg cs)
        | none => .bad "build: a part does not fit"
      | none => .bad "build: a field's type"
    | some (.array _ elem) => match P.info? elem with
      | some i => match fillS (fun j => some (j * i.size, i.size)) z.cells parts with
        | some cs => K (.agg cs)
        | none => .bad "build: a part does not fit"
      | none => .bad "build: no element type"
    | _ => .bad "build: neither struct nor array"

def rep : Nat → List SV → List SV
  | 0, _ => []
  | n + 1, z => z ++ rep n z

def xBuildSlice (P : Program) (t : TypeId) (len : Nat) (parts : List (Nat × SV)) (s : SS) (K : SV → SS → T) : T :=
  match P.underlying t with
  | some (.slice elem) => (match P.info? elem, zeroS P elem with
    | some inf, some z => if z.cells.length = inf.size ∧ len * inf.size ≤ 2 ^ 24 then
        (match fillS (fun j => some (j * inf.size, inf.size)) (rep len z.cells) parts with
        | some cs => K (.slc s.n 0 len len true true) (s.new (.cells cs cs.length elem 0 0))
        | none => .bad "buildSlice: a part does not fit")
      else .bad "buildSlice: size"
    | _, _ => .bad "buildSlice: type")
  | _ => .bad "buildSlice: no slice"

/-! ### Fields, elements -/

def xFieldAddr (P : Program) (t : TypeId) (a : SV) (f : Nat) (K : SV → T) : T :=
  match P.underlying t with
  | some (.struct fields) => match fields[f]? with
    | some fd => (match P.info? fd.type with
      | some i => if i.size = 0 then .bad "field: of size 0" else (match a with
        | .ptr id off => K (.ptr id (off + fd.offset))
        | .xp a => K (.xp (a.add fd.offset))
        | _ => .bad "field: no address")
      | none => .bad "field: no type")
    | none => .bad "field: none"
  | _ => .bad "field: no struct"

def partS (P : Program) (t : TypeId) (cs : List SV) (off : Nat) : Option SV :=
  match aggSize P t with
  | none => none
  | some none => cs[off]?
  | some (some n) => (takeAt off n cs).map SV.agg

def xField (P : Program) (t : TypeId) (x : SV) (f : Nat) (K : SV → T) : T :=
  match P.underlying t with
  | some (.struct fields) => match fields[f]? with
    | some fd => (match x with
      | .agg cs => (match partS P fd.type cs fd.offset with
        | some v => K v
        | none => .bad "field: no such part")
      | _ => .bad "field: no struct value")
    | none => .bad "field: none"
  | _ => .bad "field: no struct"


/-! ### Indexing and slicing -/

/-- '0 ≤ i < n': decided, or asked for. -/
def xIn (i : Int) (n : Nat) (lit : Bool) (t : T) : T :=
  if lit then (if 0 ≤ i ∧ i < (n : Int) then t else .bad "index: out of range") else .need (0 ≤ i ∧ i < (n : Int)) t

def xIndexAddr (P : Program) (t : TypeId) (x ix : SV) (K : SV → T) : T :=
  match ix with
  | .int _ i li => (match P.underlying t with
    | some (.array len elem) => (match x with
      | .ptr id off => (match P.info? elem with
        | some inf => xIn i len li (K (.ptr id (off + i.toNat * inf.size)))
        | none => .bad "index: no type")
      | .xp a => (match P.info? elem with
        | some inf => xIn i len li (K (.xp (a.add (i.toNat * inf.size))))
        | none => .bad "index: no type")
      | _ => .bad "index: no array's address")
    | some (.slice elem) => (match x with
      | .slc id off len _ ll _ => (match P.info? elem with
        | some inf => xIn i len (li && ll) (K (.ptr id (off + i.toNat * inf.size)))
        | none => .bad "index: no type")
      | .xs A len _ => (match P.info? elem with
        | some inf => xIn i len false (.need (A.isSome = true) (K (.xp ((A.getD default).add (i.toNat * inf.size)))))
        | none => .bad "index: no type")
      | _ => .bad "index: no slice")
    | _ => .bad "index: neither array nor slice")
  | _ => .bad "index: no integer"

def xIndex (P : Program) (t : TypeId) (x ix : SV) (K : SV → T) : T :=
  match ix with
  | .int _ i li => (match P.underlying t with
    | some (.array len elem) => (match x with
      | .agg cs => (match P.info? elem with
        | some inf => xIn i len li (match partS P elem cs (i.toNat * inf.size) with
          | some v => K v
          | none => .bad "index: no such part")
        | none => .bad "index: no type")
      | _ => .bad "index: no array")
    | some .string => (match x with
      | .str s ls => xIn i s.size (li && ls) (K (.int .u8 ((s.data.toList.getD i.toNat 0).toNat : Int) (li && ls)))
      | _ => .bad "index: no string")
    | _ => .bad "index: neither array nor string")
  | _ => .bad "index: no integer"

def xBound (x : Option SV) (dflt : Nat) (dl : Bool) (y : Nat) (yl : Bool) (K : Nat → Bool → T) : T :=
  match x with
  | none => K dflt dl
  | some (.int _ i li) =>
    if li && yl then (if 0 ≤ i ∧ i ≤ (y : Int) then K i.toNat true else .bad "slice: out of range")
    else .need (0 ≤ i ∧ i ≤ (y : Int)) (K i.toNat li)
  | some _ => .bad "slice: no integer"

def xBounds (len : Nat) (ll : Bool) (cap : Nat) (lc : Bool) (low high max : Option SV) (K : Nat → Bool → Nat → Bool → Nat → Bool → T) : T :=
  match max, high with
  | some _, none => .bad "slice: max without high"
  | _, _ => xBound max cap lc cap lc fun m lm => xBound high len ll m lm fun h lh => xBound low 0 true h lh fun l l0 => K l l0 h lh m lm

def xSlice (P : Program) (t : TypeId) (x : SV) (low high max : Option SV) (K : SV → T) : T :=
  match P.underlying t with
  | some .string => (match x with
    | .str s ls => (match max with
      | none => xBounds s.size ls s.size ls low high none fun l l0 h lh _ _ => K (.str (s.extract l h) (ls && l0 && lh))
      | some _ => .bad "slice: full slice of a string")
    | _ => .bad "slice: no string")
  | some (.slice elem) => (match P.info? elem with
    | some inf => (match x with
      | .slc id off len cap ll lc => xBounds len ll cap lc low high max fun l l0 h lh m lm =>
          K (.slc id (if m = l then off else off + l * inf.size) (h - l) (m - l) (lh && l0) (lm && l0))
      | .xs A len cap => xBounds len false cap false low high max fun l _ h _ m _ =>
          K (.xs (if m = l then A else A.map (·.add (l * inf.size))) (h - l) (m - l))
      | .one (.slice none len cap) _ => xBounds len true cap true low high max fun l _ h _ m _ => K (.one (.slice none (h - l) (m - l)) rfl)
      | _ => .bad "slice: no slice")
    | none => .bad "slice: no type")
  | some (.array n elem) => (match P.info? elem with
    | some inf => (match x with
      | .ptr id off => xBounds n true n true low high max fun l l0 h lh m lm =>
          K (.slc id (if m = l then off else off + l * inf.size) (h - l) (m - l) (lh && l0) (lm && l0))
      | _ => .bad "slice: no array's address")
    | none => .bad "slice: no type")
  | some (.pointer arr) => (match P.underlying arr with
    | some (.array n elem) => (match P.info? elem with
      | some inf => (match x with
        | .ptr id off => xBounds n true n true low high max fun l l0 h lh m lm =>
            K (.slc id (if m = l then off else off + l * inf.size) (h - l) (m - l) (lh && l0) (lm && l0))
        | _ => .bad "slice: no array's address")
      | none => .bad "slice: no type")
    | _ => .bad "slice: no array")
  | _ => .bad "slice: of what"

/-- The zero value of an element has as many cells as the element. -/
def zeroOk (P : Program) (e : TypeId) (n : Nat) : Bool :=
  match zeroS P e with
  | some z => z.cells.length == n
  | none => false

def xMakeSlice (P : Program) (t : TypeId) (len cap : SV) (s : SS) (K : SV → SS → T) : T :=
  match P.underlying t with
  | some (.slice elem) => (match P.info? elem with
    | some inf => (match len, cap with
      | .int _ n ln, .int _ c lc =>
        if ln && lc then
          (if 0 ≤ n ∧ n ≤ c ∧ inf.bytes * c ≤ 2 ^ 48 ∧ c < 2 ^ 63 then
            (match zeroS P elem with
            | some z => if z.cells.length = inf.size then (if z.cells.all SV.isOne then K (.slc s.n 0 n.toNat c.toNat true true) (s.new (.cells (rep c.toNat z.cells) (rep c.toNat z.cells).length elem 0 0)) else .bad "make: zero") else .bad "make: size"
            | none => .bad "make: no zero value")
          else .bad "make: out of range")
        else
          (match inf.zero with
          | some (.int k z) => if z = 0 ∧ inf.size = 1 then .need (0 ≤ n ∧ n ≤ c ∧ inf.bytes * c ≤ 2 ^ 48 ∧ c < 2 ^ 63) (K (.slc s.n 0 n.toNat c.toNat false false) (s.new (.ints k (List.replicate c.toNat 0) elem 0 0))) else .bad "make: zero"
          | _ => if ln && decide (n = 0) && zeroOk P elem inf.size then .need (0 ≤ c ∧ inf.bytes * c ≤ 2 ^ 48 ∧ c < 2 ^ 63) (K (.slc s.n 0 0 c.toNat true false) (s.new (.vals [] (c.toNat * inf.size) elem 0 0))) else .bad "make: no integers")
      | _, _ => .bad "make: no integers")
    | none => .bad "make: no type")
  | _ => .bad "make: no slice"

/-! ### len, cap, append, copy -/

def xLen (P : Program) (t : TypeId) (x : SV) (K : SV → T) : T :=
  match P.underlying t with
  | some .string => (match x with
    | .str s l => K (.int .i64 s.size l)
    | _ => .bad "len: no string")
  | some (.array n _) => K (.int .i64 n true)
  | some (.pointer arr) => (match P.underlying arr with
    | some (.array n _) => K (.int .i64 n true)
    | _ => .bad "len: no array")
  | some (.slice _) => (match x with
    | .slc _ _ n _ l _ => K (.int .i64 n l)
    | .one (.slice none n _) _ => K (.int .i64 n true)
    | .xs _ n _ => K (.int .i64 n false)
    | _ => .bad "len: no slice")
  | _ => .bad "len: of what"

def xCap (P : Program) (t : TypeId) (x : SV) (K : SV → T) : T :=
  match P.underlying t with
  | some (.array n _) => K (.int .i64 n true)
  | some (.slice _) => (match x with
    | .slc _ _ _ c _ l => K (.int .i64 c l)
    | .one (.slice none _ c) _ => K (.int .i64 c true)
    | .xs _ _ c => K (.int .i64 c false)
    | _ => .bad "cap: no slice")
  | _ => .bad "cap: of what"

def intsAt (k : IntKind) (l : List Int) (off : Nat) : Nat → List SV
  | 0 => []
  | n + 1 => .int k (l.getD off 0) false :: intsAt k l (off + 1) n

def bytesS : List UInt8 → Bool → List SV
  | [], _ => []
  | b :: bs, lit => .int .u8 (b.toNat : Int) lit :: bytesS bs lit

/-- The first n cells of what is appended or copied (n is known). -/
def xFirst (n : Nat) (x : SV) (s : SS) (K : List SV → T) : T :=
  match x with
  | .slc id off _ _ _ _ => (match s.objs[id]? with
    | some (.cells cs _ _ _ _) => (match takeAt off n cs with
      | some l => K l
      | none => .bad "cells: not there")
    | some (.ints k l _ _ _) => .need (off + n ≤ l.length) (K (intsAt k l off n))
    | _ => .bad "cells: not tracked")
  | .one (.slice none _ _) _ => if n = 0 then K [] else .bad "cells: of nil"
  | _ => .bad "cells: of what"

def lenS : SV → Option (Nat × Bool)
  | .slc _ _ n _ l _ => some (n, l)
  | .one (.slice none n _) _ => some (n, true)
  | _ => none

def kindOf (z : Option Value) : Option IntKind :=
  match z with
  | some (.int k n) => if n = 0 then some k else none
  | _ => none

/-- append within the capacity. -/
def appendIn (s : SS) (id off len n cap : Nat) (lc : Bool) (size : Nat) (cs : List SV) (tot : Nat) (e : TypeId) (lo hi : Nat) (new : List SV) (K : SV → SS → T) : T :=
  match putAt (off + len * size) new cs with
  | some cs' => if thawed lo hi (off + len * size) new.length then K (.slc id off (len + n) cap true lc) (s.set id (.cells cs' tot e lo hi)) else .bad "append: frozen"
  | none =>
    if off + len * size = cs.length then
      (if thawed lo hi (off + len * size) new.length then .need (cs.length + new.length ≤ tot) (K (.slc id off (len + n) cap true lc) (s.set id (.cells (cs ++ new) tot e lo hi))) else .bad "append: frozen")
    else .bad "append: no such cells"

mutual
def SV.okb (n : Nat) : SV → Bool
  | .one _ _ => true
  | .int _ _ _ => true
  | .bool _ _ => true
  | .str _ _ => true
  | .ptr i _ => decide (i < n)
  | .slc i _ _ _ _ _ => decide (i < n)
  | .ifc _ v => SV.okb n v
  | .agg cs => okbL n cs
  | .tup cs => okbL n cs
  | .fn _ a c => okbL n a && okbL n c
  | .raw _ => true
  | .xp _ => true
  | .xs _ _ _ => true
def okbL (n : Nat) : List SV → Bool
  | [] => true
  | v :: vs => SV.okb n v && okbL n vs
end

/-- A value that names no tracked block. -/
def closedL (l : List SV) : Option (List Value) := if okbL 0 l then some (denL id l) else none

/-- append to a row of which the first cells are known as values. -/
def appendVals (s : SS) (elem : TypeId) (inf : TypeInfo) (id off len n cap : Nat) (l : List Value) (tot : Nat) (e : TypeId) (lo hi : Nat) (new : List Value) (K : SV → SS → T) : T :=
  .split (decide (len + n ≤ cap))
    (.need (off + len * inf.size = l.length ∧ l.length + new.length ≤ tot ∧ thawed lo hi l.length new.length = true) (K (.slc id off (len + n) cap false false) (s.set id (.vals (l ++ new) tot e lo hi))))
    (.need (off + len * inf.size ≤ l.length ∧ Builtin.nextslicecap (len + n) cap * inf.bytes ≤ 2 ^ 48 ∧ ((len + n : Nat) : Int) ≤ IntKind.i64.max)
      (.choose (.appendCap (len + n) cap elem) fun c => K (.slc s.n 0 (len + n) c false false) (s.new (.vals ((l.drop off).take (len * inf.size) ++ new) (c * inf.size) elem 0 0))))

/-- append(x, y...), the bytes of y in memory that is not tracked. -/
def appendExt (s : SS) (elem : TypeId) (inf : TypeInfo) (x : SV) (A : Option Addr) (n : Nat) (K : SV → SS → T) : T :=
  if s.ext && inf.size == 1 && inf.bytes == 1 && kindOf inf.zero == some .u8 then
    .need (canBytes s.w0 s.pre A n)
    (match x with
    | .slc id off len cap ll lc => (match s.objs[id]? with
      | some (.cells cs tot e lo hi) => (match closedL cs with
        | some l => if off + len = l.length then appendVals (s.set id (.vals l tot e lo hi)) elem inf id off len n cap l tot e lo hi (valsAt s.w0 A n) K else .bad "append: behind the end"
        | none => .bad "append: cells with addresses")
      | some (.vals l tot e lo hi) => appendVals s elem inf id off len n cap l tot e lo hi (valsAt s.w0 A n) K
      | _ => .bad "append: not tracked")
    | _ => .bad "append: bytes to what")
  else .bad "append: no bytes"

/-- append into a new row. -/
def appendGrow (P : Program) (s : SS) (elem : TypeId) (inf : TypeInfo) (off len n cap : Nat) (cs new : List SV) (K : SV → SS → T) : T :=
  match takeAt off (len * inf.size) cs with
  | some old => if zeroOk P elem inf.size = false then .bad "append: zero" else .need (Builtin.nextslicecap (len + n) cap * inf.bytes ≤ 2 ^ 48) (.need (((len + n : Nat) : Int) ≤ IntKind.i64.max)
      (.choose (.appendCap (len + n) cap elem) fun c => K (.slc s.n 0 (len + n) c true false) (s.new (.cells (old ++ new) (c * inf.size) elem 0 0))))
  | none => .bad "append: the old cells are not there"

/-- append(x, y...), y of a known length. -/
def xAppend (P : Program) (argTypes : List TypeId) (x y : SV) (s : SS) (K : SV → SS → T) : T :=
  match argTypes with
  | [t, t2] => (match P.underlying t, P.underlying t2 with
    | some (.slice elem), some (.slice _) => (match P.info? elem, lenS y with
      | some inf, some (n, true) => xFirst (n * inf.size) y s fun new =>
        if new.all SV.isOne then (match x with
        | .slc id off len cap ll lc => (match s.objs[id]? with
          | some (.cells cs tot e lo hi) =>
            if ll then
              (if lc then (if len + n ≤ cap then appendIn s id off len n cap lc inf.size cs tot e lo hi new K else appendGrow P s elem inf off len n cap cs new K)
              else .split (decide (len + n ≤ cap)) (appendIn s id off len n cap lc inf.size cs tot e lo hi new K) (appendGrow P s elem inf off len n cap cs new K))
            else .bad "append: cells of unknown length"
          | some (.ints k l e lo hi) => (match new with
            | [.int k' v _] => if k = k' ∧ inf.size = 1 ∧ n = 1 then
                .split (decide (len + 1 ≤ cap))
                  (.need (off + len < l.length) (.need (thawed lo hi (off + len) 1 = true) (K (.slc id off (len + 1) cap false lc) (s.set id (.ints k (l.set (off + len) v) e lo hi)))))
                  (.need (Builtin.nextslicecap (len + 1) cap * inf.bytes ≤ 2 ^ 48) (.need (((len + 1 : Nat) : Int) ≤ IntKind.i64.max) (.need (off + len ≤ l.length)
                    (if kindOf inf.zero = some k then .choose (.appendCap (len + 1) cap elem) fun c => K (.slc s.n 0 (len + 1) c false false) (s.new (.ints k ((l.drop off).take len ++ v :: List.replicate (c - (len + 1)) 0) elem 0 0)) else .bad "append: zero"))))
              else .bad "append: kinds"
            | _ => .bad "append: several integers")
          | some (.vals l tot e lo hi) => (match closedL new with
            | some nv => if zeroOk P elem inf.size = false then .bad "append: zero" else appendVals s elem inf id off len n cap l tot e lo hi nv K
            | none => .bad "append: an address")
          | _ => .bad "append: not tracked")
        | .one (.slice none len cap) _ =>
          if len = 0 ∧ cap = 0 then
            (if n = 0 then K x s else if zeroOk P elem inf.size = false then .bad "append: zero" else
            .need (Builtin.nextslicecap n 0 * inf.bytes ≤ 2 ^ 48) (.need ((n : Int) ≤ IntKind.i64.max)
              (.choose (.appendCap n 0 elem) fun c => K (.slc s.n 0 n c true false) (s.new (.cells new (c * inf.size) elem 0 0)))))
          else .bad "append: to a strange nil"
        | _ => .bad "append: to what") else .bad "append: a cell is none"
      | some inf, _ => (match y with
        | .xs A n _ => appendExt s elem inf x A n K
        | _ => .bad "append: a length that is not known")
      | _, _ => .bad "append: a length that is not known")
    | _, _ => .bad "append: types")
  | _ => .bad "append: arguments"

/-- A known number of cells copied. -/
def copyGo (s : SS) (id off size n : Nat) (y : SV) (K : SV → SS → T) : T :=
  xFirst (n * size) y s fun new =>
    if new.all SV.isOne then (match s.objs[id]? with
    | some (.cells cs tot e lo hi) => (match putAt off new cs with
      | some cs' => if thawed lo hi off new.length then K (.int .i64 n true) (s.set id (.cells cs' tot e lo hi)) else .bad "copy: frozen"
      | none => .bad "copy: no such cells")
    | _ => .bad "copy: not tracked") else .bad "copy: a cell is none"

/-- copy(dst, src) into cells: the number of cells is known. -/
def xCopy (P : Program) (argTypes : List TypeId) (x y : SV) (s : SS) (K : SV → SS → T) : T :=
  match argTypes with
  | t :: _ => (match P.underlying t with
    | some (.slice elem) => (match P.info? elem, x, lenS y with
      | some inf, .slc id off len _ true _, some (m, lm) =>
        if lm then copyGo s id off inf.size (Nat.min m len) y K else .need (len ≤ m) (copyGo s id off inf.size len y K)
      | _, _, _ => .bad "copy: of what")
    | _ => .bad "copy: types")
  | _ => .bad "copy: arguments"

/-! ### Operators -/

/-- A tracked row of cells without a mark: no string shares it. -/
def plainObj (s : SS) (i : Nat) : Bool :=
  match s.objs[i]? with
  | some (.cells _ _ _ lo hi) => lo == 0 && hi == 0
  | some (.ints _ _ _ lo hi) => lo == 0 && hi == 0
  | _ => false

def isNilPtr (v : SV) : Bool :=
  match v with
  | .one (.pointer none) _ => true
  | _ => false

def isNilIface (v : SV) : Bool :=
  match v with
  | .one .nilIface _ => true
  | _ => false

def isNilSlice (v : SV) : Bool :=
  match v with
  | .one (.slice none _ _) _ => true
  | _ => false

/-- Equality of two values that are neither interfaces nor structs. -/
def xEqBase (P : Program) (t : TypeId) (a b : SV) (s : SS) (K : Bool → Bool → T) : T :=
  match P.underlying t with
  | some .bool => (match a, b with
    | .bool x lx, .bool y ly => K (x == y) (lx && ly)
    | _, _ => .bad "==: no bools")
  | some (.int _) => (match a, b with
    | .int k x lx, .int k' y ly => if k = k' then K (x == y) (lx && ly) else .bad "==: kinds"
    | _, _ => .bad "==: no integers")
  | some .string => (match a, b with
    | .str x lx, .str y ly => K (x == y) (lx && ly)
    | _, _ => .bad "==: no strings")
  | some (.pointer elem) =>
    if isNilPtr a then (if isNilPtr b then K true true else (match b with
      | .ptr _ _ => K false true
      | .xp _ => K false true
      | _ => .bad "==: pointer"))
    else (match a with
      | .xp _ => if isNilPtr b then K false true else .bad "==: pointers that are not tracked"
      | .ptr i o => if isNilPtr b then K false true else (match b with
        | .ptr j o' => (match P.info? elem with
          | some inf => if inf.size = 0 then .bad "==: size 0" else
            if i = j then K (o == o') true
            else if plainObj s i && plainObj s j then K false true else .bad "==: not tracked"
          | none => .bad "==: no type")
        | _ => .bad "==: pointer")
      | _ => .bad "==: pointer")
  | some (.slice _) =>
    if isNilSlice a then (if isNilSlice b then K true true else (match b with
      | .slc .. => K false true
      | .xs A _ _ => K A.isNone false
      | _ => .bad "==: slice"))
    else (match a with
      | .slc .. => if isNilSlice b then K false true else .bad "==: slices"
      | .xs A _ _ => if isNilSlice b then K A.isNone false else .bad "==: slices"
      | _ => .bad "==: slice")
  | _ => .bad "==: of what"

def xEq (P : Program) (t : TypeId) (a b : SV) (s : SS) (K : Bool → Bool → T) : T :=
  match P.underlying t with
  | some (.interface _) =>
    if isNilIface a then (if isNilIface b then K true true else (match b with
      | .ifc _ _ => K false true
      | _ => .bad "==: interface"))
    else (match a with
      | .ifc ta va => if isNilIface b then K false true else (match b with
        | .ifc tb vb => if ta = tb then (match P.info? ta with
            | some inf => if inf.comparable then xEqBase P ta va vb s K else .bad "==: not comparable"
            | none => .bad "==: no type")
          else K false true
        | _ => .bad "==: interface")
      | _ => .bad "==: interface")
  | _ => xEqBase P t a b s K

/-- Forms of values that '==' compares by 'xEq'. -/
def eqForm (v : SV) : Bool :=
  match v with
  | .bool _ _ => true
  | .ptr _ _ => true
  | .slc .. => true
  | .xp _ => true
  | .xs .. => true
  | .ifc _ _ => true
  | .one (.pointer none) _ => true
  | .one .nilIface _ => true
  | .one (.slice none _ _) _ => true
  | _ => false

def isConstOp (x : Operand) : Bool :=
  match x with
  | .const _ => true
  | _ => false

def xBin (P : Program) (op : BinOp) (t : TypeId) (x y : Operand) (a b : SV) (s : SS) (K : SV → T) : T :=
  match a, b with
  | .int k n ln, .int k' m lm =>
    (match op with
    | .shl => if lm then (if 0 ≤ m then K (.int k (k.wrap (n * 2 ^ (min m.toNat k.bits))) ln) else .bad "shift: negative") else .need (0 ≤ m) (K (.int k (k.wrap (n * 2 ^ (min m.toNat k.bits))) false))
    | .shr => if lm then (if 0 ≤ m then K (.int k (n.fdiv (2 ^ (min m.toNat k.bits))) ln) else .bad "shift: negative") else .need (0 ≤ m) (K (.int k (n.fdiv (2 ^ (min m.toNat k.bits))) false))
    | _ =>
    if k = k' then
    (match op with
    | .add => K (.int k (k.wrap (n + m)) (ln && lm))
    | .sub => K (.int k (k.wrap (n - m)) (ln && lm))
    | .mul => K (.int k (k.wrap (n * m)) (ln && lm))
    | .quo => if lm then (if m = 0 then .bad "quo: by 0" else K (.int k (k.wrap (n.tdiv m)) (ln && lm))) else .need (m ≠ 0) (K (.int k (k.wrap (n.tdiv m)) false))
    | .rem => if lm then (if m = 0 then .bad "rem: by 0" else K (.int k (n.tmod m) (ln && lm))) else .need (m ≠ 0) (K (.int k (n.tmod m) false))
    | .and => K (.int k (k.wrap (BitVec.ofInt k.bits n &&& BitVec.ofInt k.bits m).toNat) (ln && lm))
    | .or => K (.int k (k.wrap (BitVec.ofInt k.bits n ||| BitVec.ofInt k.bits m).toNat) (ln && lm))
    | .xor => K (.int k (k.wrap (BitVec.ofInt k.bits n ^^^ BitVec.ofInt k.bits m).toNat) (ln && lm))
    | .andNot => K (.int k (k.wrap (BitVec.ofInt k.bits n &&& ~~~ BitVec.ofInt k.bits m).toNat) (ln && lm))
    | .eql => K (.bool (n == m) (ln && lm))
    | .neq => K (.bool (n != m) (ln && lm))
    | .lss => K (.bool (decide (n < m)) (ln && lm))
    | .leq => K (.bool (decide (n ≤ m)) (ln && lm))
    | .gtr => K (.bool (decide (n > m)) (ln && lm))
    | .geq => K (.bool (decide (n ≥ m)) (ln && lm))
    | _ => .bad "binop: integers")
    else .bad "binop: kinds")
  | .str u lu, .str v lv =>
    (match op with
    | .eql => K (.bool (u.toList == v.toList) (lu && lv))
    | .neq => K (.bool (!(u.toList == v.toList)) (lu && lv))
    | .lss => K (.bool (Op.bytesLess u.toList v.toList) (lu && lv))
    | .add => if lu && lv then (if ((u.size + v.size : Nat) : Int) > IntKind.i64.max then .bad "add: strings" else K (.str (u ++ v) true))
        else .need (((u.size + v.size : Nat) : Int) ≤ IntKind.i64.max) (K (.str (u ++ v) false))
    | _ => .bad "binop: strings")
  | _, _ =>
    if isNilIface a && isNilIface b && !(isConstOp x || isConstOp y) then .bad "==: two nil interfaces" else
    if eqForm a && eqForm b then
    (match op with
    | .eql => xEq P t a b s fun r l => K (.bool r l)
    | .neq => xEq P t a b s fun r l => K (.bool (!r) l)
    | _ => .bad "binop: of what") else .bad "binop: of what"

def xUn (op : UnOp) (x : SV) (K : SV → T) : T :=
  match op, x with
  | .neg, .int k n l => K (.int k (k.wrap (0 - n)) l)
  | .xor, .int k n l => K (.int k (k.wrap (BitVec.ofInt k.bits (if k.signed then -1 else k.max) ^^^ BitVec.ofInt k.bits n).toNat) l)
  | .not, .bool b l => K (.bool (!b) l)
  | _, _ => .bad "unop"

/-- The bytes of integers, as a string. -/
def bytesOf (l : List Int) : ByteArray := l.foldl (fun r n => r.push (UInt8.ofNat n.toNat)) ByteArray.empty

def intsOf : List SV → Option (List Int × Bool)
  | [] => some ([], true)
  | .int .u8 n l :: r => (match intsOf r with
    | some (ns, lr) => some (n :: ns, l && lr)
    | none => none)
  | _ :: _ => none

def xConvert (P : Program) (src dst : TypeId) (x : SV) (s : SS) (K : SV → SS → T) : T :=
  match P.underlying src, P.underlying dst with
  | some ds, some (.int k) => (match x with
    | .int _ n l => K (.int k (k.wrap n) l) s
    | _ => .bad "convert: to an integer, of what")
  | some ds, some .string => (match x with
    | .str u l => K (.str u l) s
    | .slc id off len _ ll _ => (match ds with
      | .slice e => (match P.underlying e with
        | some (.int .u8) => if ll then xFirst len x s fun cs => (match intsOf cs with
            | some (ns, lit) => K (.str (bytesOf ns) lit) s
            | none => .bad "convert: no bytes")
          else (match s.objs[id]? with
            | some (.ints .u8 l _ _ _) => .need (off + len ≤ l.length) (K (.str (bytesOf ((l.drop off).take len)) false) s)
            | some (.vals l _ _ _ _) => .need (off + len ≤ l.length ∧ byteVals ((l.drop off).take len)) (K (.str (bytesOf (((l.drop off).take len).map valInt)) false) s)
            | _ => .bad "convert: not tracked")
        | _ => .bad "convert: no bytes")
      | _ => .bad "convert: no slice")
    | .xs A n _ => if s.ext then (match ds with
      | .slice e => (match P.underlying e with
        | some (.int .u8) => .need (canBytes s.w0 s.pre A n) (K (.str (bytesAt s.w0 A n) false) s)
        | _ => .bad "convert: no bytes")
      | _ => .bad "convert: no slice") else .bad "convert: not tracked"
    | .one (.slice none _ _) _ => (match ds with
      | .slice e => (match P.underlying e with
        | some (.int .u8) => K (.str ByteArray.empty true) s
        | _ => .bad "convert: no bytes")
      | _ => .bad "convert: no slice")
    | _ => .bad "convert: to a string, of what")
  | some _, some (.slice e) => (match x with
    | .str u l => (match P.underlying e with
      | some (.int .u8) => .choose (.appendCap u.size 0 e) fun c =>
          K (.slc s.n 0 u.size c l false) (s.new (if l then .cells (bytesS u.data.toList true) c e c (c + 1) else .ints .u8 (u.data.toList.map (fun b => (b.toNat : Int)) ++ List.replicate (c - u.size) 0) e c (c + 1)))
      | _ => .bad "convert: no bytes")
    | _ => .bad "convert: to a slice, of what")
  | _, _ => .bad "convert: of what"

def assertHolds (commaOk : Bool) (v : SV) (K : SV → T) : T := if commaOk then K (.tup [v, .bool true true]) else K v

def assertFails (P : Program) (asserted : TypeId) (commaOk : Bool) (K : SV → T) : T :=
  if commaOk then (match zeroS P asserted with
    | some z => K (.tup [z, .bool false true])
    | none => .bad "assert: zero") else .bad "assert: fails"

def xAssert (P : Program) (x : SV) (asserted : TypeId) (commaOk : Bool) (K : SV → T) : T :=
  match P.underlying asserted with
  | some (.interface want) => if isNilIface x then assertFails P asserted commaOk K else (match x with
    | .ifc t v => (match P.info? t with
      | some inf => (match Instr.missingMethod want inf.methods with
        | none => assertHolds commaOk (.ifc t v) K
        | some _ => assertFails P asserted commaOk K)
      | none => .bad "assert: no type")
    | _ => .bad "assert: of what")
  | some _ => if isNilIface x then assertFails P asserted commaOk K else (match x with
    | .ifc t v => if t = asserted then assertHolds commaOk v K else assertFails P asserted commaOk K
    | _ => .bad "assert: of what")
  | none => .bad "assert: no type"

/-! ### Methods -/

inductive SPlace where
  | val (v : SV)
  | var (id off : Nat)

def xGet (P : Program) (t : TypeId) (x : SPlace) (s : SS) (K : SV → T) : T :=
  match x with
  | .val v => K v
  | .var id off => xLoad P t (.ptr id off) s K

def xFollow (P : Program) : List FieldStep → TypeId → SPlace → SS → (TypeId → SPlace → T) → T
  | [], t, x, _, K => K t x
  | st :: rest, t, x, s, K => match P.underlying st.struct with
    | some (.struct fields) => (match fields[st.index]? with
      | some f => (match P.info? f.type with
        | some fi => if fi.size = 0 then .bad "method: a field of size 0" else
          if st.deref then xGet P t x s fun v => (match v with
            | .ptr id off => xFollow P rest f.type (.var id (off + f.offset)) s K
            | _ => .bad "method: no pointer")
          else (match x with
            | .var id off => xFollow P rest f.type (.var id (off + f.offset)) s K
            | .val (.agg cs) => (match partS P f.type cs f.offset with
              | some v => xFollow P rest f.type (.val v) s K
              | none => .bad "method: no part")
            | _ => .bad "method: no struct")
        | none => .bad "method: no type")
      | none => .bad "method: no field")
    | _ => .bad "method: no struct type"

def xRecv (P : Program) (xt : TypeId) (x : SPlace) (ptrRecv : Bool) (s : SS) (K : SV → T) : T :=
  match P.underlying xt with
  | some (.pointer elem) => if ptrRecv then xGet P xt x s K
    else xGet P xt x s fun p => (match p with
      | .ptr id off => xLoad P elem (.ptr id off) s K
      | .xp a => xLoad P elem (.xp a) s K
      | _ => .bad "method: nil")
  | some _ => if ptrRecv then (match x with
      | .var id off => K (.ptr id off)
      | .val _ => .bad "method: a value without an address")
    else xGet P xt x s K
  | none => .bad "method: no type"

def xMethod (P : Program) (t : TypeId) (v : SV) (name : String) (s : SS) (K : FuncId → SV → T) : T :=
  match P.info? t with
  | some i => (match i.methods.find? (·.name == name) with
    | some m => (match m.func with
      | some (f, ptrRecv) => xFollow P m.path.toList t (.val v) s fun xt x => xRecv P xt x ptrRecv s fun r => K f r
      | none => .bad "method: of an embedded interface")
    | none => .bad "method: none of this name")
  | none => .bad "method: no type"

/-- 'nilAhead' says 'some false' (a method of the type itself, or one with a pointer receiver). -/
def aheadOk (P : Program) (t : TypeId) (v : SV) (name : String) : Bool :=
  match P.info? t with
  | some i => (match i.methods.find? (·.name == name) with
    | some m => if m.path.isEmpty then (match m.func with
      | some (_, true) => true
      | some (_, false) => (match P.underlying t with
        | some (.pointer _) => (match v with
          | .ptr _ _ => true
          | _ => false)
        | some _ => true
        | none => false)
      | none => false) else false
    | none => false)
  | none => false

def xNilCheck (P : Program) (x : SV) (K : SV → T) : T :=
  match x with
  | .ptr id off => K (.ptr id off)
  | .xp a => K (.xp a)
  | .xs .. => K x
  | .fn (.method name) first cap => (match first with
    | .ifc t v :: _ => if aheadOk P t v name then K x else .bad "nilCheck: a method's receiver"
    | _ => .bad "nilCheck: of what")
  | .fn (.func _) _ _ => K x
  | .ifc _ _ => K x
  | .slc .. => K x
  | _ => .bad "nilCheck: of what"

/-! ### Code -/

/-- A call that is not walked into: what it yields, and what the tracked blocks hold then. -/
structure Hook where
  X : Type
  out : List SV → SS → X → SV × List SObj

/-- A loop that is not walked round: how it ends. -/
structure LoopHook where
  X : Type
  out : List SV → SS → X → SE × List SV × List SObj
  Y : Type
  out' : List SV → SS → Y → SE × List SV × List SObj

structure Hooks where
  calls : FuncId → Option Hook
  /-- by the function and 'codeKey' -/
  loops : FuncId → Nat → Option LoopHook

/-- A number by which a loop's body is known: its first region. -/
def codeKey : Code → Nat
  | .seq a b => if codeKey a = 0 then codeKey b else codeKey a
  | .cond _ a b => if codeKey a = 0 then codeKey b else codeKey a
  | .block _ c => codeKey c
  | .loop c => codeKey c
  | .scope c => codeKey c
  | .region id _ _ => id + 1
  | _ => 0

def ev (s : SS) (a : List SV) (x : Operand) : Option SV :=
  match x with
  | .tmp t => some (a.getD t undefS)
  | .const v => SV.ofValue v
  | .global g => (match s.gl.lookup g with
    | some id => some (.ptr id 0)
    | none => some (.one (.pointer (some ⟨g, 0, none⟩)) rfl))
  | .func f => some (.fn (.func f) [] [])

def evL (s : SS) (a : List SV) : List Operand → Option (List SV)
  | [] => some []
  | x :: xs => match ev s a x, evL s a xs with
    | some v, some vs => some (v :: vs)
    | _, _ => none

def evP (s : SS) (a : List SV) : List (Nat × Operand) → Option (List (Nat × SV))
  | [] => some []
  | (i, x) :: xs => match ev s a x, evP s a xs with
    | some v, some vs => some ((i, v) :: vs)
    | _, _ => none

def evO (s : SS) (a : List SV) : Option Operand → Option (Option SV)
  | none => some none
  | some x => (ev s a x).map some

def putS (a : List SV) (dst : Option Nat) (v : SV) : List SV :=
  match dst with
  | some d => a.set d v
  | none => a

abbrev XCall := FuncId → List SV → SS → (SV → SS → T) → T

def with1 (s : SS) (a : List SV) (x : Operand) (K : SV → T) : T :=
  match ev s a x with
  | some v => K v
  | none => .bad "a constant that is not taken"

def with2 (s : SS) (a : List SV) (x y : Operand) (K : SV → SV → T) : T :=
  with1 s a x fun u => with1 s a y fun v => K u v

/-- A call of this function walks into its body. -/
def entersOk (P : Program) (f : FuncId) : Bool :=
  match P.funcs[f]? with
  | some fn => fn.name != "runtime.NumGoroutine" && fn.body.isSome
  | none => false

def xTarget (P : Program) (call : XCall) (f : Fn) (args : List SV) (cap : List SV) (s : SS) (K : SV → SS → T) : T :=
  match f with
  | .func g => if entersOk P g then call g (args ++ cap) s K else .bad "call: a function without a body"
  | .method name => (match args with
    | .ifc t v :: rest => xMethod P t v name s fun g r => if entersOk P g then call g (r :: rest) s K else .bad "call: a method without a body"
    | _ => .bad "invoke: no interface value")
  | _ => .bad "call: of what"

def xBuiltin (P : Program) (b : Builtin) (argTypes : List TypeId) (args : List SV) (s : SS) (K : SV → SS → T) : T :=
  match b with
  | .len => (match argTypes, args with
    | t :: _, x :: _ => xLen P t x fun v => K v s
    | _, _ => .bad "len")
  | .cap => (match argTypes, args with
    | t :: _, x :: _ => xCap P t x fun v => K v s
    | _, _ => .bad "cap")
  | .append => (match args with
    | [x, y] => xAppend P argTypes x y s K
    | _ => .bad "append")
  | .copy => (match args with
    | x :: y :: _ => xCopy P argTypes x y s K
    | _ => .bad "copy")
  | _ => .bad "a builtin that is not taken"

def xOp (P : Program) (call : XCall) (o : Oper) (a : List SV) (s : SS) (K : SV → SS → T) : T :=
  match o.op with
  | .move x => with1 s a x fun v => K v s
  | .assign x => with1 s a x fun v => K v s
  | .pick c x y => with1 s a c fun b => with2 s a x y fun u v => (match b with
    | .bool t lit => if lit then (if t then K u s else K v s) else .split t (K u s) (K v s)
    | _ => .bad "pick")
  | .alloc e => xAlloc P e s K
  | .box e x => with1 s a x fun v => xNew s v.cells e K
  | .build t parts => (match evP s a parts.toList with
    | some ps => xBuild P t ps fun v => K v s
    | none => .bad "build: a constant")
  | .buildSlice t len parts => (match evP s a parts.toList with
    | some ps => xBuildSlice P t len ps s K
    | none => .bad "buildSlice: a constant")
  | .load t x => with1 s a x fun v => xLoad P t v s fun r => K r s
  | .store t x y => with2 s a x y fun u v => xStore P t u v s fun s' => K undefS s'
  | .nilCheck x => with1 s a x fun v => xNilCheck P v fun r => K r s
  | .binOp op t x y _ => with2 s a x y fun u v => xBin P op t x y u v s fun r => K r s
  | .unOp op _ x => with1 s a x fun v => xUn op v fun r => K r s
  | .convert src dst x => with1 s a x fun v => xConvert P src dst v s K
  | .makeInterface t x => with1 s a x fun v => (match P.underlying t with
    | some (.interface _) => .bad "makeInterface"
    | some _ => K (.ifc t v) s
    | none => .bad "makeInterface")
  | .makeFunc f first cap => (match evL s a first.toList, evL s a cap.toList with
    | some u, some v => K (.fn f u v) s
    | _, _ => .bad "makeFunc: a constant")
  | .makeSlice t l c => with2 s a l c fun u v => xMakeSlice P t u v s K
  | .slice t x lo hi mx => with1 s a x fun v => (match evO s a lo, evO s a hi, evO s a mx with
    | some l, some h, some m => xSlice P t v l h m fun r => K r s
    | _, _, _ => .bad "slice: a constant")
  | .fieldAddr t x f => with1 s a x fun v => xFieldAddr P t v f fun r => K r s
  | .field t x f => with1 s a x fun v => xField P t v f fun r => K r s
  | .indexAddr t x i => with2 s a x i fun u v => xIndexAddr P t u v fun r => K r s
  | .index t x i => with2 s a x i fun u v => xIndex P t u v fun r => K r s
  | .typeAssert x _ asserted ok => with1 s a x fun v => xAssert P v asserted ok fun r => K r s
  | .extract x i => with1 s a x fun v => (match v with
    | .tup vs => (match vs[i]? with
      | some r => K r s
      | none => .bad "extract")
    | _ => .bad "extract")
  | .call c => (match evL s a c.args.toList with
    | some args => (match c.callee with
      | .builtin b => xBuiltin P b c.argTypes.toList args s K
      | .invoke r m => with1 s a r fun v => xTarget P call (.method m) (v :: args) [] s K
      | .value f => with1 s a f fun v => (match v with
        | .fn g first cap => xTarget P call g (first ++ args) cap s K
        | _ => .bad "call: no function"))
    | none => .bad "call: a constant")
  | _ => .bad o.pos

/-- Is an operation carried out? 'none': not known. -/
def wantedS (ops : Array Oper) (a : List SV) (o : Oper) : Option (Bool × Bool) :=
  match o.guard with
  | none => some (true, true)
  | some (j, want) => (match (ops[j]?).bind (·.dst) with
    | none => some (false, true)
    | some d => (match a[d]? with
      | some (.bool b lit) => some (b == want, lit)
      | some (.tup _) => some (false, true)
      | _ => none))

/-- The same; 'ask': it hangs on slot d, which holds b. -/
inductive Want where
  | none
  | sure (w : Bool)
  | ask (d : Nat) (b want : Bool)

def wantS (ops : Array Oper) (a : List SV) (o : Oper) : Want :=
  match o.guard with
  | none => .sure true
  | some (j, want) => (match (ops[j]?).bind (·.dst) with
    | none => .sure false
    | some d => (match a[d]? with
      | some (.bool b lit) => if lit then .sure (b == want) else .ask d b want
      | some (.tup _) => .sure false
      | _ => .none))

/-- A slot that is known now. -/
def know (a : List SV) (d : Nat) (b : Bool) : List SV := a.set d (.bool b true)

/-- One way or both. -/
def byWant (w : Want) (a : List SV) (yes no : List SV → T) : T :=
  match w with
  | .none => .bad "a guard"
  | .sure true => yes a
  | .sure false => no a
  | .ask d b want => if want then .split b (yes (know a d true)) (no (know a d false)) else .split b (no (know a d true)) (yes (know a d false))

def xList (P : Program) (call : XCall) (ops : Array Oper) : List Oper → List SV → (List SV → SS → T) → SS → T
  | [], a, K, s => K a s
  | o :: rest, a, K, s => byWant (wantS ops a o) a
      (fun a => xOp P call o a s fun v s' => xList P call ops rest (putS a o.dst v) K s')
      (fun a => xList P call ops rest (putS a o.dst undefS) K s)

/-- The value of an operation that neither reads nor writes memory. -/
def pureVal (P : Program) (s : SS) (a : List SV) (o : Oper) : Option SV :=
  match o.op with
  | .move x => ev s a x
  | .assign x => ev s a x
  | .nilCheck x => (match ev s a x with
    | some (.ptr id off) => some (.ptr id off)
    | _ => none)
  | .fieldAddr t x f => (match ev s a x with
    | some (.ptr id off) => (match P.underlying t with
      | some (.struct fields) => (match fields[f]? with
        | some fd => (match P.info? fd.type with
          | some i => if i.size = 0 then none else some (.ptr id (off + fd.offset))
          | none => none)
        | none => none)
      | _ => none)
    | _ => none)
  | .extract x i => (match ev s a x with
    | some (.tup vs) => vs[i]?
    | _ => none)
  | .makeInterface t x => (match ev s a x, P.underlying t with
    | some _, some (.interface _) => none
    | some v, some _ => some (.ifc t v)
    | _, _ => none)
  | _ => none

/-- Operations that leave memory as it is. -/
def quietOp (o : Oper) : Bool :=
  match o.op with
  | .move _ | .assign _ | .load .. | .nilCheck _ | .binOp .. | .unOp .. | .makeInterface .. | .makeFunc .. | .slice .. | .fieldAddr .. | .field .. | .indexAddr .. | .index ..
  | .typeAssert .. | .extract .. | .build .. => true
  | .call c => (match c.callee with
    | .builtin .len => true
    | .builtin .cap => true
    | _ => false)
  | _ => false


/-- The value of a quiet operation, where nothing is asked and nothing parts. -/
def quietVal (P : Program) (s : SS) (a : List SV) (o : Oper) : Option SV :=
  if quietOp o then
    (match xOp P (fun _ _ _ _ => .bad "") o a s (fun v s' => .leaf .normal [v] s') with
    | .leaf .normal [v] _ => if SV.okb s.n v then some v else none
    | _ => none)
  else none

/-- A region whose operations only read, in the order of the text. -/
def xQuiet (P : Program) (s : SS) (ops : Array Oper) : List Oper → List SV → Option (List SV)
  | [], a => some a
  | o :: rest, a => match wantedS ops a o with
    | some (w, true) => if w then (match quietVal P s a o with
        | some v => xQuiet P s ops rest (putS a o.dst v)
        | none => none)
      else xQuiet P s ops rest (putS a o.dst undefS)
    | _ => none

/-- Every order that the edges allow. -/
def xAny (P : Program) (call : XCall) (ops : Array Oper) : Nat → List Bool → List SV → (List SV → SS → T) → SS → T
  | 0, listed, a, K, s => (match Region.ready .any ops listed.toArray with
    | [] => K a s
    | _ :: _ => .bad "region")
  | n + 1, listed, a, K, s =>
    let one (i : Nat) : T := (match ops[i]? with
      | none => .bad "region"
      | some o => byWant (wantS ops a o) a
          (fun a => xOp P call o a s fun v s' => xAny P call ops n (listed.set i true) (putS a o.dst v) K s')
          (fun a => xAny P call ops n (listed.set i true) (putS a o.dst undefS) K s))
    match Region.ready .any ops listed.toArray with
    | [] => K a s
    | r :: more =>
      match (r :: more).findSome? (fun i => (match ops[i]? with
        | some o => if o.guard.isNone && Region.free .any ops listed.toArray i then (pureVal P s a o).map fun v => (i, o.dst, v) else none
        | none => none)) with
      | some (i, dst, v) => xAny P call ops n (listed.set i true) (putS a dst v) K s
      | none => more.foldr (fun i t => .both (one i) t) (one r)

/-! ### Regions whose order does not matter -/

/-- Operations that leave the world as it is. -/
def calmOp (P : Program) (o : Oper) : Bool :=
  quietOp o || (match o.op with
    | .convert _ dst _ => (match P.underlying dst with
      | some (.int _) => true
      | some .string => true
      | _ => false)
    | _ => false)

/-- A tree that asks and then yields one value. -/
def askedVal : T → Option (SV × List Prop)
  | .leaf _ [v] _ => some (v, [])
  | .need p t => (match askedVal t with
    | some (v, ps) => some (v, p :: ps)
    | none => none)
  | _ => none

/-- The value of a calm operation, and what is asked for it. -/
def calmVal (P : Program) (s : SS) (a : List SV) (o : Oper) : Option (SV × List Prop) :=
  if calmOp P o then
    (match askedVal (xOp P (fun _ _ _ _ => .bad "") o a s (fun v s' => .leaf .normal [v] s')) with
    | some (v, ps) => if SV.okb s.n v then some (v, ps) else none
    | none => none)
  else none

/-- Memory of which nothing is known but the number of blocks. -/
def SS.blank (s : SS) : SS := { s with objs := s.objs.map fun _ => .unk, ext := false }

def needs : List Prop → T → T
  | [], t => t
  | p :: ps, t => .need p (needs ps t)

def edgesOf (o : Oper) : List Nat := (o.after.toList.filter fun e => Region.binds .any e).map (·.on)

/-- What i writes is written by no other and looked at by those alone that wait for i. -/
def neatPair (ops : Array Oper) (i : Nat) (oi : Oper) (j : Nat) (oj : Oper) : Bool :=
  match oi.dst with
  | none => true
  | some d => (i == j || oj.dst != some d) && (!(oj.looksAt ops).contains d || (i != j && (edgesOf oj).contains i))

def neat (ops : Array Oper) : Bool :=
  (List.range ops.size).all fun i => match ops[i]? with
    | none => true
    | some oi => (edgesOf oi).all (fun e => decide (e < i)) && (List.range ops.size).all fun j => match ops[j]? with
      | none => true
      | some oj => neatPair ops i oi j oj

/-- All that must be done ahead of an operation. -/
def closeUp (ops : Array Oper) : Nat → List Nat → List Nat
  | 0, m => m
  | i + 1, m => if m.contains i then closeUp ops i (m ++ (match ops[i]? with
      | some o => edgesOf o
      | none => [])) else closeUp ops i m

def behind (ops : Array Oper) (j : Nat) (oj : Oper) : List Nat := closeUp ops j (edgesOf oj)

mutual
/-- What must hold for two symbolic values to mean the same; 'none': not known. -/
def sameV : SV → SV → Option (List Prop)
  | .int k n l, .int k' n' l' => if k = k' then (if l && l' then (if n = n' then some [] else none) else some [n = n']) else none
  | .bool b l, .bool b' l' => if l && l' then (if b = b' then some [] else none) else some [b = b']
  | .str u l, .str u' l' => if l && l' then (if u.data.toList = u'.data.toList then some [] else none) else some [u = u']
  | .ptr i o, .ptr i' o' => if i = i' then some [o = o'] else none
  | .slc i o n c _ _, .slc i' o' n' c' _ _ => if i = i' then some [o = o' ∧ n = n' ∧ c = c'] else none
  | .ifc t v, .ifc t' v' => if t = t' then sameV v v' else none
  | .agg l, .agg l' => sameL l l'
  | .tup l, .tup l' => sameL l l'
  | .one v _, .one v' _ => some [v = v']
  | .raw v, .raw v' => some [v = v']
  | .xp a, .xp a' => some [a = a']
  | .xs a n c, .xs a' n' c' => some [a = a' ∧ n = n' ∧ c = c']
  | .fn f a c, .fn f' a' c' => (match sameL a a', sameL c c' with
    | some p, some q => some ((f = f') :: (p ++ q))
    | _, _ => none)
  | _, _ => none
def sameL : List SV → List SV → Option (List Prop)
  | [], [] => some []
  | v :: l, v' :: l' => (match sameV v v', sameL l l' with
    | some p, some q => some (p ++ q)
    | _, _ => none)
  | _, _ => none
end

/-- The value of an operation that may be done now; 'true': whatever the memory. -/
def takeVal (P : Program) (s : SS) (a : List SV) (o : Oper) : Option (SV × List Prop × Bool) :=
  match calmVal P s.blank a o with
  | some (v, ps) => some (v, ps, true)
  | none => (match calmVal P s a o with
    | some (v, ps) => some (v, ps, false)
    | none => none)

def takeOf (P : Program) (ops : Array Oper) (a : List SV) (s : SS) (i : Nat) : Option (Option Nat × SV × List Prop × Bool) :=
  match ops[i]? with
  | none => none
  | some o => (match wantedS ops a o with
    | some (w, true) => if w then (match takeVal P s a o with
        | some (v, ps, st) => some (o.dst, v, ps, st)
        | none => none)
      else some (o.dst, undefS, [], true)
    | _ => none)

/-- What was read early is read again, and is the same. -/
def recheck (P : Program) (ops : Array Oper) (a : List SV) (s : SS) : List Nat → T → T
  | [], t => t
  | k :: ks, t => match ops[k]? with
    | none => .bad "region"
    | some o => (match wantedS ops a o, calmVal P s a o with
      | some (true, true), some (v, ps) => (match o.dst with
        | none => needs ps (recheck P ops a s ks t)
        | some d => (match a[d]? with
          | none => needs ps (recheck P ops a s ks t)
          | some u => (match sameV v u with
            | some qs => needs ps (needs qs (recheck P ops a s ks t))
            | none => .bad "region: what was read has changed")))
      | _, _ => .bad "region: an order")

/-- Every order that the edges allow, where what only reads is done as early as may be. -/
def xMix (P : Program) (call : XCall) (ops : Array Oper) : Nat → List Bool → List SV → List Nat → (List SV → SS → T) → SS → T
  | 0, listed, a, pend, K, s => (match Region.ready .any ops listed.toArray with
    | [] => K a s
    | _ :: _ => .bad "region")
  | n + 1, listed, a, pend, K, s =>
    match Region.ready .any ops listed.toArray with
    | [] => K a s
    | r :: more =>
      match (r :: more).findSome? (fun i => (match takeOf P ops a s i with
        | some (dst, v, ps, st) => some (i, dst, v, ps, st)
        | none => none)) with
      | some (i, dst, v, ps, st) => needs ps (xMix P call ops n (listed.set i true) (putS a dst v) (if st then pend else i :: pend) K s)
      | none =>
        let one (i : Nat) : T := (match ops[i]? with
          | none => .bad "region"
          | some o => byWant (wantS ops a o) a
              (fun a => xOp P call o a s fun v s' => recheck P ops (putS a o.dst v) s' (pend.filter fun k => !(behind ops i o).contains k)
                (xMix P call ops n (listed.set i true) (putS a o.dst v) (pend.filter fun k => !(behind ops i o).contains k) K s'))
              (fun a => xMix P call ops n (listed.set i true) (putS a o.dst undefS) pend K s))
        more.foldr (fun i t => .both (one i) t) (one r)

def xDraw (P : Program) (call : XCall) (ops : Array Oper) (a : List SV) (K : List SV → SS → T) (s : SS) : T :=
  if neat ops then xMix P call ops ops.size (List.replicate ops.size false) a [] K s
  else xAny P call ops ops.size (List.replicate ops.size false) a K s

def xResults (P : Program) (a : List SV) (s : SS) : List ResultVar → (List SV → T) → T
  | [], K => K []
  | .tmp t :: rest, K => xResults P a s rest fun vs => K (a.getD t undefS :: vs)
  | .cell t ty :: rest, K => (match a.getD t undefS with
    | .ptr id off => xLoad P ty (.ptr id off) s fun v => xResults P a s rest fun vs => K (v :: vs)
    | _ => .bad "a result's cell")

def packS (vs : List SV) : SV :=
  match vs with
  | [v] => v
  | _ => .tup vs

def xCode (P : Program) (hk : Hooks) : Nat → FuncId → Code → List SV → (SE → List SV → SS → T) → SS → T
  | 0, _, _, _, _, _ => .bad "out of fuel"
  | n + 1, f₀, c, a, K, s =>
    let call : XCall := fun f args s' k => match hk.calls f with
      | some h => .call f args s' h.X (h.out args s') (fun x w' bs => k (h.out args s' x).1 (reS s' (h.out args s' x).2 w' bs))
      | none => (match P.funcs[f]? with
      | some fn => (match fn.body with
        | some body => xCode P hk n f body (args ++ List.replicate (fn.ntmps - args.length) undefS) (fun e a' s'' => (match e with
          | .normal => xResults P a' s'' fn.results.toList fun vs => k (packS vs) s''
          | .ret => xResults P a' s'' fn.results.toList fun vs => k (packS vs) s''
          | _ => .bad "a body's end")) s'
        | none => .bad "a function without a body")
      | none => .bad "no such function")
    match c with
    | .skip => K .normal a s
    | .label _ => K .normal a s
    | .seq x y => xCode P hk n f₀ x a (fun e a' s' => (match e with
      | .normal => xCode P hk n f₀ y a' K s'
      | e => K e a' s')) s
    | .cond x t f => (match ev s a x with
      | some (.bool b lit) => if lit then (if b then xCode P hk n f₀ t a K s else xCode P hk n f₀ f a K s) else (match x with
        | .tmp d => .split b (xCode P hk n f₀ t (know a d true) K s) (xCode P hk n f₀ f (know a d false) K s)
        | _ => .split b (xCode P hk n f₀ t a K s) (xCode P hk n f₀ f a K s))
      | _ => .bad "cond")
    | .block id c => xCode P hk n f₀ c a (fun e a' s' => (match e with
      | .exit i => if i = id then K .normal a' s' else K (.exit i) a' s'
      | e => K e a' s')) s
    | .loop body => (match hk.loops f₀ (codeKey body) with
      | some h => .loop f₀ body a s h.X (h.out a s) (fun x w' bs => K (h.out a s x).1 (h.out a s x).2.1 (reS s (h.out a s x).2.2 w' bs))
          h.Y (h.out' a s) (fun x w' bs => K (h.out' a s x).1 (h.out' a s x).2.1 (reS s (h.out' a s x).2.2 w' bs))
      | none => xCode P hk n f₀ body a (fun e a' s' => (match e with
        | .normal => xCode P hk n f₀ (.loop body) a' K s'
        | e => K e a' s')) s)
    | .exit id => K (.exit id) a s
    | .ret => K .ret a s
    | .region _ ops draw => if draw then (if Region.noSelect ops && P.follows .mixedOrders then xDraw P call ops a (fun a' s' => K .normal a' s') s else .bad "region: select")
        else xList P call ops ops.toList a (fun a' s' => K .normal a' s') s
    | _ => .bad "a form of code that is not taken"

/-- A whole call. -/
def xFunc (P : Program) (hk : Hooks) (n : Nat) (f : FuncId) (args : List SV) (s : SS) : T :=
  match P.funcs[f]? with
  | some fn => (match fn.body with
    | some body => xCode P hk n f body (args ++ List.replicate (fn.ntmps - args.length) undefS) (fun e a' s' => (match e with
      | .normal => xResults P a' s' fn.results.toList fun vs => .leaf .ret [packS vs] s'
      | .ret => xResults P a' s' fn.results.toList fun vs => .leaf .ret [packS vs] s'
      | _ => .bad "a body's end")) s
    | none => .bad "a function without a body")
  | none => .bad "no such function"

end Go.Rx

