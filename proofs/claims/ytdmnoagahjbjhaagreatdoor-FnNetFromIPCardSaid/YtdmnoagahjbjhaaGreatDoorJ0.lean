/- Joined texts: The symbolic executor: symbolic values, symbolic memory, the tree of ways, and the executor itself. Plain definitions; nothing is proved here; What the symbolic values and the tracked memory mean, and the laws on them; Tracked memory: what a symbolic state says of a world; loads, stores and new blocks keep it; The tree of ways holds; the operations' laws; The operations' laws: literals, fields, indexing, slicing, len, cap, operators. -/
import Derived.WalkKit
import Derived.Orders
import Derived.Deep.Quiet
section
/- The symbolic executor: symbolic values, symbolic memory, the tree of ways, and the executor itself. Plain definitions; nothing is proved here. -/
set_option linter.unusedVariables false
set_option linter.unusedSimpArgs false
namespace Go.Rx

/-- A symbolic value: numbers and texts are Lean terms ('lit': may be computed with), addresses are an identity of a tracked block and an offset. -/
inductive SV where
  | one (v : Value) (h : v.oneCell' = true)
  | int (k : IntKind) (n : Int) (lit : Bool)
  | bool (b : Bool) (lit : Bool)
  | str (s : ByteArray) (lit : Bool)
  | ptr (id off : Nat)
  | slc (id off len cap : Nat) (ll lc : Bool)
  | ifc (t : TypeId) (v : SV)
  | agg (cs : List SV)
  | tup (cs : List SV)
  | fn (f : Fn) (first captured : List SV)
  /-- A value of which nothing is known. -/
  | raw (v : Value)
  /-- An address in memory that is not tracked. -/
  | xp (a : Addr)
  /-- A slice over memory that is not tracked. -/
  | xs (a : Option Addr) (len cap : Nat)

instance : Inhabited SV := ⟨.tup []⟩

/-- What a tracked block holds. -/
inductive SObj where
  /-- The first cells are 'cs', there are 'total' in all; what the others hold is not known. -/
  | cells (cs : List SV) (total : Nat) (elem : TypeId) (lo hi : Nat)
  | ints (k : IntKind) (l : List Int) (elem : TypeId) (lo hi : Nat)
  | other (o : Obj)
  | unk
  /-- The first cells are the values 'l', there are 'total' in all. -/
  | vals (l : List Value) (total : Nat) (elem : TypeId) (lo hi : Nat)

/-- 'w0': what is not tracked is as it was in that world; 'pre': the first tracked blocks, which were there already; 'ext': both may be used. -/
structure SS where
  objs : List SObj
  gl : List (Nat × Nat)
  ext : Bool
  w0 : World
  pre : List Nat

/-- What a piece of code ends in. -/
inductive SE where
  | normal
  | exit (id : Nat)
  | goto (l : Nat)
  | ret

/-- The tree of ways. -/
inductive T where
  | leaf (e : SE) (vs : List SV) (s : SS)
  | bad (why : String)
  | need (p : Prop) (t : T)
  | split (b : Bool) (t f : T)
  | choose (q : Question) (k : Nat → T)
  | both (a b : T)
  | call (f : FuncId) (args : List SV) (s : SS) (X : Type) (out : X → SV × List SObj) (k : X → World → List Nat → T)
  | loop (f : FuncId) (body : Code) (tmps : List SV) (s : SS) (X : Type) (out : X → SE × List SV × List SObj) (k : X → World → List Nat → T) (Y : Type) (out' : Y → SE × List SV × List SObj) (k' : Y → World → List Nat → T)

/-- The tracked memory behind something that may have turned all else. -/
def reS (s : SS) (objs : List SObj) (w' : World) (bs : List Nat) : SS := { s with objs := objs, w0 := w', pre := bs }

/-- Nothing is tracked. -/
def SS.at (w : World) : SS := ⟨[], [], true, w, []⟩

mutual
def SV.den (β : Nat → Nat) : SV → Value
  | .one v _ => v
  | .int k n _ => .int k n
  | .bool b _ => .bool b
  | .str s _ => .string s
  | .ptr i o => .pointer (some ⟨β i, o, none⟩)
  | .slc i o n c _ _ => .slice (some ⟨β i, o, none⟩) n c
  | .ifc t v => .iface t (SV.den β v)
  | .agg cs => .agg (denL β cs).toArray
  | .tup cs => .tuple (denL β cs).toArray
  | .fn f a c => .func f (denL β a).toArray (denL β c).toArray
  | .raw v => v
  | .xp a => .pointer (some a)
  | .xs a n c => .slice a n c
def denL (β : Nat → Nat) : List SV → List Value
  | [] => []
  | v :: vs => SV.den β v :: denL β vs
end

def SV.cell (v : Value) : SV :=
  match v with
  | .int k n => .int k n true
  | .bool b => .bool b true
  | .string s => .str s true
  | .agg _ => .tup []
  | .tuple _ => .tup []
  | .float k b => .one (.float k b) rfl
  | .complex k a b => .one (.complex k a b) rfl
  | .pointer a => .one (.pointer a) rfl
  | .slice a n c => .one (.slice a n c) rfl
  | .map r => .one (.map r) rfl
  | .chan r => .one (.chan r) rfl
  | .func f a c => .one (.func f a c) rfl
  | .nilFunc => .one .nilFunc rfl
  | .iface t v => .one (.iface t v) rfl
  | .nilIface => .one .nilIface rfl

def SV.cellOf (v : Value) : SV :=
  match v with
  | .iface t x => (match x with
    | .agg _ => .one (.iface t x) rfl
    | .tuple _ => .one (.iface t x) rfl
    | _ => .ifc t (SV.cell x))
  | _ => SV.cell v

/-- A constant of the program. 'none': a form that is not taken. -/
def SV.ofValue (v : Value) : Option SV :=
  match v with
  | .agg cs => if cs.toList.all Value.oneCell' then some (.agg (cs.toList.map SV.cellOf)) else none
  | .tuple cs => if cs.toList.isEmpty then some (.tup []) else none
  | _ => some (SV.cellOf v)

def SV.cells : SV → List SV
  | .agg cs => cs
  | .raw v => v.cells.toList.map .raw
  | v => [v]

def SV.isOne : SV → Bool
  | .agg _ => false
  | .tup _ => false
  | .raw _ => false
  | _ => true

def undefS : SV := .tup []

/-! ### Lists -/

def takeN : Nat → List SV → Option (List SV)
  | 0, _ => some []
  | _ + 1, [] => none
  | n + 1, x :: xs => match takeN n xs with
    | some l => some (x :: l)
    | none => none

def takeAt : Nat → Nat → List SV → Option (List SV)
  | 0, n, l => takeN n l
  | _ + 1, _, [] => none
  | o + 1, n, _ :: l => takeAt o n l

/-- Several cells written from an offset on; every one must be there. -/
def putAt : Nat → List SV → List SV → Option (List SV)
  | 0, [], l => some l
  | 0, _ :: _, [] => none
  | 0, v :: vs, _ :: l => match putAt 0 vs l with
    | some r => some (v :: r)
    | none => none
  | _ + 1, _, [] => none
  | o + 1, vs, x :: l => match putAt o vs l with
    | some r => some (x :: r)
    | none => none

def SS.set (s : SS) (i : Nat) (o : SObj) : SS := { s with objs := s.objs.set i o }
def SS.new (s : SS) (o : SObj) : SS := { s with objs := s.objs ++ [o] }
def SS.n (s : SS) : Nat := s.objs.length

/-! ### Types -/

/-- none: no such type · some none: one cell · some (some n): n cells, a struct or an array. -/
def aggSize (P : Program) (t : TypeId) : Option (Option Nat) :=
  match P.underlying t with
  | none => none
  | some (.struct _) => (P.info? t).map fun i => some i.size
  | some (.array _ _) => (P.info? t).map fun i => some i.size
  | some _ => some none

def zeroS (P : Program) (t : TypeId) : Option SV :=
  match P.info? t with
  | some i => match i.zero with
    | some z => SV.ofValue z
    | none => none
  | none => none

/-! ### Memory -/

def intAt (w : World) (a : Addr) : Int :=
  match w.cell? a with
  | some (.int _ n) => n
  | _ => 0

def boolAt (w : World) (a : Addr) : Bool :=
  match w.cell? a with
  | some (.bool b) => b
  | _ => false

def strAt (w : World) (a : Addr) : ByteArray :=
  match w.cell? a with
  | some (.string s) => s
  | _ => ByteArray.empty

def ptrAt (w : World) (a : Addr) : Addr :=
  match w.cell? a with
  | some (.pointer (some b)) => b
  | _ => default

def slA (w : World) (a : Addr) : Option Addr :=
  match w.cell? a with
  | some (.slice b _ _) => b
  | _ => none

def slN (w : World) (a : Addr) : Nat :=
  match w.cell? a with
  | some (.slice _ n _) => n
  | _ => 0

def slC (w : World) (a : Addr) : Nat :=
  match w.cell? a with
  | some (.slice _ _ c) => c
  | _ => 0

def oneAt (w : World) (a : Addr) : { v : Value // v.oneCell' = true } :=
  match w.cell? a with
  | some v => if h : v.oneCell' = true then ⟨v, h⟩ else ⟨.nilIface, rfl⟩
  | none => ⟨.nilIface, rfl⟩

/-- What a cell of a type holds, memory that is not tracked. -/
def extOne (P : Program) (t : TypeId) (w : World) (a : Addr) : Option SV :=
  match P.underlying t with
  | none => none
  | some (.int k) => some (.int k (intAt w a) false)
  | some .bool => some (.bool (boolAt w a) false)
  | some .string => some (.str (strAt w a) false)
  | some (.slice _) => some (.xs (slA w a) (slN w a) (slC w a))
  | some (.pointer _) => some (.xp (ptrAt w a))
  | some (.struct _) => none
  | some (.array _ _) => none
  | some _ => some (.one (oneAt w a).1 (oneAt w a).2)

mutual
/-- The types of a type's cells. -/
def leaves (P : Program) : Nat → TypeId → Option (List TypeId)
  | 0, _ => none
  | n + 1, t => match P.underlying t with
    | none => none
    | some (.struct fields) => leavesL P n fields.toList
    | some (.array _ _) => none
    | some _ => some [t]
def leavesL (P : Program) : Nat → List Field → Option (List TypeId)
  | 0, _ => none
  | _ + 1, [] => some []
  | n + 1, f :: fs => match leaves P n f.type, leavesL P n fs with
    | some a, some b => some (a ++ b)
    | _, _ => none
end

def extCells (P : Program) (w : World) (a : Addr) : List TypeId → Nat → Option (List SV)
  | [], _ => some []
  | t :: ts, j => match extOne P t w (a.add j), extCells P w a ts (j + 1) with
    | some v, some vs => some (v :: vs)
    | _, _ => none

/-- The cells of memory that is not tracked hold these values. -/
def canRead (w : World) (pre : List Nat) (a : Addr) (vs : List SV) : Prop :=
  a.block < w.heap.size ∧ a.block ∉ pre ∧ ∀ (j : Nat) (v : SV), vs[j]? = some v → w.cell? (a.add j) = some (v.den id)

/-- The cells of memory that is not tracked hold bytes. -/
def canBytes (w : World) (pre : List Nat) (A : Option Addr) (n : Nat) : Prop :=
  n = 0 ∨ ∃ a, A = some a ∧ a.block < w.heap.size ∧ a.block ∉ pre ∧ ∀ i, i < n → ∃ b : UInt8, w.cell? (a.add i) = some (.int .u8 (b.toNat : Int))

def bytesAt (w : World) (A : Option Addr) (n : Nat) : ByteArray :=
  ⟨((List.range n).map fun i => UInt8.ofNat (intAt w ((A.getD default).add i)).toNat).toArray⟩

def valsAt (w : World) (A : Option Addr) (n : Nat) : List Value :=
  (List.range n).map fun i => .int .u8 (intAt w ((A.getD default).add i))

/-- 'off + j' of bytes. -/
def byteVals (l : List Value) : Prop := ∀ v ∈ l, ∃ b : UInt8, v = .int .u8 (b.toNat : Int)

def valInt (v : Value) : Int :=
  match v with
  | .int _ n => n
  | _ => 0

def xExt (P : Program) (t : TypeId) (a : Addr) (s : SS) (K : SV → T) : T :=
  if s.ext then
    (match leaves P 12 t with
    | none => .bad "load: types of cells"
    | some ts => (match extCells P s.w0 a ts 0 with
      | none => .bad "load: cells"
      | some vs => .need (canRead s.w0 s.pre a vs) (match aggSize P t with
        | none => .bad "load: no such type"
        | some none => (match vs with
          | [v] => K v
          | _ => .bad "load: one cell")
        | some (some n) => if vs.length = n then K (.agg vs) else .bad "load: another size")))
  else .bad "load: not tracked"

def xCell (s : SS) (id off : Nat) (K : SV → T) : T :=
  match s.objs[id]? with
  | some (.cells cs _ _ _ _) => match cs[off]? with
    | some v => K v
    | none => .bad "load: no such cell"
  | some (.ints k l _ _ _) => .need (off < l.length) (K (.int k (l.getD off 0) false))
  | _ => .bad "load: not tracked"

def xLoad (P : Program) (t : TypeId) (a : SV) (s : SS) (K : SV → T) : T :=
  match a with
  | .ptr id off => match aggSize P t with
    | none => .bad "load: no such type"
    | some none => xCell s id off K
    | some (some n) => match s.objs[id]? with
      | some (.cells cs _ _ _ _) => match takeAt off n cs with
        | some l => K (.agg l)
        | none => .bad "load: no such cells"
      | _ => .bad "load: cells not tracked"
  | .xp a => xExt P t a s K
  | _ => .bad "load: no address"

/-- 'lo ≤ off + j < hi' for no j < n: nothing that is written is frozen. -/
def thawed (lo hi off n : Nat) : Bool := decide (hi ≤ off ∨ off + n ≤ lo ∨ hi ≤ lo)

def xStore (P : Program) (t : TypeId) (a v : SV) (s : SS) (K : SS → T) : T :=
  match a with
  | .ptr id off => match P.info? t with
    | none => .bad "store: no such type"
    | some i => if v.cells.length = i.size then
        if v.cells.all SV.isOne then
        match s.objs[id]? with
        | some (.cells cs tot e lo hi) => match putAt off v.cells cs with
          | some cs' => if thawed lo hi off v.cells.length then K (s.set id (.cells cs' tot e lo hi)) else .bad "store: frozen"
          | none => .bad "store: no such cells"
        | some (.ints k l e lo hi) => (match v with
          | .int k' n _ => if k = k' then .need (off < l.length) (.need (thawed lo hi off 1 = true) (K (s.set id (.ints k (l.set off n) e lo hi)))) else .bad "store: another kind"
          | _ => .bad "store: no integer")
        | _ => .bad "store: not tracked"
        else .bad "store: a cell is none"
      else .bad "store: another size"
  | _ => .bad "store: no address"

def xNew (s : SS) (cs : List SV) (e : TypeId) (K : SV → SS → T) : T :=
  if cs.all SV.isOne then K (.ptr s.n 0) (s.new (.cells cs cs.length e 0 0)) else .bad "new: a cell is none"

def xAlloc (P : Program) (e : TypeId) (s : SS) (K : SV → SS → T) : T :=
  match zeroS P e with
  | some z => xNew s z.cells e K
  | none => .bad "alloc: no zero value"

/-! ### Struct and array literals -/

def fillS (place : Nat → Option (Nat × Nat)) (cells : List SV) : List (Nat × SV) → Option (List SV)
  | [] => some cells
  | (i, v) :: rest =>
    match place i with
    | none => none
    | some (off, size) =>
      if v.cells.length = size then
        match putAt off v.cells cells with
        | some cs => fillS place cs rest
        | none => none
      else none

def fieldPlaces (P : Program) (fields : List Field) : Option (List (Nat × Nat)) :=
  match fields with
  | [] => some []
  | f :: fs => match P.info? f.type, fieldPlaces P fs with
    | some i, some l => some ((f.offset, i.size) :: l)
    | _, _ => none

def xBuild (P : Program) (t : TypeId) (parts : List (Nat × SV)) (K : SV → T) : T :=
  match zeroS P t with
  | none => .bad "build: no zero value"
  | some z => match P.underlying t with
    | some (.struct fields) => match fieldPlaces P fields.toList with
      | some places => match fillS (places[·]?) z.cells parts with
        | some cs => K (.agg cs)
        | none => .bad "build: a part does not fit"
      | none => .bad "build: a field's type"
    | some (.array _ elem) => match P.info? elem with
      | some i => match fillS (fun j => some (j * i.size, i.size)) z.cells parts with
        | some cs => K (.agg cs)
        | none => .bad "build: a part does not fit"
      | none => .bad "build: no element type"
    | _ => .bad "build: neither struct nor array"

def rep : Nat → List SV → List SV
  | 0, _ => []
  | n + 1, z => z ++ rep n z

def xBuildSlice (P : Program) (t : TypeId) (len : Nat) (parts : List (Nat × SV)) (s : SS) (K : SV → SS → T) : T :=
  match P.underlying t with
  | some (.slice elem) => (match P.info? elem, zeroS P elem with
    | some inf, some z => if z.cells.length = inf.size ∧ len * inf.size ≤ 2 ^ 24 then
        (match fillS (fun j => some (j * inf.size, inf.size)) (rep len z.cells) parts with
        | some cs => K (.slc s.n 0 len len true true) (s.new (.cells cs cs.length elem 0 0))
        | none => .bad "buildSlice: a part does not fit")
      else .bad "buildSlice: size"
    | _, _ => .bad "buildSlice: type")
  | _ => .bad "buildSlice: no slice"

/-! ### Fields, elements -/

def xFieldAddr (P : Program) (t : TypeId) (a : SV) (f : Nat) (K : SV → T) : T :=
  match P.underlying t with
  | some (.struct fields) => match fields[f]? with
    | some fd => (match P.info? fd.type with
      | some i => if i.size = 0 then .bad "field: of size 0" else (match a with
        | .ptr id off => K (.ptr id (off + fd.offset))
        | .xp a => K (.xp (a.add fd.offset))
        | _ => .bad "field: no address")
      | none => .bad "field: no type")
    | none => .bad "field: none"
  | _ => .bad "field: no struct"

def partS (P : Program) (t : TypeId) (cs : List SV) (off : Nat) : Option SV :=
  match aggSize P t with
  | none => none
  | some none => cs[off]?
  | some (some n) => (takeAt off n cs).map SV.agg

def xField (P : Program) (t : TypeId) (x : SV) (f : Nat) (K : SV → T) : T :=
  match P.underlying t with
  | some (.struct fields) => match fields[f]? with
    | some fd => (match x with
      | .agg cs => (match partS P fd.type cs fd.offset with
        | some v => K v
        | none => .bad "field: no such part")
      | _ => .bad "field: no struct value")
    | none => .bad "field: none"
  | _ => .bad "field: no struct"

/-! ### Indexing and slicing -/

/-- '0 ≤ i < n': decided, or asked for. -/
def xIn (i : Int) (n : Nat) (lit : Bool) (t : T) : T :=
  if lit then (if 0 ≤ i ∧ i < (n : Int) then t else .bad "index: out of range") else .need (0 ≤ i ∧ i < (n : Int)) t

def xIndexAddr (P : Program) (t : TypeId) (x ix : SV) (K : SV → T) : T :=
  match ix with
  | .int _ i li => (match P.underlying t with
    | some (.array len elem) => (match x with
      | .ptr id off => (match P.info? elem with
        | some inf => xIn i len li (K (.ptr id (off + i.toNat * inf.size)))
        | none => .bad "index: no type")
      | .xp a => (match P.info? elem with
        | some inf => xIn i len li (K (.xp (a.add (i.toNat * inf.size))))
        | none => .bad "index: no type")
      | _ => .bad "index: no array's address")
    | some (.slice elem) => (match x with
      | .slc id off len _ ll _ => (match P.info? elem with
        | some inf => xIn i len (li && ll) (K (.ptr id (off + i.toNat * inf.size)))
        | none => .bad "index: no type")
      | .xs A len _ => (match P.info? elem with
        | some inf => xIn i len false (.need (A.isSome = true) (K (.xp ((A.getD default).add (i.toNat * inf.size)))))
        | none => .bad "index: no type")
      | _ => .bad "index: no slice")
    | _ => .bad "index: neither array nor slice")
  | _ => .bad "index: no integer"

def xIndex (P : Program) (t : TypeId) (x ix : SV) (K : SV → T) : T :=
  match ix with
  | .int _ i li => (match P.underlying t with
    | some (.array len elem) => (match x with
      | .agg cs => (match P.info? elem with
        | some inf => xIn i len li (match partS P elem cs (i.toNat * inf.size) with
          | some v => K v
          | none => .bad "index: no such part")
        | none => .bad "index: no type")
      | _ => .bad "index: no array")
    | some .string => (match x with
      | .str s ls => xIn i s.size (li && ls) (K (.int .u8 ((s.data.toList.getD i.toNat 0).toNat : Int) (li && ls)))
      | _ => .bad "index: no string")
    | _ => .bad "index: neither array nor string")
  | _ => .bad "index: no integer"

def xBound (x : Option SV) (dflt : Nat) (dl : Bool) (y : Nat) (yl : Bool) (K : Nat → Bool → T) : T :=
  match x with
  | none => K dflt dl
  | some (.int _ i li) =>
    if li && yl then (if 0 ≤ i ∧ i ≤ (y : Int) then K i.toNat true else .bad "slice: out of range")
    else .need (0 ≤ i ∧ i ≤ (y : Int)) (K i.toNat li)
  | some _ => .bad "slice: no integer"

def xBounds (len : Nat) (ll : Bool) (cap : Nat) (lc : Bool) (low high max : Option SV) (K : Nat → Bool → Nat → Bool → Nat → Bool → T) : T :=
  match max, high with
  | some _, none => .bad "slice: max without high"
  | _, _ => xBound max cap lc cap lc fun m lm => xBound high len ll m lm fun h lh => xBound low 0 true h lh fun l l0 => K l l0 h lh m lm

def xSlice (P : Program) (t : TypeId) (x : SV) (low high max : Option SV) (K : SV → T) : T :=
  match P.underlying t with
  | some .string => (match x with
    | .str s ls => (match max with
      | none => xBounds s.size ls s.size ls low high none fun l l0 h lh _ _ => K (.str (s.extract l h) (ls && l0 && lh))
      | some _ => .bad "slice: full slice of a string")
    | _ => .bad "slice: no string")
  | some (.slice elem) => (match P.info? elem with
    | some inf => (match x with
      | .slc id off len cap ll lc => xBounds len ll cap lc low high max fun l l0 h lh m lm =>
          K (.slc id (if m = l then off else off + l * inf.size) (h - l) (m - l) (lh && l0) (lm && l0))
      | .xs A len cap => xBounds len false cap false low high max fun l _ h _ m _ =>
          K (.xs (if m = l then A else A.map (·.add (l * inf.size))) (h - l) (m - l))
      | .one (.slice none len cap) _ => xBounds len true cap true low high max fun l _ h _ m _ => K (.one (.slice none (h - l) (m - l)) rfl)
      | _ => .bad "slice: no slice")
    | none => .bad "slice: no type")
  | some (.array n elem) => (match P.info? elem with
    | some inf => (match x with
      | .ptr id off => xBounds n true n true low high max fun l l0 h lh m lm =>
          K (.slc id (if m = l then off else off + l * inf.size) (h - l) (m - l) (lh && l0) (lm && l0))
      | _ => .bad "slice: no array's address")
    | none => .bad "slice: no type")
  | some (.pointer arr) => (match P.underlying arr with
    | some (.array n elem) => (match P.info? elem with
      | some inf => (match x with
        | .ptr id off => xBounds n true n true low high max fun l l0 h lh m lm =>
            K (.slc id (if m = l then off else off + l * inf.size) (h - l) (m - l) (lh && l0) (lm && l0))
        | _ => .bad "slice: no array's address")
      | none => .bad "slice: no type")
    | _ => .bad "slice: no array")
  | _ => .bad "slice: of what"

/-- The zero value of an element has as many cells as the element. -/
def zeroOk (P : Program) (e : TypeId) (n : Nat) : Bool :=
  match zeroS P e with
  | some z => z.cells.length == n
  | none => false

def xMakeSlice (P : Program) (t : TypeId) (len cap : SV) (s : SS) (K : SV → SS → T) : T :=
  match P.underlying t with
  | some (.slice elem) => (match P.info? elem with
    | some inf => (match len, cap with
      | .int _ n ln, .int _ c lc =>
        if ln && lc then
          (if 0 ≤ n ∧ n ≤ c ∧ inf.bytes * c ≤ 2 ^ 48 ∧ c < 2 ^ 63 then
            (match zeroS P elem with
            | some z => if z.cells.length = inf.size then (if z.cells.all SV.isOne then K (.slc s.n 0 n.toNat c.toNat true true) (s.new (.cells (rep c.toNat z.cells) (rep c.toNat z.cells).length elem 0 0)) else .bad "make: zero") else .bad "make: size"
            | none => .bad "make: no zero value")
          else .bad "make: out of range")
        else
          (match inf.zero with
          | some (.int k z) => if z = 0 ∧ inf.size = 1 then .need (0 ≤ n ∧ n ≤ c ∧ inf.bytes * c ≤ 2 ^ 48 ∧ c < 2 ^ 63) (K (.slc s.n 0 n.toNat c.toNat false false) (s.new (.ints k (List.replicate c.toNat 0) elem 0 0))) else .bad "make: zero"
          | _ => if ln && decide (n = 0) && zeroOk P elem inf.size then .need (0 ≤ c ∧ inf.bytes * c ≤ 2 ^ 48 ∧ c < 2 ^ 63) (K (.slc s.n 0 0 c.toNat true false) (s.new (.vals [] (c.toNat * inf.size) elem 0 0))) else .bad "make: no integers")
      | _, _ => .bad "make: no integers")
    | none => .bad "make: no type")
  | _ => .bad "make: no slice"

/-! ### len, cap, append, copy -/

def xLen (P : Program) (t : TypeId) (x : SV) (K : SV → T) : T :=
  match P.underlying t with
  | some .string => (match x with
    | .str s l => K (.int .i64 s.size l)
    | _ => .bad "len: no string")
  | some (.array n _) => K (.int .i64 n true)
  | some (.pointer arr) => (match P.underlying arr with
    | some (.array n _) => K (.int .i64 n true)
    | _ => .bad "len: no array")
  | some (.slice _) => (match x with
    | .slc _ _ n _ l _ => K (.int .i64 n l)
    | .one (.slice none n _) _ => K (.int .i64 n true)
    | .xs _ n _ => K (.int .i64 n false)
    | _ => .bad "len: no slice")
  | _ => .bad "len: of what"

def xCap (P : Program) (t : TypeId) (x : SV) (K : SV → T) : T :=
  match P.underlying t with
  | some (.array n _) => K (.int .i64 n true)
  | some (.slice _) => (match x with
    | .slc _ _ _ c _ l => K (.int .i64 c l)
    | .one (.slice none _ c) _ => K (.int .i64 c true)
    | .xs _ _ c => K (.int .i64 c false)
    | _ => .bad "cap: no slice")
  | _ => .bad "cap: of what"

def intsAt (k : IntKind) (l : List Int) (off : Nat) : Nat → List SV
  | 0 => []
  | n + 1 => .int k (l.getD off 0) false :: intsAt k l (off + 1) n

def bytesS : List UInt8 → Bool → List SV
  | [], _ => []
  | b :: bs, lit => .int .u8 (b.toNat : Int) lit :: bytesS bs lit

/-- The first n cells of what is appended or copied (n is known). -/
def xFirst (n : Nat) (x : SV) (s : SS) (K : List SV → T) : T :=
  match x with
  | .slc id off _ _ _ _ => (match s.objs[id]? with
    | some (.cells cs _ _ _ _) => (match takeAt off n cs with
      | some l => K l
      | none => .bad "cells: not there")
    | some (.ints k l _ _ _) => .need (off + n ≤ l.length) (K (intsAt k l off n))
    | _ => .bad "cells: not tracked")
  | .one (.slice none _ _) _ => if n = 0 then K [] else .bad "cells: of nil"
  | _ => .bad "cells: of what"

def lenS : SV → Option (Nat × Bool)
  | .slc _ _ n _ l _ => some (n, l)
  | .one (.slice none n _) _ => some (n, true)
  | _ => none

def kindOf (z : Option Value) : Option IntKind :=
  match z with
  | some (.int k n) => if n = 0 then some k else none
  | _ => none

/-- append within the capacity. -/
def appendIn (s : SS) (id off len n cap : Nat) (lc : Bool) (size : Nat) (cs : List SV) (tot : Nat) (e : TypeId) (lo hi : Nat) (new : List SV) (K : SV → SS → T) : T :=
  match putAt (off + len * size) new cs with
  | some cs' => if thawed lo hi (off + len * size) new.length then K (.slc id off (len + n) cap true lc) (s.set id (.cells cs' tot e lo hi)) else .bad "append: frozen"
  | none =>
    if off + len * size = cs.length then
      (if thawed lo hi (off + len * size) new.length then .need (cs.length + new.length ≤ tot) (K (.slc id off (len + n) cap true lc) (s.set id (.cells (cs ++ new) tot e lo hi))) else .bad "append: frozen")
    else .bad "append: no such cells"

mutual
def SV.okb (n : Nat) : SV → Bool
  | .one _ _ => true
  | .int _ _ _ => true
  | .bool _ _ => true
  | .str _ _ => true
  | .ptr i _ => decide (i < n)
  | .slc i _ _ _ _ _ => decide (i < n)
  | .ifc _ v => SV.okb n v
  | .agg cs => okbL n cs
  | .tup cs => okbL n cs
  | .fn _ a c => okbL n a && okbL n c
  | .raw _ => true
  | .xp _ => true
  | .xs _ _ _ => true
def okbL (n : Nat) : List SV → Bool
  | [] => true
  | v :: vs => SV.okb n v && okbL n vs
end

/-- A value that names no tracked block. -/
def closedL (l : List SV) : Option (List Value) := if okbL 0 l then some (denL id l) else none

/-- append to a row of which the first cells are known as values. -/
def appendVals (s : SS) (elem : TypeId) (inf : TypeInfo) (id off len n cap : Nat) (l : List Value) (tot : Nat) (e : TypeId) (lo hi : Nat) (new : List Value) (K : SV → SS → T) : T :=
  .split (decide (len + n ≤ cap))
    (.need (off + len * inf.size = l.length ∧ l.length + new.length ≤ tot ∧ thawed lo hi l.length new.length = true) (K (.slc id off (len + n) cap false false) (s.set id (.vals (l ++ new) tot e lo hi))))
    (.need (off + len * inf.size ≤ l.length ∧ Builtin.nextslicecap (len + n) cap * inf.bytes ≤ 2 ^ 48 ∧ ((len + n : Nat) : Int) ≤ IntKind.i64.max)
      (.choose (.appendCap (len + n) cap elem) fun c => K (.slc s.n 0 (len + n) c false false) (s.new (.vals ((l.drop off).take (len * inf.size) ++ new) (c * inf.size) elem 0 0))))

/-- append(x, y...), the bytes of y in memory that is not tracked. -/
def appendExt (s : SS) (elem : TypeId) (inf : TypeInfo) (x : SV) (A : Option Addr) (n : Nat) (K : SV → SS → T) : T :=
  if s.ext && inf.size == 1 && inf.bytes == 1 && kindOf inf.zero == some .u8 then
    .need (canBytes s.w0 s.pre A n)
    (match x with
    | .slc id off len cap ll lc => (match s.objs[id]? with
      | some (.cells cs tot e lo hi) => (match closedL cs with
        | some l => if off + len = l.length then appendVals (s.set id (.vals l tot e lo hi)) elem inf id off len n cap l tot e lo hi (valsAt s.w0 A n) K else .bad "append: behind the end"
        | none => .bad "append: cells with addresses")
      | some (.vals l tot e lo hi) => appendVals s elem inf id off len n cap l tot e lo hi (valsAt s.w0 A n) K
      | _ => .bad "append: not tracked")
    | _ => .bad "append: bytes to what")
  else .bad "append: no bytes"

/-- append into a new row. -/
def appendGrow (P : Program) (s : SS) (elem : TypeId) (inf : TypeInfo) (off len n cap : Nat) (cs new : List SV) (K : SV → SS → T) : T :=
  match takeAt off (len * inf.size) cs with
  | some old => if zeroOk P elem inf.size = false then .bad "append: zero" else .need (Builtin.nextslicecap (len + n) cap * inf.bytes ≤ 2 ^ 48) (.need (((len + n : Nat) : Int) ≤ IntKind.i64.max)
      (.choose (.appendCap (len + n) cap elem) fun c => K (.slc s.n 0 (len + n) c true false) (s.new (.cells (old ++ new) (c * inf.size) elem 0 0))))
  | none => .bad "append: the old cells are not there"

/-- append(x, y...), y of a known length. -/
def xAppend (P : Program) (argTypes : List TypeId) (x y : SV) (s : SS) (K : SV → SS → T) : T :=
  match argTypes with
  | [t, t2] => (match P.underlying t, P.underlying t2 with
    | some (.slice elem), some (.slice _) => (match P.info? elem, lenS y with
      | some inf, some (n, true) => xFirst (n * inf.size) y s fun new =>
        if new.all SV.isOne then (match x with
        | .slc id off len cap ll lc => (match s.objs[id]? with
          | some (.cells cs tot e lo hi) =>
            if ll then
              (if lc then (if len + n ≤ cap then appendIn s id off len n cap lc inf.size cs tot e lo hi new K else appendGrow P s elem inf off len n cap cs new K)
              else .split (decide (len + n ≤ cap)) (appendIn s id off len n cap lc inf.size cs tot e lo hi new K) (appendGrow P s elem inf off len n cap cs new K))
            else .bad "append: cells of unknown length"
          | some (.ints k l e lo hi) => (match new with
            | [.int k' v _] => if k = k' ∧ inf.size = 1 ∧ n = 1 then
                .split (decide (len + 1 ≤ cap))
                  (.need (off + len < l.length) (.need (thawed lo hi (off + len) 1 = true) (K (.slc id off (len + 1) cap false lc) (s.set id (.ints k (l.set (off + len) v) e lo hi)))))
                  (.need (Builtin.nextslicecap (len + 1) cap * inf.bytes ≤ 2 ^ 48) (.need (((len + 1 : Nat) : Int) ≤ IntKind.i64.max) (.need (off + len ≤ l.length)
                    (if kindOf inf.zero = some k then .choose (.appendCap (len + 1) cap elem) fun c => K (.slc s.n 0 (len + 1) c false false) (s.new (.ints k ((l.drop off).take len ++ v :: List.replicate (c - (len + 1)) 0) elem 0 0)) else .bad "append: zero"))))
              else .bad "append: kinds"
            | _ => .bad "append: several integers")
          | some (.vals l tot e lo hi) => (match closedL new with
            | some nv => if zeroOk P elem inf.size = false then .bad "append: zero" else appendVals s elem inf id off len n cap l tot e lo hi nv K
            | none => .bad "append: an address")
          | _ => .bad "append: not tracked")
        | .one (.slice none len cap) _ =>
          if len = 0 ∧ cap = 0 then
            (if n = 0 then K x s else if zeroOk P elem inf.size = false then .bad "append: zero" else
            .need (Builtin.nextslicecap n 0 * inf.bytes ≤ 2 ^ 48) (.need ((n : Int) ≤ IntKind.i64.max)
              (.choose (.appendCap n 0 elem) fun c => K (.slc s.n 0 n c true false) (s.new (.cells new (c * inf.size) elem 0 0)))))
          else .bad "append: to a strange nil"
        | _ => .bad "append: to what") else .bad "append: a cell is none"
      | some inf, _ => (match y with
        | .xs A n _ => appendExt s elem inf x A n K
        | _ => .bad "append: a length that is not known")
      | _, _ => .bad "append: a length that is not known")
    | _, _ => .bad "append: types")
  | _ => .bad "append: arguments"

/-- A known number of cells copied. -/
def copyGo (s : SS) (id off size n : Nat) (y : SV) (K : SV → SS → T) : T :=
  xFirst (n * size) y s fun new =>
    if new.all SV.isOne then (match s.objs[id]? with
    | some (.cells cs tot e lo hi) => (match putAt off new cs with
      | some cs' => if thawed lo hi off new.length then K (.int .i64 n true) (s.set id (.cells cs' tot e lo hi)) else .bad "copy: frozen"
      | none => .bad "copy: no such cells")
    | _ => .bad "copy: not tracked") else .bad "copy: a cell is none"

/-- copy(dst, src) into cells: the number of cells is known. -/
def xCopy (P : Program) (argTypes : List TypeId) (x y : SV) (s : SS) (K : SV → SS → T) : T :=
  match argTypes with
  | t :: _ => (match P.underlying t with
    | some (.slice elem) => (match P.info? elem, x, lenS y with
      | some inf, .slc id off len _ true _, some (m, lm) =>
        if lm then copyGo s id off inf.size (Nat.min m len) y K else .need (len ≤ m) (copyGo s id off inf.size len y K)
      | _, _, _ => .bad "copy: of what")
    | _ => .bad "copy: types")
  | _ => .bad "copy: arguments"

/-! ### Operators -/

/-- A tracked row of cells without a mark: no string shares it. -/
def plainObj (s : SS) (i : Nat) : Bool :=
  match s.objs[i]? with
  | some (.cells _ _ _ lo hi) => lo == 0 && hi == 0
  | some (.ints _ _ _ lo hi) => lo == 0 && hi == 0
  | _ => false

def isNilPtr (v : SV) : Bool :=
  match v with
  | .one (.pointer none) _ => true
  | _ => false

def isNilIface (v : SV) : Bool :=
  match v with
  | .one .nilIface _ => true
  | _ => false

def isNilSlice (v : SV) : Bool :=
  match v with
  | .one (.slice none _ _) _ => true
  | _ => false

/-- Equality of two values that are neither interfaces nor structs. -/
def xEqBase (P : Program) (t : TypeId) (a b : SV) (s : SS) (K : Bool → Bool → T) : T :=
  match P.underlying t with
  | some .bool => (match a, b with
    | .bool x lx, .bool y ly => K (x == y) (lx && ly)
    | _, _ => .bad "==: no bools")
  | some (.int _) => (match a, b with
    | .int k x lx, .int k' y ly => if k = k' then K (x == y) (lx && ly) else .bad "==: kinds"
    | _, _ => .bad "==: no integers")
  | some .string => (match a, b with
    | .str x lx, .str y ly => K (x == y) (lx && ly)
    | _, _ => .bad "==: no strings")
  | some (.pointer elem) =>
    if isNilPtr a then (if isNilPtr b then K true true else (match b with
      | .ptr _ _ => K false true
      | .xp _ => K false true
      | _ => .bad "==: pointer"))
    else (match a with
      | .xp _ => if isNilPtr b then K false true else .bad "==: pointers that are not tracked"
      | .ptr i o => if isNilPtr b then K false true else (match b with
        | .ptr j o' => (match P.info? elem with
          | some inf => if inf.size = 0 then .bad "==: size 0" else
            if i = j then K (o == o') true
            else if plainObj s i && plainObj s j then K false true else .bad "==: not tracked"
          | none => .bad "==: no type")
        | _ => .bad "==: pointer")
      | _ => .bad "==: pointer")
  | some (.slice _) =>
    if isNilSlice a then (if isNilSlice b then K true true else (match b with
      | .slc .. => K false true
      | .xs A _ _ => K A.isNone false
      | _ => .bad "==: slice"))
    else (match a with
      | .slc .. => if isNilSlice b then K false true else .bad "==: slices"
      | .xs A _ _ => if isNilSlice b then K A.isNone false else .bad "==: slices"
      | _ => .bad "==: slice")
  | _ => .bad "==: of what"

def xEq (P : Program) (t : TypeId) (a b : SV) (s : SS) (K : Bool → Bool → T) : T :=
  match P.underlying t with
  | some (.interface _) =>
    if isNilIface a then (if isNilIface b then K true true else (match b with
      | .ifc _ _ => K false true
      | _ => .bad "==: interface"))
    else (match a with
      | .ifc ta va => if isNilIface b then K false true else (match b with
        | .ifc tb vb => if ta = tb then (match P.info? ta with
            | some inf => if inf.comparable then xEqBase P ta va vb s K else .bad "==: not comparable"
            | none => .bad "==: no type")
          else K false true
        | _ => .bad "==: interface")
      | _ => .bad "==: interface")
  | _ => xEqBase P t a b s K

/-- Forms of values that '==' compares by 'xEq'. -/
def eqForm (v : SV) : Bool :=
  match v with
  | .bool _ _ => true
  | .ptr _ _ => true
  | .slc .. => true
  | .xp _ => true
  | .xs .. => true
  | .ifc _ _ => true
  | .one (.pointer none) _ => true
  | .one .nilIface _ => true
  | .one (.slice none _ _) _ => true
  | _ => false

def isConstOp (x : Operand) : Bool :=
  match x with
  | .const _ => true
  | _ => false

def xBin (P : Program) (op : BinOp) (t : TypeId) (x y : Operand) (a b : SV) (s : SS) (K : SV → T) : T :=
  match a, b with
  | .int k n ln, .int k' m lm =>
    (match op with
    | .shl => if lm then (if 0 ≤ m then K (.int k (k.wrap (n * 2 ^ (min m.toNat k.bits))) ln) else .bad "shift: negative") else .need (0 ≤ m) (K (.int k (k.wrap (n * 2 ^ (min m.toNat k.bits))) false))
    | .shr => if lm then (if 0 ≤ m then K (.int k (n.fdiv (2 ^ (min m.toNat k.bits))) ln) else .bad "shift: negative") else .need (0 ≤ m) (K (.int k (n.fdiv (2 ^ (min m.toNat k.bits))) false))
    | _ =>
    if k = k' then
    (match op with
    | .add => K (.int k (k.wrap (n + m)) (ln && lm))
    | .sub => K (.int k (k.wrap (n - m)) (ln && lm))
    | .mul => K (.int k (k.wrap (n * m)) (ln && lm))
    | .quo => if lm then (if m = 0 then .bad "quo: by 0" else K (.int k (k.wrap (n.tdiv m)) (ln && lm))) else .need (m ≠ 0) (K (.int k (k.wrap (n.tdiv m)) false))
    | .rem => if lm then (if m = 0 then .bad "rem: by 0" else K (.int k (n.tmod m) (ln && lm))) else .need (m ≠ 0) (K (.int k (n.tmod m) false))
    | .and => K (.int k (k.wrap (BitVec.ofInt k.bits n &&& BitVec.ofInt k.bits m).toNat) (ln && lm))
    | .or => K (.int k (k.wrap (BitVec.ofInt k.bits n ||| BitVec.ofInt k.bits m).toNat) (ln && lm))
    | .xor => K (.int k (k.wrap (BitVec.ofInt k.bits n ^^^ BitVec.ofInt k.bits m).toNat) (ln && lm))
    | .andNot => K (.int k (k.wrap (BitVec.ofInt k.bits n &&& ~~~ BitVec.ofInt k.bits m).toNat) (ln && lm))
    | .eql => K (.bool (n == m) (ln && lm))
    | .neq => K (.bool (n != m) (ln && lm))
    | .lss => K (.bool (decide (n < m)) (ln && lm))
    | .leq => K (.bool (decide (n ≤ m)) (ln && lm))
    | .gtr => K (.bool (decide (n > m)) (ln && lm))
    | .geq => K (.bool (decide (n ≥ m)) (ln && lm))
    | _ => .bad "binop: integers")
    else .bad "binop: kinds")
  | .str u lu, .str v lv =>
    (match op with
    | .eql => K (.bool (u.toList == v.toList) (lu && lv))
    | .neq => K (.bool (!(u.toList == v.toList)) (lu && lv))
    | .lss => K (.bool (Op.bytesLess u.toList v.toList) (lu && lv))
    | .add => if lu && lv then (if ((u.size + v.size : Nat) : Int) > IntKind.i64.max then .bad "add: strings" else K (.str (u ++ v) true))
        else .need (((u.size + v.size : Nat) : Int) ≤ IntKind.i64.max) (K (.str (u ++ v) false))
    | _ => .bad "binop: strings")
  | _, _ =>
    if isNilIface a && isNilIface b && !(isConstOp x || isConstOp y) then .bad "==: two nil interfaces" else
    if eqForm a && eqForm b then
    (match op with
    | .eql => xEq P t a b s fun r l => K (.bool r l)
    | .neq => xEq P t a b s fun r l => K (.bool (!r) l)
    | _ => .bad "binop: of what") else .bad "binop: of what"

def xUn (op : UnOp) (x : SV) (K : SV → T) : T :=
  match op, x with
  | .neg, .int k n l => K (.int k (k.wrap (0 - n)) l)
  | .xor, .int k n l => K (.int k (k.wrap (BitVec.ofInt k.bits (if k.signed then -1 else k.max) ^^^ BitVec.ofInt k.bits n).toNat) l)
  | .not, .bool b l => K (.bool (!b) l)
  | _, _ => .bad "unop"

/-- The bytes of integers, as a string. -/
def bytesOf (l : List Int) : ByteArray := l.foldl (fun r n => r.push (UInt8.ofNat n.toNat)) ByteArray.empty

def intsOf : List SV → Option (List Int × Bool)
  | [] => some ([], true)
  | .int .u8 n l :: r => (match intsOf r with
    | some (ns, lr) => some (n :: ns, l && lr)
    | none => none)
  | _ :: _ => none

def xConvert (P : Program) (src dst : TypeId) (x : SV) (s : SS) (K : SV → SS → T) : T :=
  match P.underlying src, P.underlying dst with
  | some ds, some (.int k) => (match x with
    | .int _ n l => K (.int k (k.wrap n) l) s
    | _ => .bad "convert: to an integer, of what")
  | some ds, some .string => (match x with
    | .str u l => K (.str u l) s
    | .slc id off len _ ll _ => (match ds with
      | .slice e => (match P.underlying e with
        | some (.int .u8) => if ll then xFirst len x s fun cs => (match intsOf cs with
            | some (ns, lit) => K (.str (bytesOf ns) lit) s
            | none => .bad "convert: no bytes")
          else (match s.objs[id]? with
            | some (.ints .u8 l _ _ _) => .need (off + len ≤ l.length) (K (.str (bytesOf ((l.drop off).take len)) false) s)
            | some (.vals l _ _ _ _) => .need (off + len ≤ l.length ∧ byteVals ((l.drop off).take len)) (K (.str (bytesOf (((l.drop off).take len).map valInt)) false) s)
            | _ => .bad "convert: not tracked")
        | _ => .bad "convert: no bytes")
      | _ => .bad "convert: no slice")
    | .xs A n _ => if s.ext then (match ds with
      | .slice e => (match P.underlying e with
        | some (.int .u8) => .need (canBytes s.w0 s.pre A n) (K (.str (bytesAt s.w0 A n) false) s)
        | _ => .bad "convert: no bytes")
      | _ => .bad "convert: no slice") else .bad "convert: not tracked"
    | .one (.slice none _ _) _ => (match ds with
      | .slice e => (match P.underlying e with
        | some (.int .u8) => K (.str ByteArray.empty true) s
        | _ => .bad "convert: no bytes")
      | _ => .bad "convert: no slice")
    | _ => .bad "convert: to a string, of what")
  | some _, some (.slice e) => (match x with
    | .str u l => (match P.underlying e with
      | some (.int .u8) => .choose (.appendCap u.size 0 e) fun c =>
          K (.slc s.n 0 u.size c l false) (s.new (if l then .cells (bytesS u.data.toList true) c e c (c + 1) else .ints .u8 (u.data.toList.map (fun b => (b.toNat : Int)) ++ List.replicate (c - u.size) 0) e c (c + 1)))
      | _ => .bad "convert: no bytes")
    | _ => .bad "convert: to a slice, of what")
  | _, _ => .bad "convert: of what"

def assertHolds (commaOk : Bool) (v : SV) (K : SV → T) : T := if commaOk then K (.tup [v, .bool true true]) else K v

def assertFails (P : Program) (asserted : TypeId) (commaOk : Bool) (K : SV → T) : T :=
  if commaOk then (match zeroS P asserted with
    | some z => K (.tup [z, .bool false true])
    | none => .bad "assert: zero") else .bad "assert: fails"

def xAssert (P : Program) (x : SV) (asserted : TypeId) (commaOk : Bool) (K : SV → T) : T :=
  match P.underlying asserted with
  | some (.interface want) => if isNilIface x then assertFails P asserted commaOk K else (match x with
    | .ifc t v => (match P.info? t with
      | some inf => (match Instr.missingMethod want inf.methods with
        | none => assertHolds commaOk (.ifc t v) K
        | some _ => assertFails P asserted commaOk K)
      | none => .bad "assert: no type")
    | _ => .bad "assert: of what")
  | some _ => if isNilIface x then assertFails P asserted commaOk K else (match x with
    | .ifc t v => if t = asserted then assertHolds commaOk v K else assertFails P asserted commaOk K
    | _ => .bad "assert: of what")
  | none => .bad "assert: no type"

/-! ### Methods -/

inductive SPlace where
  | val (v : SV)
  | var (id off : Nat)

def xGet (P : Program) (t : TypeId) (x : SPlace) (s : SS) (K : SV → T) : T :=
  match x with
  | .val v => K v
  | .var id off => xLoad P t (.ptr id off) s K

def xFollow (P : Program) : List FieldStep → TypeId → SPlace → SS → (TypeId → SPlace → T) → T
  | [], t, x, _, K => K t x
  | st :: rest, t, x, s, K => match P.underlying st.struct with
    | some (.struct fields) => (match fields[st.index]? with
      | some f => (match P.info? f.type with
        | some fi => if fi.size = 0 then .bad "method: a field of size 0" else
          if st.deref then xGet P t x s fun v => (match v with
            | .ptr id off => xFollow P rest f.type (.var id (off + f.offset)) s K
            | _ => .bad "method: no pointer")
          else (match x with
            | .var id off => xFollow P rest f.type (.var id (off + f.offset)) s K
            | .val (.agg cs) => (match partS P f.type cs f.offset with
              | some v => xFollow P rest f.type (.val v) s K
              | none => .bad "method: no part")
            | _ => .bad "method: no struct")
        | none => .bad "method: no type")
      | none => .bad "method: no field")
    | _ => .bad "method: no struct type"

def xRecv (P : Program) (xt : TypeId) (x : SPlace) (ptrRecv : Bool) (s : SS) (K : SV → T) : T :=
  match P.underlying xt with
  | some (.pointer elem) => if ptrRecv then xGet P xt x s K
    else xGet P xt x s fun p => (match p with
      | .ptr id off => xLoad P elem (.ptr id off) s K
      | .xp a => xLoad P elem (.xp a) s K
      | _ => .bad "method: nil")
  | some _ => if ptrRecv then (match x with
      | .var id off => K (.ptr id off)
      | .val _ => .bad "method: a value without an address")
    else xGet P xt x s K
  | none => .bad "method: no type"

def xMethod (P : Program) (t : TypeId) (v : SV) (name : String) (s : SS) (K : FuncId → SV → T) : T :=
  match P.info? t with
  | some i => (match i.methods.find? (·.name == name) with
    | some m => (match m.func with
      | some (f, ptrRecv) => xFollow P m.path.toList t (.val v) s fun xt x => xRecv P xt x ptrRecv s fun r => K f r
      | none => .bad "method: of an embedded interface")
    | none => .bad "method: none of this name")
  | none => .bad "method: no type"

/-- 'nilAhead' says 'some false' (a method of the type itself, or one with a pointer receiver). -/
def aheadOk (P : Program) (t : TypeId) (v : SV) (name : String) : Bool :=
  match P.info? t with
  | some i => (match i.methods.find? (·.name == name) with
    | some m => if m.path.isEmpty then (match m.func with
      | some (_, true) => true
      | some (_, false) => (match P.underlying t with
        | some (.pointer _) => (match v with
          | .ptr _ _ => true
          | _ => false)
        | some _ => true
        | none => false)
      | none => false) else false
    | none => false)
  | none => false

def xNilCheck (P : Program) (x : SV) (K : SV → T) : T :=
  match x with
  | .ptr id off => K (.ptr id off)
  | .xp a => K (.xp a)
  | .xs .. => K x
  | .fn (.method name) first cap => (match first with
    | .ifc t v :: _ => if aheadOk P t v name then K x else .bad "nilCheck: a method's receiver"
    | _ => .bad "nilCheck: of what")
  | .fn (.func _) _ _ => K x
  | .ifc _ _ => K x
  | .slc .. => K x
  | _ => .bad "nilCheck: of what"

/-! ### Code -/

/-- A call that is not walked into: what it yields, and what the tracked blocks hold then. -/
structure Hook where
  X : Type
  out : List SV → SS → X → SV × List SObj

/-- A loop that is not walked round: how it ends. -/
structure LoopHook where
  X : Type
  out : List SV → SS → X → SE × List SV × List SObj
  Y : Type
  out' : List SV → SS → Y → SE × List SV × List SObj

structure Hooks where
  calls : FuncId → Option Hook
  /-- by the function and 'codeKey' -/
  loops : FuncId → Nat → Option LoopHook

/-- A number by which a loop's body is known: its first region. -/
def codeKey : Code → Nat
  | .seq a b => if codeKey a = 0 then codeKey b else codeKey a
  | .cond _ a b => if codeKey a = 0 then codeKey b else codeKey a
  | .block _ c => codeKey c
  | .loop c => codeKey c
  | .scope c => codeKey c
  | .region id _ _ => id + 1
  | _ => 0

def ev (s : SS) (a : List SV) (x : Operand) : Option SV :=
  match x with
  | .tmp t => some (a.getD t undefS)
  | .const v => SV.ofValue v
  | .global g => (match s.gl.lookup g with
    | some id => some (.ptr id 0)
    | none => some (.one (.pointer (some ⟨g, 0, none⟩)) rfl))
  | .func f => some (.fn (.func f) [] [])

def evL (s : SS) (a : List SV) : List Operand → Option (List SV)
  | [] => some []
  | x :: xs => match ev s a x, evL s a xs with
    | some v, some vs => some (v :: vs)
    | _, _ => none

def evP (s : SS) (a : List SV) : List (Nat × Operand) → Option (List (Nat × SV))
  | [] => some []
  | (i, x) :: xs => match ev s a x, evP s a xs with
    | some v, some vs => some ((i, v) :: vs)
    | _, _ => none

def evO (s : SS) (a : List SV) : Option Operand → Option (Option SV)
  | none => some none
  | some x => (ev s a x).map some

def putS (a : List SV) (dst : Option Nat) (v : SV) : List SV :=
  match dst with
  | some d => a.set d v
  | none => a

abbrev XCall := FuncId → List SV → SS → (SV → SS → T) → T

def with1 (s : SS) (a : List SV) (x : Operand) (K : SV → T) : T :=
  match ev s a x with
  | some v => K v
  | none => .bad "a constant that is not taken"

def with2 (s : SS) (a : List SV) (x y : Operand) (K : SV → SV → T) : T :=
  with1 s a x fun u => with1 s a y fun v => K u v

/-- A call of this function walks into its body. -/
def entersOk (P : Program) (f : FuncId) : Bool :=
  match P.funcs[f]? with
  | some fn => fn.name != "runtime.NumGoroutine" && fn.body.isSome
  | none => false

def xTarget (P : Program) (call : XCall) (f : Fn) (args : List SV) (cap : List SV) (s : SS) (K : SV → SS → T) : T :=
  match f with
  | .func g => if entersOk P g then call g (args ++ cap) s K else .bad "call: a function without a body"
  | .method name => (match args with
    | .ifc t v :: rest => xMethod P t v name s fun g r => if entersOk P g then call g (r :: rest) s K else .bad "call: a method without a body"
    | _ => .bad "invoke: no interface value")
  | _ => .bad "call: of what"

def xBuiltin (P : Program) (b : Builtin) (argTypes : List TypeId) (args : List SV) (s : SS) (K : SV → SS → T) : T :=
  match b with
  | .len => (match argTypes, args with
    | t :: _, x :: _ => xLen P t x fun v => K v s
    | _, _ => .bad "len")
  | .cap => (match argTypes, args with
    | t :: _, x :: _ => xCap P t x fun v => K v s
    | _, _ => .bad "cap")
  | .append => (match args with
    | [x, y] => xAppend P argTypes x y s K
    | _ => .bad "append")
  | .copy => (match args with
    | x :: y :: _ => xCopy P argTypes x y s K
    | _ => .bad "copy")
  | _ => .bad "a builtin that is not taken"

def xOp (P : Program) (call : XCall) (o : Oper) (a : List SV) (s : SS) (K : SV → SS → T) : T :=
  match o.op with
  | .move x => with1 s a x fun v => K v s
  | .assign x => with1 s a x fun v => K v s
  | .pick c x y => with1 s a c fun b => with2 s a x y fun u v => (match b with
    | .bool t lit => if lit then (if t then K u s else K v s) else .split t (K u s) (K v s)
    | _ => .bad "pick")
  | .alloc e => xAlloc P e s K
  | .box e x => with1 s a x fun v => xNew s v.cells e K
  | .build t parts => (match evP s a parts.toList with
    | some ps => xBuild P t ps fun v => K v s
    | none => .bad "build: a constant")
  | .buildSlice t len parts => (match evP s a parts.toList with
    | some ps => xBuildSlice P t len ps s K
    | none => .bad "buildSlice: a constant")
  | .load t x => with1 s a x fun v => xLoad P t v s fun r => K r s
  | .store t x y => with2 s a x y fun u v => xStore P t u v s fun s' => K undefS s'
  | .nilCheck x => with1 s a x fun v => xNilCheck P v fun r => K r s
  | .binOp op t x y _ => with2 s a x y fun u v => xBin P op t x y u v s fun r => K r s
  | .unOp op _ x => with1 s a x fun v => xUn op v fun r => K r s
  | .convert src dst x => with1 s a x fun v => xConvert P src dst v s K
  | .makeInterface t x => with1 s a x fun v => (match P.underlying t with
    | some (.interface _) => .bad "makeInterface"
    | some _ => K (.ifc t v) s
    | none => .bad "makeInterface")
  | .makeFunc f first cap => (match evL s a first.toList, evL s a cap.toList with
    | some u, some v => K (.fn f u v) s
    | _, _ => .bad "makeFunc: a constant")
  | .makeSlice t l c => with2 s a l c fun u v => xMakeSlice P t u v s K
  | .slice t x lo hi mx => with1 s a x fun v => (match evO s a lo, evO s a hi, evO s a mx with
    | some l, some h, some m => xSlice P t v l h m fun r => K r s
    | _, _, _ => .bad "slice: a constant")
  | .fieldAddr t x f => with1 s a x fun v => xFieldAddr P t v f fun r => K r s
  | .field t x f => with1 s a x fun v => xField P t v f fun r => K r s
  | .indexAddr t x i => with2 s a x i fun u v => xIndexAddr P t u v fun r => K r s
  | .index t x i => with2 s a x i fun u v => xIndex P t u v fun r => K r s
  | .typeAssert x _ asserted ok => with1 s a x fun v => xAssert P v asserted ok fun r => K r s
  | .extract x i => with1 s a x fun v => (match v with
    | .tup vs => (match vs[i]? with
      | some r => K r s
      | none => .bad "extract")
    | _ => .bad "extract")
  | .call c => (match evL s a c.args.toList with
    | some args => (match c.callee with
      | .builtin b => xBuiltin P b c.argTypes.toList args s K
      | .invoke r m => with1 s a r fun v => xTarget P call (.method m) (v :: args) [] s K
      | .value f => with1 s a f fun v => (match v with
        | .fn g first cap => xTarget P call g (first ++ args) cap s K
        | _ => .bad "call: no function"))
    | none => .bad "call: a constant")
  | _ => .bad o.pos

/-- Is an operation carried out? 'none': not known. -/
def wantedS (ops : Array Oper) (a : List SV) (o : Oper) : Option (Bool × Bool) :=
  match o.guard with
  | none => some (true, true)
  | some (j, want) => (match (ops[j]?).bind (·.dst) with
    | none => some (false, true)
    | some d => (match a[d]? with
      | some (.bool b lit) => some (b == want, lit)
      | some (.tup _) => some (false, true)
      | _ => none))

/-- The same; 'ask': it hangs on slot d, which holds b. -/
inductive Want where
  | none
  | sure (w : Bool)
  | ask (d : Nat) (b want : Bool)

def wantS (ops : Array Oper) (a : List SV) (o : Oper) : Want :=
  match o.guard with
  | none => .sure true
  | some (j, want) => (match (ops[j]?).bind (·.dst) with
    | none => .sure false
    | some d => (match a[d]? with
      | some (.bool b lit) => if lit then .sure (b == want) else .ask d b want
      | some (.tup _) => .sure false
      | _ => .none))

/-- A slot that is known now. -/
def know (a : List SV) (d : Nat) (b : Bool) : List SV := a.set d (.bool b true)

/-- One way or both. -/
def byWant (w : Want) (a : List SV) (yes no : List SV → T) : T :=
  match w with
  | .none => .bad "a guard"
  | .sure true => yes a
  | .sure false => no a
  | .ask d b want => if want then .split b (yes (know a d true)) (no (know a d false)) else .split b (no (know a d true)) (yes (know a d false))

def xList (P : Program) (call : XCall) (ops : Array Oper) : List Oper → List SV → (List SV → SS → T) → SS → T
  | [], a, K, s => K a s
  | o :: rest, a, K, s => byWant (wantS ops a o) a
      (fun a => xOp P call o a s fun v s' => xList P call ops rest (putS a o.dst v) K s')
      (fun a => xList P call ops rest (putS a o.dst undefS) K s)

/-- The value of an operation that neither reads nor writes memory. -/
def pureVal (P : Program) (s : SS) (a : List SV) (o : Oper) : Option SV :=
  match o.op with
  | .move x => ev s a x
  | .assign x => ev s a x
  | .nilCheck x => (match ev s a x with
    | some (.ptr id off) => some (.ptr id off)
    | _ => none)
  | .fieldAddr t x f => (match ev s a x with
    | some (.ptr id off) => (match P.underlying t with
      | some (.struct fields) => (match fields[f]? with
        | some fd => (match P.info? fd.type with
          | some i => if i.size = 0 then none else some (.ptr id (off + fd.offset))
          | none => none)
        | none => none)
      | _ => none)
    | _ => none)
  | .extract x i => (match ev s a x with
    | some (.tup vs) => vs[i]?
    | _ => none)
  | .makeInterface t x => (match ev s a x, P.underlying t with
    | some _, some (.interface _) => none
    | some v, some _ => some (.ifc t v)
    | _, _ => none)
  | _ => none

/-- Operations that leave memory as it is. -/
def quietOp (o : Oper) : Bool :=
  match o.op with
  | .move _ | .assign _ | .load .. | .nilCheck _ | .binOp .. | .unOp .. | .makeInterface .. | .makeFunc .. | .slice .. | .fieldAddr .. | .field .. | .indexAddr .. | .index ..
  | .typeAssert .. | .extract .. | .build .. => true
  | .call c => (match c.callee with
    | .builtin .len => true
    | .builtin .cap => true
    | _ => false)
  | _ => false

/-- Every order that the edges allow. -/
def xAny (P : Program) (call : XCall) (ops : Array Oper) : Nat → List Bool → List SV → (List SV → SS → T) → SS → T
  | 0, listed, a, K, s => (match Region.ready .any ops listed.toArray with
    | [] => K a s
    | _ :: _ => .bad "region")
  | n + 1, listed, a, K, s =>
    let one (i : Nat) : T := (match ops[i]? with
      | none => .bad "region"
      | some o => byWant (wantS ops a o) a
          (fun a => xOp P call o a s fun v s' => xAny P call ops n (listed.set i true) (putS a o.dst v) K s')
          (fun a => xAny P call ops n (listed.set i true) (putS a o.dst undefS) K s))
    match Region.ready .any ops listed.toArray with
    | [] => K a s
    | r :: more =>
      match (r :: more).findSome? (fun i => (match ops[i]? with
        | some o => if o.guard.isNone && Region.free .any ops listed.toArray i then (pureVal P s a o).map fun v => (i, o.dst, v) else none
        | none => none)) with
      | some (i, dst, v) => xAny P call ops n (listed.set i true) (putS a dst v) K s
      | none => more.foldr (fun i t => .both (one i) t) (one r)

/-! ### Regions whose order does not matter -/

/-- Operations that leave the world as it is. -/
def calmOp (P : Program) (o : Oper) : Bool :=
  quietOp o || (match o.op with
    | .convert _ dst _ => (match P.underlying dst with
      | some (.int _) => true
      | some .string => true
      | _ => false)
    | _ => false)

/-- A tree that asks and then yields one value. -/
def askedVal : T → Option (SV × List Prop)
  | .leaf _ [v] _ => some (v, [])
  | .need p t => (match askedVal t with
    | some (v, ps) => some (v, p :: ps)
    | none => none)
  | _ => none

/-- The value of a calm operation, and what is asked for it. -/
def calmVal (P : Program) (s : SS) (a : List SV) (o : Oper) : Option (SV × List Prop) :=
  if calmOp P o then
    (match askedVal (xOp P (fun _ _ _ _ => .bad "") o a s (fun v s' => .leaf .normal [v] s')) with
    | some (v, ps) => if SV.okb s.n v then some (v, ps) else none
    | none => none)
  else none

/-- Memory of which nothing is known but the number of blocks. -/
def SS.blank (s : SS) : SS := { s with objs := s.objs.map fun _ => .unk, ext := false }

def needs : List Prop → T → T
  | [], t => t
  | p :: ps, t => .need p (needs ps t)

def edgesOf (o : Oper) : List Nat := (o.after.toList.filter fun e => Region.binds .any e).map (·.on)

/-- What i writes is written by no other and looked at by those alone that wait for i. -/
def neatPair (ops : Array Oper) (i : Nat) (oi : Oper) (j : Nat) (oj : Oper) : Bool :=
  match oi.dst with
  | none => true
  | some d => (i == j || oj.dst != some d) && (!(oj.looksAt ops).contains d || (i != j && (edgesOf oj).contains i))

def neat (ops : Array Oper) : Bool :=
  (List.range ops.size).all fun i => match ops[i]? with
    | none => true
    | some oi => (edgesOf oi).all (fun e => decide (e < i)) && (List.range ops.size).all fun j => match ops[j]? with
      | none => true
      | some oj => neatPair ops i oi j oj

/-- All that must be done ahead of an operation. -/
def closeUp (ops : Array Oper) : Nat → List Nat → List Nat
  | 0, m => m
  | i + 1, m => if m.contains i then closeUp ops i (m ++ (match ops[i]? with
      | some o => edgesOf o
      | none => [])) else closeUp ops i m

def behind (ops : Array Oper) (j : Nat) (oj : Oper) : List Nat := closeUp ops j (edgesOf oj)

mutual
/-- What must hold for two symbolic values to mean the same; 'none': not known. -/
def sameV : SV → SV → Option (List Prop)
  | .int k n l, .int k' n' l' => if k = k' then (if l && l' then (if n = n' then some [] else none) else some [n = n']) else none
  | .bool b l, .bool b' l' => if l && l' then (if b = b' then some [] else none) else some [b = b']
  | .str u l, .str u' l' => if l && l' then (if u.data.toList = u'.data.toList then some [] else none) else some [u = u']
  | .ptr i o, .ptr i' o' => if i = i' then some [o = o'] else none
  | .slc i o n c _ _, .slc i' o' n' c' _ _ => if i = i' then some [o = o' ∧ n = n' ∧ c = c'] else none
  | .ifc t v, .ifc t' v' => if t = t' then sameV v v' else none
  | .agg l, .agg l' => sameL l l'
  | .tup l, .tup l' => sameL l l'
  | .one v _, .one v' _ => some [v = v']
  | .raw v, .raw v' => some [v = v']
  | .xp a, .xp a' => some [a = a']
  | .xs a n c, .xs a' n' c' => some [a = a' ∧ n = n' ∧ c = c']
  | .fn f a c, .fn f' a' c' => (match sameL a a', sameL c c' with
    | some p, some q => some ((f = f') :: (p ++ q))
    | _, _ => none)
  | _, _ => none
def sameL : List SV → List SV → Option (List Prop)
  | [], [] => some []
  | v :: l, v' :: l' => (match sameV v v', sameL l l' with
    | some p, some q => some (p ++ q)
    | _, _ => none)
  | _, _ => none
end

/-- The value of an operation that may be done now; 'true': whatever the memory. -/
def takeVal (P : Program) (s : SS) (a : List SV) (o : Oper) : Option (SV × List Prop × Bool) :=
  match calmVal P s.blank a o with
  | some (v, ps) => some (v, ps, true)
  | none => (match calmVal P s a o with
    | some (v, ps) => some (v, ps, false)
    | none => none)

def takeOf (P : Program) (ops : Array Oper) (a : List SV) (s : SS) (i : Nat) : Option (Option Nat × SV × List Prop × Bool) :=
  match ops[i]? with
  | none => none
  | some o => (match wantedS ops a o with
    | some (w, true) => if w then (match takeVal P s a o with
        | some (v, ps, st) => some (o.dst, v, ps, st)
        | none => none)
      else some (o.dst, undefS, [], true)
    | _ => none)

/-- What was read early is read again, and is the same. -/
def recheck (P : Program) (ops : Array Oper) (a : List SV) (s : SS) : List Nat → T → T
  | [], t => t
  | k :: ks, t => match ops[k]? with
    | none => .bad "region"
    | some o => (match wantedS ops a o, calmVal P s a o with
      | some (true, true), some (v, ps) => (match o.dst with
        | none => needs ps (recheck P ops a s ks t)
        | some d => (match a[d]? with
          | none => needs ps (recheck P ops a s ks t)
          | some u => (match sameV v u with
            | some qs => needs ps (needs qs (recheck P ops a s ks t))
            | none => .bad "region: what was read has changed")))
      | _, _ => .bad "region: an order")

/-- Every order that the edges allow, where what only reads is done as early as may be. -/
def xMix (P : Program) (call : XCall) (ops : Array Oper) : Nat → List Bool → List SV → List Nat → (List SV → SS → T) → SS → T
  | 0, listed, a, pend, K, s => (match Region.ready .any ops listed.toArray with
    | [] => K a s
    | _ :: _ => .bad "region")
  | n + 1, listed, a, pend, K, s =>
    match Region.ready .any ops listed.toArray with
    | [] => K a s
    | r :: more =>
      match (r :: more).findSome? (fun i => (match takeOf P ops a s i with
        | some (dst, v, ps, st) => some (i, dst, v, ps, st)
        | none => none)) with
      | some (i, dst, v, ps, st) => needs ps (xMix P call ops n (listed.set i true) (putS a dst v) (if st then pend else i :: pend) K s)
      | none =>
        let one (i : Nat) : T := (match ops[i]? with
          | none => .bad "region"
          | some o => byWant (wantS ops a o) a
              (fun a => xOp P call o a s fun v s' => recheck P ops (putS a o.dst v) s' (pend.filter fun k => !(behind ops i o).contains k)
                (xMix P call ops n (listed.set i true) (putS a o.dst v) (pend.filter fun k => !(behind ops i o).contains k) K s'))
              (fun a => xMix P call ops n (listed.set i true) (putS a o.dst undefS) pend K s))
        more.foldr (fun i t => .both (one i) t) (one r)

def xDraw (P : Program) (call : XCall) (ops : Array Oper) (a : List SV) (K : List SV → SS → T) (s : SS) : T :=
  if neat ops then xMix P call ops ops.size (List.replicate ops.size false) a [] K s
  else xAny P call ops ops.size (List.replicate ops.size false) a K s

def xResults (P : Program) (a : List SV) (s : SS) : List ResultVar → (List SV → T) → T
  | [], K => K []
  | .tmp t :: rest, K => xResults P a s rest fun vs => K (a.getD t undefS :: vs)
  | .cell t ty :: rest, K => (match a.getD t undefS with
    | .ptr id off => xLoad P ty (.ptr id off) s fun v => xResults P a s rest fun vs => K (v :: vs)
    | _ => .bad "a result's cell")

def packS (vs : List SV) : SV :=
  match vs with
  | [v] => v
  | _ => .tup vs

def xCode (P : Program) (hk : Hooks) : Nat → FuncId → Code → List SV → (SE → List SV → SS → T) → SS → T
  | 0, _, _, _, _, _ => .bad "out of fuel"
  | n + 1, f₀, c, a, K, s =>
    let call : XCall := fun f args s' k => match hk.calls f with
      | some h => .call f args s' h.X (h.out args s') (fun x w' bs => k (h.out args s' x).1 (reS s' (h.out args s' x).2 w' bs))
      | none => (match P.funcs[f]? with
      | some fn => (match fn.body with
        | some body => xCode P hk n f body (args ++ List.replicate (fn.ntmps - args.length) undefS) (fun e a' s'' => (match e with
          | .normal => xResults P a' s'' fn.results.toList fun vs => k (packS vs) s''
          | .ret => xResults P a' s'' fn.results.toList fun vs => k (packS vs) s''
          | _ => .bad "a body's end")) s'
        | none => .bad "a function without a body")
      | none => .bad "no such function")
    match c with
    | .skip => K .normal a s
    | .label _ => K .normal a s
    | .seq x y => xCode P hk n f₀ x a (fun e a' s' => (match e with
      | .normal => xCode P hk n f₀ y a' K s'
      | e => K e a' s')) s
    | .cond x t f => (match ev s a x with
      | some (.bool b lit) => if lit then (if b then xCode P hk n f₀ t a K s else xCode P hk n f₀ f a K s) else (match x with
        | .tmp d => .split b (xCode P hk n f₀ t (know a d true) K s) (xCode P hk n f₀ f (know a d false) K s)
        | _ => .split b (xCode P hk n f₀ t a K s) (xCode P hk n f₀ f a K s))
      | _ => .bad "cond")
    | .block id c => xCode P hk n f₀ c a (fun e a' s' => (match e with
      | .exit i => if i = id then K .normal a' s' else K (.exit i) a' s'
      | e => K e a' s')) s
    | .loop body => (match hk.loops f₀ (codeKey body) with
      | some h => .loop f₀ body a s h.X (h.out a s) (fun x w' bs => K (h.out a s x).1 (h.out a s x).2.1 (reS s (h.out a s x).2.2 w' bs))
          h.Y (h.out' a s) (fun x w' bs => K (h.out' a s x).1 (h.out' a s x).2.1 (reS s (h.out' a s x).2.2 w' bs))
      | none => xCode P hk n f₀ body a (fun e a' s' => (match e with
        | .normal => xCode P hk n f₀ (.loop body) a' K s'
        | e => K e a' s')) s)
    | .exit id => K (.exit id) a s
    | .ret => K .ret a s
    | .region _ ops draw => if draw then (if Region.noSelect ops && P.follows .mixedOrders then xDraw P call ops a (fun a' s' => K .normal a' s') s else .bad "region: select")
        else xList P call ops ops.toList a (fun a' s' => K .normal a' s') s
    | _ => .bad "a form of code that is not taken"

/-- A whole call. -/
def xFunc (P : Program) (hk : Hooks) (n : Nat) (f : FuncId) (args : List SV) (s : SS) : T :=
  match P.funcs[f]? with
  | some fn => (match fn.body with
    | some body => xCode P hk n f body (args ++ List.replicate (fn.ntmps - args.length) undefS) (fun e a' s' => (match e with
      | .normal => xResults P a' s' fn.results.toList fun vs => .leaf .ret [packS vs] s'
      | .ret => xResults P a' s' fn.results.toList fun vs => .leaf .ret [packS vs] s'
      | _ => .bad "a body's end")) s
    | none => .bad "a function without a body")
  | none => .bad "no such function"

end Go.Rx
end

section
/- What the symbolic values and the tracked memory mean, and the laws on them. -/
set_option linter.unusedVariables false
set_option linter.unusedSimpArgs false
namespace Go.Rx

/-! ### What a symbolic value means -/

mutual
def SV.ok (n : Nat) : SV → Prop
  | .one _ _ => True
  | .int _ _ _ => True
  | .bool _ _ => True
  | .str _ _ => True
  | .ptr i _ => i < n
  | .slc i _ _ _ _ _ => i < n
  | .ifc _ v => SV.ok n v
  | .agg cs => okL n cs
  | .tup cs => okL n cs
  | .fn _ a c => okL n a ∧ okL n c
  | .raw _ => True
  | .xp _ => True
  | .xs _ _ _ => True
def okL (n : Nat) : List SV → Prop
  | [] => True
  | v :: vs => SV.ok n v ∧ okL n vs
end

mutual
theorem SV.den_agree {β β' : Nat → Nat} {n : Nat} (h : ∀ i, i < n → β' i = β i) : ∀ v : SV, v.ok n → v.den β' = v.den β
  | .one _ _, _ => rfl
  | .int _ _ _, _ => rfl
  | .bool _ _, _ => rfl
  | .str _ _, _ => rfl
  | .ptr i o, hv => by simp only [SV.den, h i hv]
  | .slc i o n c _ _, hv => by simp only [SV.den, h i hv]
  | .ifc t v, hv => by simp only [SV.den, SV.den_agree h v hv]
  | .agg cs, hv => by simp only [SV.den, denL_agree h cs hv]
  | .tup cs, hv => by simp only [SV.den, denL_agree h cs hv]
  | .fn f a c, hv => by simp only [SV.den, denL_agree h a hv.1, denL_agree h c hv.2]
  | .raw _, _ => rfl
  | .xp _, _ => rfl
  | .xs _ _ _, _ => rfl
theorem denL_agree {β β' : Nat → Nat} {n : Nat} (h : ∀ i, i < n → β' i = β i) : ∀ l : List SV, okL n l → denL β' l = denL β l
  | [], _ => rfl
  | v :: vs, hv => by simp only [denL, SV.den_agree h v hv.1, denL_agree h vs hv.2]
end

mutual
theorem SV.ok_mono {n m : Nat} (h : n ≤ m) : ∀ v : SV, v.ok n → v.ok m
  | .one _ _, _ => trivial
  | .int _ _ _, _ => trivial
  | .bool _ _, _ => trivial
  | .str _ _, _ => trivial
  | .ptr i o, hv => Nat.lt_of_lt_of_le hv h
  | .slc i o n c _ _, hv => Nat.lt_of_lt_of_le hv h
  | .ifc t v, hv => SV.ok_mono h v hv
  | .agg cs, hv => okL_mono h cs hv
  | .tup cs, hv => okL_mono h cs hv
  | .fn f a c, hv => ⟨okL_mono h a hv.1, okL_mono h c hv.2⟩
  | .raw _, _ => trivial
  | .xp _, _ => trivial
  | .xs _ _ _, _ => trivial
theorem okL_mono {n m : Nat} (h : n ≤ m) : ∀ l : List SV, okL n l → okL m l
  | [], _ => trivial
  | v :: vs, hv => ⟨SV.ok_mono h v hv.1, okL_mono h vs hv.2⟩
end

theorem denL_map (β : Nat → Nat) (l : List SV) : denL β l = l.map (SV.den β) := by
  induction l with
  | nil => rfl
  | cons v vs ih => simp only [denL, List.map_cons, ih]

theorem denL_length (β : Nat → Nat) (l : List SV) : (denL β l).length = l.length := by simp [denL_map]

theorem denL_append (β : Nat → Nat) (a b : List SV) : denL β (a ++ b) = denL β a ++ denL β b := by simp [denL_map]

theorem denL_get (β : Nat → Nat) (l : List SV) (i : Nat) : (denL β l)[i]? = (l[i]?).map (SV.den β) := by simp [denL_map]

theorem denL_set (β : Nat → Nat) (l : List SV) (i : Nat) (v : SV) : denL β (l.set i v) = (denL β l).set i (v.den β) := by simp [denL_map]

theorem okL_iff (n : Nat) (l : List SV) : okL n l ↔ ∀ v ∈ l, v.ok n := by
  induction l with
  | nil => simp [okL]
  | cons v vs ih => simp [okL, ih]

theorem okL_append {n : Nat} {a b : List SV} (ha : okL n a) (hb : okL n b) : okL n (a ++ b) := by
  rw [okL_iff] at *
  intro v hv
  rcases List.mem_append.1 hv with h | h
  · exact ha v h
  · exact hb v h

theorem okL_get {n : Nat} {l : List SV} (h : okL n l) {i : Nat} {v : SV} (hv : l[i]? = some v) : v.ok n :=
  (okL_iff n l).1 h v (List.mem_of_getElem? hv)

theorem okL_set {n : Nat} {l : List SV} (h : okL n l) {v : SV} (hv : v.ok n) (i : Nat) : okL n (l.set i v) := by
  rw [okL_iff] at *
  intro x hx
  rcases List.mem_or_eq_of_mem_set hx with h' | h'
  · exact h x h'
  · exact h' ▸ hv

/-! ### One-cell values, cells of a value -/

theorem SV.isOne_den {v : SV} (h : v.isOne = true) (β : Nat → Nat) : (v.den β).oneCell' = true := by
  cases v with
  | one v hv => exact hv
  | agg cs => cases h
  | tup cs => cases h
  | raw v => cases h
  | _ => rfl

theorem denL_raw (β : Nat → Nat) (l : List Value) : denL β (l.map .raw) = l := by
  induction l with
  | nil => rfl
  | cons v vs ih => simp only [List.map_cons, denL, SV.den, ih]

theorem SV.cells_den (v : SV) (β : Nat → Nat) : (v.den β).cells = (denL β v.cells).toArray := by
  cases v with
  | one v h => cases v <;> first | (cases h; done) | rfl
  | raw v => simp only [SV.den, SV.cells, denL_raw]
  | _ => simp [SV.den, SV.cells, Value.cells, denL]

theorem okL_raw (n : Nat) (l : List Value) : okL n (l.map .raw) := by
  induction l with
  | nil => trivial
  | cons v vs ih => exact ⟨trivial, ih⟩

theorem SV.cells_ok {v : SV} {n : Nat} (h : v.ok n) : okL n v.cells := by
  cases v with
  | raw v => exact okL_raw n _
  | _ => simp_all [SV.cells, SV.ok, okL]

/-! ### Constants -/

theorem SV.cellOf_den {v : Value} (h : v.oneCell' = true) (β : Nat → Nat) : (SV.cellOf v).den β = v := by
  cases v with
  | iface t x => cases x <;> simp [SV.cellOf, SV.cell, SV.den]
  | _ => simp_all [SV.cellOf, SV.cell, SV.den, Value.oneCell']

theorem SV.cellOf_ok (v : Value) (n : Nat) : (SV.cellOf v).ok n := by
  cases v with
  | iface t x => cases x <;> simp [SV.cellOf, SV.cell, SV.ok]
  | _ => simp [SV.cellOf, SV.cell, SV.ok, okL]

theorem SV.ofValue_den {v : Value} {s : SV} (h : SV.ofValue v = some s) (β : Nat → Nat) : s.den β = v := by
  cases v with
  | agg cs =>
    simp only [SV.ofValue] at h
    split at h
    · rename_i hall
      simp only [Option.some.injEq] at h
      subst h
      simp only [SV.den, denL_map, List.map_map]
      have : (cs.toList.map (SV.den β ∘ SV.cellOf)) = cs.toList := by
        conv => rhs; rw [← List.map_id cs.toList]
        apply List.map_congr_left
        intro x hx
        exact SV.cellOf_den (List.all_eq_true.1 hall x hx) β
      rw [this]
    · cases h
  | tuple cs =>
    simp only [SV.ofValue] at h
    split at h
    · rename_i hemp
      simp only [Option.some.injEq] at h
      subst h
      have : cs = #[] := by
        have := List.isEmpty_iff.1 hemp
        exact Array.ext' (by simpa using this)
      subst this
      simp [SV.den, denL]
    · cases h
  | _ => simp only [SV.ofValue, Option.some.injEq] at h; subst h; exact SV.cellOf_den rfl β

theorem SV.ofValue_ok {v : Value} {s : SV} (h : SV.ofValue v = some s) (n : Nat) : s.ok n := by
  cases v with
  | agg cs =>
    simp only [SV.ofValue] at h
    split at h
    · simp only [Option.some.injEq] at h
      subst h
      show okL n _
      rw [okL_iff]
      intro x hx
      obtain ⟨y, _, rfl⟩ := List.mem_map.1 hx
      exact SV.cellOf_ok y n
    · cases h
  | tuple cs =>
    simp only [SV.ofValue] at h
    split at h
    · simp only [Option.some.injEq] at h; subst h; trivial
    · cases h
  | _ => simp only [SV.ofValue, Option.some.injEq] at h; subst h; exact SV.cellOf_ok _ n

/-! ### takeAt, putAt -/

theorem takeN_spec : ∀ (n : Nat) (l r : List SV), takeN n l = some r → n ≤ l.length ∧ r = l.take n
  | 0, l, r, h => by simp [takeN] at h; simp [h]
  | n + 1, [], r, h => by simp [takeN] at h
  | n + 1, x :: xs, r, h => by
    simp only [takeN] at h
    cases hx : takeN n xs with
    | none => rw [hx] at h; cases h
    | some l =>
      rw [hx] at h
      simp only [Option.some.injEq] at h
      obtain ⟨h1, h2⟩ := takeN_spec n xs l hx
      subst h
      simp [h1, h2]

theorem takeAt_spec : ∀ (o n : Nat) (l r : List SV), takeAt o n l = some r → o + n ≤ l.length ∧ r = (l.drop o).take n
  | 0, n, l, r, h => by
    simp only [takeAt] at h
    obtain ⟨h1, h2⟩ := takeN_spec n l r h
    simp [h1, h2]
  | o + 1, n, [], r, h => by simp [takeAt] at h
  | o + 1, n, x :: xs, r, h => by
    simp only [takeAt] at h
    obtain ⟨h1, h2⟩ := takeAt_spec o n xs r h
    simp only [List.length_cons, List.drop_succ_cons]
    exact ⟨by omega, h2⟩

theorem takeAt_get {o n : Nat} {l r : List SV} (h : takeAt o n l = some r) (j : Nat) (hj : j < n) : r[j]? = l[o + j]? := by
  obtain ⟨h1, rfl⟩ := takeAt_spec o n l r h
  rw [List.getElem?_take_of_lt hj, List.getElem?_drop]

theorem takeAt_length {o n : Nat} {l r : List SV} (h : takeAt o n l = some r) : r.length = n := by
  obtain ⟨h1, rfl⟩ := takeAt_spec o n l r h
  simp; omega

theorem takeAt_ok {o n m : Nat} {l r : List SV} (h : takeAt o n l = some r) (hl : okL m l) : okL m r := by
  obtain ⟨h1, rfl⟩ := takeAt_spec o n l r h
  rw [okL_iff] at *
  intro v hv
  exact hl v (List.mem_of_mem_drop (List.mem_of_mem_take hv))

/-- The cells from an offset on, one after the other. -/
def setMany (l : List Value) (o : Nat) : List Value → List Value
  | [] => l
  | v :: vs => setMany (l.set o v) (o + 1) vs

theorem setMany_cons (x : Value) (l : List Value) (o : Nat) (vs : List Value) : setMany (x :: l) (o + 1) vs = x :: setMany l o vs := by
  induction vs generalizing l o with
  | nil => rfl
  | cons v vs ih => simp only [setMany, List.set_cons_succ, ih]

theorem putAt_spec (β : Nat → Nat) : ∀ (o : Nat) (vs l r : List SV), putAt o vs l = some r →
    o + vs.length ≤ l.length ∧ r.length = l.length ∧ (∀ rest, denL β r ++ rest = setMany (denL β l ++ rest) o (denL β vs)) ∧ (∀ n, okL n vs → okL n l → okL n r)
  | 0, [], l, r, h => by
    cases l <;> simp [putAt] at h <;> subst h <;> simp [denL, setMany]
  | 0, v :: vs, [], r, h => by simp [putAt] at h
  | 0, v :: vs, x :: l, r, h => by
    simp only [putAt] at h
    cases hr : putAt 0 vs l with
    | none => rw [hr] at h; cases h
    | some q =>
      rw [hr] at h
      simp only [Option.some.injEq] at h
      obtain ⟨h1, h2, h3, h4⟩ := putAt_spec β 0 vs l q hr
      subst h
      refine ⟨by simp; omega, by simp [h2], fun rest => ?_, fun n hn hl => ⟨hn.1, h4 n hn.2 hl.2⟩⟩
      simp only [denL, List.cons_append, setMany, List.set_cons_zero, setMany_cons, h3]
  | o + 1, vs, [], r, h => by cases vs <;> simp [putAt] at h
  | o + 1, vs, x :: l, r, h => by
    have h' : (match putAt o vs l with | some r => some (x :: r) | none => none) = some r := by
      cases vs <;> (simp only [putAt] at h; exact h)
    cases hr : putAt o vs l with
    | none => rw [hr] at h'; cases h'
    | some q =>
      rw [hr] at h'
      simp only [Option.some.injEq] at h'
      obtain ⟨h1, h2, h3, h4⟩ := putAt_spec β o vs l q hr
      subst h'
      refine ⟨by simp; omega, by simp [h2], fun rest => ?_, fun n hn hl => ⟨hl.1, h4 n hn hl.2⟩⟩
      simp only [denL, List.cons_append, setMany_cons, h3]

mutual
theorem SV.okb_ok {n : Nat} : ∀ v : SV, v.okb n = true → v.ok n
  | .one _ _, _ => trivial
  | .int _ _ _, _ => trivial
  | .bool _ _, _ => trivial
  | .str _ _, _ => trivial
  | .ptr i _, h => of_decide_eq_true (p := i < n) h
  | .slc i _ _ _ _ _, h => of_decide_eq_true (p := i < n) h
  | .ifc _ v, h => SV.okb_ok v (by simpa [SV.okb] using h)
  | .agg cs, h => okbL_ok cs (by simpa [SV.okb] using h)
  | .tup cs, h => okbL_ok cs (by simpa [SV.okb] using h)
  | .fn _ a c, h => by
    simp only [SV.okb, Bool.and_eq_true] at h
    exact ⟨okbL_ok a h.1, okbL_ok c h.2⟩
  | .raw _, _ => trivial
  | .xp _, _ => trivial
  | .xs _ _ _, _ => trivial
theorem okbL_ok {n : Nat} : ∀ l : List SV, okbL n l = true → okL n l
  | [], _ => trivial
  | v :: vs, h => by
    simp only [okbL, Bool.and_eq_true] at h
    exact ⟨SV.okb_ok v h.1, okbL_ok vs h.2⟩
end

theorem SV.den_closed {v : SV} (h : v.ok 0) (β : Nat → Nat) : v.den β = v.den id := SV.den_agree (n := 0) (fun i hi => absurd hi (Nat.not_lt_zero i)) v h

theorem denL_closed {l : List SV} (h : okL 0 l) (β : Nat → Nat) : denL β l = denL id l := denL_agree (n := 0) (fun i hi => absurd hi (Nat.not_lt_zero i)) l h

theorem closedL_spec {l : List SV} {vs : List Value} (h : closedL l = some vs) (β : Nat → Nat) : denL β l = vs ∧ okL 0 l := by
  unfold closedL at h
  split at h
  · rename_i hok
    simp only [Option.some.injEq] at h
    have := okbL_ok l hok
    exact ⟨by rw [denL_closed this, h], this⟩
  · cases h

end Go.Rx
end

section
/- Tracked memory: what a symbolic state says of a world; loads, stores and new blocks keep it. -/
set_option linter.unusedVariables false
set_option linter.unusedSimpArgs false
namespace Go.Rx

def SObj.At (β : Nat → Nat) (o : SObj) (x : Option Obj) : Prop :=
  match o with
  | .cells cs tot e lo hi => ∃ rest : List Value, x = some (.cells (denL β cs ++ rest).toArray e (lo, hi)) ∧ cs.length + rest.length = tot
  | .ints k l e lo hi => x = some (.cells (l.map (Value.int k)).toArray e (lo, hi))
  | .other ob => x = some ob
  | .unk => True
  | .vals l tot e lo hi => ∃ rest : List Value, x = some (.cells (l ++ rest).toArray e (lo, hi)) ∧ l.length + rest.length = tot

def SObj.ok (n : Nat) (o : SObj) : Prop :=
  match o with
  | .cells cs _ _ _ _ => okL n cs
  | _ => True

theorem SObj.At_agree {β β' : Nat → Nat} {n : Nat} (h : ∀ i, i < n → β' i = β i) {o : SObj} (ho : o.ok n) {x : Option Obj} (hx : o.At β x) : o.At β' x := by
  cases o with
  | cells cs tot e lo hi =>
    simp only [SObj.At] at *
    rw [denL_agree h cs ho]
    exact hx
  | _ => exact hx

theorem SObj.ok_mono {n m : Nat} (h : n ≤ m) {o : SObj} (ho : o.ok n) : o.ok m := by
  cases o with
  | cells cs tot e lo hi => exact okL_mono h cs ho
  | _ => trivial

structure Ctx where
  P : Program
  β0 : Nat → Nat
  n0 : Nat
  Q : SE → List Value → World → Prop

/-- What is known of memory that is not tracked. -/
structure Old (β : Nat → Nat) (s : SS) (w : World) : Prop where
  fr : ∀ b, b < s.w0.heap.size → (∀ i, i < s.n → β i ≠ b) → w.heap[b]? = s.w0.heap[b]?
  sz : s.w0.heap.size ≤ w.heap.size
  tape : w.tape = s.w0.tape
  os : w.os = s.w0.os
  out : w.output = s.w0.output
  pre : ∀ i b, s.pre[i]? = some b → β i = b
  pren : s.pre.length ≤ s.n
  new : ∀ i, s.pre.length ≤ i → i < s.n → s.w0.heap.size ≤ β i

structure St (Γ : Ctx) (β : Nat → Nat) (s : SS) (w : World) : Prop where
  lt : ∀ i, i < s.n → β i < w.heap.size
  inj : ∀ i j, i < s.n → j < s.n → β i = β j → i = j
  at_ : ∀ (i : Nat) (o : SObj), s.objs[i]? = some o → o.At β w.heap[β i]?
  ok : ∀ (i : Nat) (o : SObj), s.objs[i]? = some o → o.ok s.n
  gl : ∀ p, p ∈ s.gl → p.2 < s.n ∧ β p.2 = p.1
  old : s.ext = true → Old β s w
  base : ∀ i, i < Γ.n0 → β i = Γ.β0 i
  n0 : Γ.n0 ≤ s.n

theorem lt_of_get {s : SS} {i : Nat} {o : SObj} (h : s.objs[i]? = some o) : i < s.n := (List.getElem?_eq_some_iff.1 h).1

section
variable {Γ : Ctx} {β : Nat → Nat} {s : SS} {w : World}

/-- The worlds agree but for the count of draws. -/
structure Like (w w' : World) : Prop where
  heap : w'.heap = w.heap
  tape : w'.tape = w.tape
  os : w'.os = w.os
  out : w'.output = w.output

theorem St.like (h : St Γ β s w) {w' : World} (hl : Like w w') : St Γ β s w' where
  lt := by rw [hl.heap]; exact h.lt
  inj := h.inj
  at_ := by rw [hl.heap]; exact h.at_
  ok := h.ok
  gl := h.gl
  old := fun he => let o := h.old he
    { fr := by rw [hl.heap]; exact o.fr
      sz := by rw [hl.heap]; exact o.sz
      tape := hl.tape.trans o.tape
      os := hl.os.trans o.os
      out := hl.out.trans o.out
      pre := o.pre
      pren := o.pren
      new := o.new }
  base := h.base
  n0 := h.n0

def upd (β : Nat → Nat) (n b : Nat) : Nat → Nat := fun i => if i = n then b else β i

theorem upd_lt {β : Nat → Nat} {n b i : Nat} (h : i < n) : upd β n b i = β i := by
  unfold upd; rw [if_neg (by omega)]

theorem upd_at {β : Nat → Nat} {n b : Nat} : upd β n b n = b := by
  unfold upd; rw [if_pos rfl]

theorem SS.n_new (s : SS) (o : SObj) : (s.new o).n = s.n + 1 := by simp [SS.n, SS.new]
theorem SS.n_set (s : SS) (i : Nat) (o : SObj) : (s.set i o).n = s.n := by simp [SS.n, SS.set]

theorem heap_alloc (w : World) (ob : Obj) : (w.alloc ob).heap = w.heap.push ob := rfl

theorem get_new (s : SS) (o : SObj) : (s.objs ++ [o])[s.n]? = some o := by simp [SS.n]

theorem St.alloc (h : St Γ β s w) {o : SObj} {ob : Obj} (hat : o.At (upd β s.n w.heap.size) (some ob)) (hok : o.ok (s.n + 1)) :
    St Γ (upd β s.n w.heap.size) (s.new o) (w.alloc ob) where
  lt := by
    intro i hi
    rw [SS.n_new] at hi
    simp only [World.size_alloc]
    by_cases hin : i = s.n
    · subst hin; rw [upd_at]; omega
    · rw [upd_lt (by omega)]; have := h.lt i (by omega); omega
  inj := by
    intro i j hi hj he
    rw [SS.n_new] at hi hj
    by_cases hin : i = s.n <;> by_cases hjn : j = s.n
    · omega
    · subst hin; rw [upd_at, upd_lt (by omega)] at he; have := h.lt j (by omega); omega
    · subst hjn; rw [upd_at, upd_lt (by omega)] at he; have := h.lt i (by omega); omega
    · rw [upd_lt (by omega), upd_lt (by omega)] at he; exact h.inj i j (by omega) (by omega) he
  at_ := by
    intro i o' hi
    simp only [SS.new] at hi
    by_cases hin : i < s.n
    · rw [List.getElem?_append_left hin] at hi
      have h1 := h.at_ i o' hi
      rw [upd_lt hin]
      have h2 : (w.alloc ob).heap[β i]? = w.heap[β i]? := by
        have := h.lt i hin
        rw [heap_alloc, Array.getElem?_push, if_neg (Nat.ne_of_lt this)]
      rw [h2]
      exact SObj.At_agree (fun j hj => upd_lt hj) (h.ok i o' hi) h1
    · have hlt := (List.getElem?_eq_some_iff.1 hi).1
      simp at hlt
      have hin' : i = s.n := by unfold SS.n at *; omega
      subst hin'
      rw [get_new] at hi
      simp only [Option.some.injEq] at hi
      subst hi
      rw [upd_at, heap_alloc, Array.getElem?_push, if_pos rfl]
      exact hat
  ok := by
    intro i o' hi
    rw [SS.n_new]
    simp only [SS.new] at hi
    by_cases hin : i < s.n
    · rw [List.getElem?_append_left hin] at hi
      exact SObj.ok_mono (Nat.le_succ _) (h.ok i o' hi)
    · have hlt := (List.getElem?_eq_some_iff.1 hi).1
      simp at hlt
      have hin' : i = s.n := by unfold SS.n at *; omega
      subst hin'
      rw [get_new] at hi
      simp only [Option.some.injEq] at hi
      subst hi
      exact hok
  gl := by
    intro p hp
    obtain ⟨h1, h2⟩ := h.gl p hp
    rw [SS.n_new, upd_lt h1]
    exact ⟨by omega, h2⟩
  old := fun he => by
    have o' := h.old he
    refine { fr := ?_, sz := ?_, tape := o'.tape, os := o'.os, out := o'.out, pre := ?_, pren := ?_, new := ?_ }
    · intro b hb hne
      have h1 : (w.alloc ob).heap[b]? = w.heap[b]? := by
        have := o'.sz
        rw [heap_alloc, Array.getElem?_push, if_neg (Nat.ne_of_lt (Nat.lt_of_lt_of_le hb this))]
      rw [h1]
      refine o'.fr b hb fun i hi => ?_
      have := hne i (by rw [SS.n_new]; omega)
      rwa [upd_lt hi] at this
    · simp only [World.size_alloc]; exact Nat.le_succ_of_le o'.sz
    · intro i b hb
      have hlt : i < s.pre.length := (List.getElem?_eq_some_iff.1 hb).1
      have hle := o'.pren
      rw [upd_lt (by omega)]
      exact o'.pre i b hb
    · rw [SS.n_new]; exact Nat.le_succ_of_le o'.pren
    · intro i hi hin
      rw [SS.n_new] at hin
      by_cases hc : i = s.n
      · subst hc; rw [upd_at]; exact o'.sz
      · rw [upd_lt (by omega)]; exact o'.new i hi (by omega)
  base := fun i hi => by rw [upd_lt (Nat.lt_of_lt_of_le hi h.n0)]; exact h.base i hi
  n0 := by rw [SS.n_new]; exact Nat.le_succ_of_le h.n0

/-- One tracked block holds something else now. -/
structure Only (w w' : World) (b : Nat) : Prop where
  size : w'.heap.size = w.heap.size
  other : ∀ b', b' ≠ b → w'.heap[b']? = w.heap[b']?
  tape : w'.tape = w.tape
  os : w'.os = w.os
  out : w'.output = w.output

theorem St.put (h : St Γ β s w) {i : Nat} {o o' : SObj} (hi : s.objs[i]? = some o) {w' : World} (hw : Only w w' (β i)) (hat : o'.At β w'.heap[β i]?) (hok : o'.ok s.n) :
    St Γ β (s.set i o') w' where
  lt := by
    intro j hj
    rw [SS.n_set] at hj
    rw [hw.size]; exact h.lt j hj
  inj := by
    intro j k hj hk
    rw [SS.n_set] at hj hk
    exact h.inj j k hj hk
  at_ := by
    intro j o'' hj
    simp only [SS.set] at hj
    by_cases hji : j = i
    · subst hji
      have hlt := lt_of_get hi
      rw [List.getElem?_set_self hlt] at hj
      simp only [Option.some.injEq] at hj
      subst hj
      exact hat
    · rw [List.getElem?_set_ne (Ne.symm hji)] at hj
      rw [hw.other (β j) fun he => hji (h.inj j i (lt_of_get hj) (lt_of_get hi) he)]
      exact h.at_ j o'' hj
  ok := by
    intro j o'' hj
    rw [SS.n_set]
    simp only [SS.set] at hj
    by_cases hji : j = i
    · subst hji
      have hlt := lt_of_get hi
      rw [List.getElem?_set_self hlt] at hj
      simp only [Option.some.injEq] at hj
      subst hj
      exact hok
    · rw [List.getElem?_set_ne (Ne.symm hji)] at hj
      exact h.ok j o'' hj
  gl := by
    intro p hp
    rw [SS.n_set]
    exact h.gl p hp
  old := fun he => by
    have o' := h.old he
    refine { fr := ?_, sz := ?_, tape := hw.tape.trans o'.tape, os := hw.os.trans o'.os, out := hw.out.trans o'.out, pre := o'.pre, pren := ?_, new := ?_ }
    · intro b hb hne
      rw [hw.other b (fun he => hne i (by rw [SS.n_set]; exact lt_of_get hi) he.symm)]
      exact o'.fr b hb fun j hj => hne j (by rw [SS.n_set]; exact hj)
    · rw [hw.size]; exact o'.sz
    · rw [SS.n_set]; exact o'.pren
    · intro j hj hjn
      rw [SS.n_set] at hjn
      exact o'.new j hj hjn
  base := h.base
  n0 := by rw [SS.n_set]; exact h.n0

/-- A block that is not tracked is as it was. -/
theorem Old.heap {β : Nat → Nat} {s : SS} {w : World} (h : Old β s w) {b : Nat} (hb : b < s.w0.heap.size) (hp : b ∉ s.pre) : w.heap[b]? = s.w0.heap[b]? := by
  refine h.fr b hb fun i hi he => ?_
  by_cases hl : i < s.pre.length
  · have h1 := h.pre i _ (List.getElem?_eq_getElem hl)
    exact hp (by rw [← he, h1]; exact List.getElem_mem hl)
  · have := h.new i (by omega) hi
    omega

theorem Old.cell {β : Nat → Nat} {s : SS} {w : World} (h : Old β s w) {a : Addr} (hb : a.block < s.w0.heap.size) (hp : a.block ∉ s.pre) : w.cell? a = s.w0.cell? a := by
  simp only [World.cell?, h.heap hb hp]

theorem add_block (a : Addr) (n : Nat) : (a.add n).block = a.block := by unfold Addr.add; split <;> rfl

/-! ### Loads -/

theorem add_plain (b off j : Nat) : (Addr.mk b off none).add j = ⟨b, off + j, none⟩ := by
  unfold Addr.add
  split
  · rename_i h; subst h; rfl
  · rfl

theorem St.cell (h : St Γ β s w) {id tot lo hi : Nat} {cs : List SV} {e : TypeId} (ho : s.objs[id]? = some (.cells cs tot e lo hi)) {off : Nat} {v : SV} (hv : cs[off]? = some v) :
    w.cell? ⟨β id, off, none⟩ = some (v.den β) := by
  obtain ⟨rest, h1, _⟩ := h.at_ id _ ho
  have hlt := (List.getElem?_eq_some_iff.1 hv).1
  simp only [World.cell?, h1]
  simp [List.getElem?_append_left (show off < (denL β cs).length by rw [denL_length]; exact hlt), denL_get, hv]

theorem St.icell (h : St Γ β s w) {id lo hi : Nat} {k : IntKind} {l : List Int} {e : TypeId} (ho : s.objs[id]? = some (.ints k l e lo hi)) {off : Nat} (hv : off < l.length) :
    w.cell? ⟨β id, off, none⟩ = some (.int k (l.getD off 0)) := by
  have h1 := h.at_ id _ ho
  simp only [SObj.At] at h1
  simp only [World.cell?, h1]
  simp [hv, List.getD]

variable {P : Program}

theorem run_isAgg {t : TypeId} {r : Option Nat} (h : aggSize P t = some r) : (isAgg t).run P w = .ok r.isSome w := by
  unfold aggSize at h
  unfold isAgg underlying
  cases hu : P.underlying t with
  | none => rw [hu] at h; cases h
  | some d =>
    rw [hu] at h
    cases d <;> simp_all <;> (obtain ⟨i, _, rfl⟩ := h; rfl)

theorem run_sizeOf {t : TypeId} {i : TypeInfo} (h : P.info? t = some i) : (sizeOf t).run P w = .ok i.size w := by
  simp [sizeOf, typeInfo, h]

theorem run_sizeOf_agg {t : TypeId} {n : Nat} (h : aggSize P t = some (some n)) : (sizeOf t).run P w = .ok n w := by
  unfold aggSize at h
  cases hu : P.underlying t with
  | none => rw [hu] at h; cases h
  | some d =>
    rw [hu] at h
    cases d <;> simp at h <;> (obtain ⟨i, hi, rfl⟩ := h; exact run_sizeOf hi)

theorem run_loadVar_one {t : TypeId} (h : aggSize P t = some none) {a : Addr} {v : Value} (hc : w.cell? a = some v) : (loadVar t a).run P w = .ok v w := by
  unfold loadVar
  simp only [Sem.run_bind, run_isAgg h, Result.andThen_ok]
  simp [run_load, hc]

theorem run_loadVar_agg {t : TypeId} {n : Nat} (h : aggSize P t = some (some n)) {b off : Nat} {cs : List Value} (hl : cs.length = n) (hc : ∀ j v, cs[j]? = some v → w.cell? ⟨b, off + j, none⟩ = some v) :
    (loadVar t ⟨b, off, none⟩).run P w = .ok (.agg cs.toArray) w := by
  unfold loadVar
  simp only [Sem.run_bind, run_isAgg h, Result.andThen_ok]
  have := run_loadCells_list (P := P) w ⟨b, off, none⟩ cs (fun j v hv => by rw [add_plain]; exact hc j v hv)
  simp [run_sizeOf_agg h, ← hl, this]

theorem run_loadVar_aggA {t : TypeId} {n : Nat} (h : aggSize P t = some (some n)) {a : Addr} {cs : List Value} (hl : cs.length = n) (hc : ∀ j v, cs[j]? = some v → w.cell? (a.add j) = some v) :
    (loadVar t a).run P w = .ok (.agg cs.toArray) w := by
  unfold loadVar
  simp only [Sem.run_bind, run_isAgg h, Result.andThen_ok]
  have := run_loadCells_list (P := P) w a cs hc
  simp [run_sizeOf_agg h, ← hl, this]

theorem extOne_ok {P : Program} {t : TypeId} {w : World} {a : Addr} {v : SV} (h : extOne P t w a = some v) : v.ok 0 := by
  unfold extOne at h
  split at h <;> first | (simp only [Option.some.injEq] at h; subst h; trivial) | cases h

theorem extCells_ok {P : Program} {w : World} {a : Addr} : ∀ (ts : List TypeId) (j : Nat) (vs : List SV), extCells P w a ts j = some vs → okL 0 vs
  | [], j, vs, h => by simp only [extCells, Option.some.injEq] at h; subst h; trivial
  | t :: ts, j, vs, h => by
    unfold extCells at h
    split at h
    · rename_i v vs' hv hvs
      simp only [Option.some.injEq] at h
      subst h
      exact ⟨extOne_ok hv, extCells_ok ts (j + 1) vs' hvs⟩
    · cases h

/-! ### Stores -/

theorem run_storeCells (b off : Nat) (e : TypeId) (lo hi : Nat) : ∀ (vs : List Value) (i : Nat) (w : World) (c : List Value),
    w.heap[b]? = some (.cells c.toArray e (lo, hi)) → (∀ v ∈ vs, v.oneCell' = true) → off + i + vs.length ≤ c.length → (hi ≤ off + i ∨ off + i + vs.length ≤ lo ∨ hi ≤ lo) →
    ∃ w', (storeCells ⟨b, off, none⟩ vs i).run P w = .ok () w' ∧ w'.heap[b]? = some (.cells (setMany c (off + i) vs).toArray e (lo, hi)) ∧ Only w w' b
  | [], i, w, c, hb, _, _, _ => ⟨w, rfl, hb, rfl, fun _ _ => rfl, rfl, rfl, rfl⟩
  | v :: vs, i, w, c, hb, hv, hlen, hfz => by
    simp only [List.length_cons] at hlen hfz
    have hc : w.cell? ⟨b, off + i, none⟩ = some c[off + i] := by
      simp only [World.cell?, hb]
      simp [show off + i < c.length by omega]
    have hf : w.frozen? ⟨b, off + i, none⟩ = false := by
      simp only [World.frozen?, hb, Bool.and_eq_false_iff, decide_eq_false_iff_not]
      omega
    have hlt : b < w.heap.size := by
      rcases Nat.lt_or_ge b w.heap.size with h | h
      · exact h
      · rw [Array.getElem?_eq_none h] at hb; cases hb
    have hb' : (w.setCell ⟨b, off + i, none⟩ v).heap[b]? = some (.cells (c.set (off + i) v).toArray e (lo, hi)) := by
      simp only [World.setCell, Array.getElem?_modify, if_true, hb, Option.map_some]
      simp
    obtain ⟨w', h1, h2, h3⟩ := run_storeCells b off e lo hi vs (i + 1) (w.setCell ⟨b, off + i, none⟩ v) (c.set (off + i) v) hb' (fun x hx => hv x (List.mem_cons_of_mem _ hx)) (by simp; omega) (by omega)
    refine ⟨w', ?_, ?_, ?_⟩
    · simp only [storeCells, Sem.run_bind, add_plain]
      rw [run_store P w _ v _ (hv v (List.mem_cons_self ..)), hc]
      simp only [hf, Bool.false_eq_true, if_false, Result.andThen_ok]
      exact h1
    · rw [h2]; simp only [setMany]; rfl
    · refine ⟨h3.size.trans (World.size_setCell _ _ _), fun b' hb'' => ?_, h3.tape, h3.os, h3.out⟩
      rw [h3.other b' hb'']
      simp [World.setCell, Array.getElem?_modify, Ne.symm hb'']

end
end Go.Rx
end

section
/- The tree of ways holds; the operations' laws. -/
set_option linter.unusedVariables false
set_option linter.unusedSimpArgs false
namespace Go.Rx

def SE.exit' : SE → Exit
  | .normal => .normal
  | .exit i => .exit i
  | .goto l => .goto l
  | .ret => .ret

/-- A frame of symbolic values. -/
def actS (β : Nat → Nat) (a : List SV) : Act := { tmps := (denL β a).toArray, defers := [] }

/-- What is known behind a piece of work: the tracked blocks of before are where they were, and more may have come. -/
structure Ext (Γ : Ctx) (β : Nat → Nat) (s : SS) (β' : Nat → Nat) (s' : SS) (w' : World) : Prop where
  st : St Γ β' s' w'
  le : s.n ≤ s'.n
  agree : ∀ i, i < s.n → β' i = β i

def T.holds (Γ : Ctx) : T → Prop
  | .leaf e vs s => ∀ β w, St Γ β s w → okL s.n vs → Γ.Q e (denL β vs) w
  | .bad _ => False
  | .need p t => p ∧ T.holds Γ t
  | .split b t f => (b = true → T.holds Γ t) ∧ (b = false → T.holds Γ f)
  | .choose q k => ∀ t, T.holds Γ (k (q.cut t))
  | .both a b => T.holds Γ a ∧ T.holds Γ b
  | .call f args s X out k => ∀ β w, St Γ β s w → okL s.n args → Calls Γ.P f (denL β args).toArray w fun e w' =>
      ∃ (x : X) (β' : Nat → Nat) (bs : List Nat), e = .returned ((out x).1.den β') ∧ Ext Γ β s β' (reS s (out x).2 w' bs) w' ∧ (out x).1.ok (out x).2.length ∧ T.holds Γ (k x w' bs)
  | .loop _ body a s X out k Y out' k' => ∀ β w, St Γ β s w → okL s.n a → (Code.loop body).wp Γ.P (fun e a' w' =>
      (∃ (x : X) (β' : Nat → Nat) (bs : List Nat), e = (out x).1.exit' ∧ a' = actS β' (out x).2.1 ∧ Ext Γ β s β' (reS s (out x).2.2 w' bs) w' ∧ okL (out x).2.2.length (out x).2.1 ∧
        (out x).2.1.length = a.length ∧ T.holds Γ (k x w' bs)) ∨
      (∃ (x : Y) (β' : Nat → Nat) (bs : List Nat), e = (out' x).1.exit' ∧ a' = actS β' (out' x).2.1 ∧ Ext Γ β s β' (reS s (out' x).2.2 w' bs) w' ∧ okL (out' x).2.2.length (out' x).2.1 ∧
        (out' x).2.1.length = a.length ∧ T.holds Γ (k' x w' bs))) (actS β a) w

variable {Γ : Ctx} {β : Nat → Nat} {s : SS} {w : World}

theorem Ext.refl (h : St Γ β s w) : Ext Γ β s β s w := ⟨h, Nat.le_refl _, fun _ _ => rfl⟩

theorem Ext.trans {β' β'' : Nat → Nat} {s' s'' : SS} {w' w'' : World} (h : Ext Γ β s β' s' w') (h' : Ext Γ β' s' β'' s'' w'') : Ext Γ β s β'' s'' w'' :=
  ⟨h'.st, Nat.le_trans h.le h'.le, fun i hi => (h'.agree i (Nat.lt_of_lt_of_le hi h.le)).trans (h.agree i hi)⟩

/-- What an operation that yields a value comes to. -/
def Good (Γ : Ctx) (β : Nat → Nat) (s : SS) (r : Result Value) (K : SV → SS → T) : Prop :=
  ∃ v s' β' w', r = .ok (v.den β') w' ∧ Ext Γ β s β' s' w' ∧ v.ok s'.n ∧ (K v s').holds Γ

/-- The same for one that leaves the memory as it is. -/
def Same (Γ : Ctx) (β : Nat → Nat) (s : SS) (w : World) (r : Result Value) (K : SV → T) : Prop :=
  ∃ v, r = .ok (v.den β) w ∧ v.ok s.n ∧ (K v).holds Γ

theorem Same.good {r : Result Value} {K : SV → SS → T} (hs : St Γ β s w) (h : Same Γ β s w r fun v => K v s) : Good Γ β s r K :=
  let ⟨v, h1, h2, h3⟩ := h
  ⟨v, s, β, w, h1, Ext.refl hs, h2, h3⟩

/-! ### Loads and stores -/

theorem xCell_sound {id off : Nat} {K : SV → T} (h : (xCell s id off K).holds Γ) (hs : St Γ β s w) :
    ∃ v, w.cell? ⟨β id, off, none⟩ = some (v.den β) ∧ v.ok s.n ∧ (K v).holds Γ := by
  unfold xCell at h
  split at h
  · rename_i cs _ _ _ _ ho
    split at h
    · rename_i v hv
      exact ⟨v, hs.cell ho hv, okL_get (hs.ok id _ ho) hv, h⟩
    · exact h.elim
  · rename_i k l _ _ _ ho
    obtain ⟨hlt, h⟩ := h
    exact ⟨.int k (l.getD off 0) false, hs.icell ho hlt, trivial, h⟩
  · exact h.elim

theorem xLoad_var {t : TypeId} {id off : Nat} {K : SV → T} (h : (xLoad Γ.P t (.ptr id off) s K).holds Γ) (hs : St Γ β s w) :
    Same Γ β s w ((loadVar t ⟨β id, off, none⟩).run Γ.P w) K := by
  simp only [xLoad] at h
  split at h
  · exact h.elim
  · rename_i ha
    obtain ⟨v, h1, h2, h3⟩ := xCell_sound h hs
    exact ⟨v, run_loadVar_one ha h1, h2, h3⟩
  · rename_i n ha
    split at h
    · rename_i cs _ _ _ _ ho
      split at h
      · rename_i l hl
        refine ⟨.agg l, ?_, takeAt_ok hl (hs.ok id _ ho), h⟩
        have hlen := takeAt_length hl
        have := run_loadVar_agg (P := Γ.P) (w := w) ha (b := β id) (off := off) (cs := denL β l) (by rw [denL_length]; exact hlen) (fun j v hv => by
          rw [denL_get] at hv
          cases hj : l[j]? with
          | none => rw [hj] at hv; cases hv
          | some x =>
            rw [hj] at hv
            simp only [Option.map_some, Option.some.injEq] at hv
            have hjlt := (List.getElem?_eq_some_iff.1 hj).1
            rw [takeAt_get hl j (by omega)] at hj
            rw [hs.cell ho hj, hv])
        rw [this]
        simp only [SV.den]
      · exact h.elim
    · exact h.elim

theorem xExt_sound {t : TypeId} {a : Addr} {K : SV → T} (h : (xExt Γ.P t a s K).holds Γ) (hs : St Γ β s w) :
    Same Γ β s w ((loadVar t a).run Γ.P w) K := by
  unfold xExt at h
  split at h
  · rename_i he
    have o := hs.old he
    split at h
    · exact h.elim
    · rename_i ts hts
      split at h
      · exact h.elim
      · rename_i vs hvs
        obtain ⟨⟨hb, hp, hc⟩, h⟩ := h
        have hok := extCells_ok ts 0 vs hvs
        have hc' : ∀ (j : Nat) (v : SV), vs[j]? = some v → w.cell? (a.add j) = some (v.den id) := fun j v hj => by
          rw [o.cell (by rw [add_block]; exact hb) (by rw [add_block]; exact hp)]; exact hc j v hj
        split at h
        · exact h.elim
        · rename_i ha
          split at h
          · rename_i v
            refine ⟨v, run_loadVar_one ha ?_, SV.ok_mono (Nat.zero_le _) v hok.1, h⟩
            rw [SV.den_closed hok.1 β]
            exact hc' 0 v rfl
          · exact h.elim
        · rename_i n ha
          split at h
          · rename_i hn
            refine ⟨.agg vs, ?_, okL_mono (Nat.zero_le _) vs hok, h⟩
            have := run_loadVar_aggA (P := Γ.P) (w := w) ha (a := a) (cs := denL id vs) (by rw [denL_length]; exact hn) (fun j v hv => by
              rw [denL_get] at hv
              cases hj : vs[j]? with
              | none => rw [hj] at hv; cases hv
              | some x =>
                rw [hj] at hv
                simp only [Option.map_some, Option.some.injEq] at hv
                rw [hc' j x hj, hv])
            rw [this]
            simp only [SV.den, denL_closed hok β]
          · exact h.elim
  · exact h.elim

theorem xLoad_sound {t : TypeId} {a : SV} {K : SV → T} (h : (xLoad Γ.P t a s K).holds Γ) (hs : St Γ β s w) :
    Same Γ β s w ((Instr.loadAt t (a.den β)).run Γ.P w) K := by
  cases a with
  | xp a =>
    have := xExt_sound (t := t) (a := a) (K := K) h hs
    simpa [Instr.loadAt, Instr.sureAddr, SV.den] using this
  | ptr id off =>
    have := xLoad_var h hs
    simpa [Instr.loadAt, Instr.sureAddr, SV.den] using this
  | _ => exact (show False from h).elim

theorem thawed_spec {lo hi off n : Nat} (h : thawed lo hi off n = true) : hi ≤ off ∨ off + n ≤ lo ∨ hi ≤ lo := by
  simpa [thawed] using h

/-- Cells written into a tracked row. -/
theorem put_cells {id tot lo hi : Nat} {e : TypeId} {cs cs' vs : List SV} {off : Nat} (hs : St Γ β s w) (ho : s.objs[id]? = some (.cells cs tot e lo hi)) (hp : putAt off vs cs = some cs')
    (hf : thawed lo hi off vs.length = true) (h1 : vs.all SV.isOne = true) (hok : okL s.n vs) :
    ∃ w', (storeCells ⟨β id, off, none⟩ (denL β vs)).run Γ.P w = .ok () w' ∧ St Γ β (s.set id (.cells cs' tot e lo hi)) w' := by
  obtain ⟨rest, hb, htot⟩ := hs.at_ id _ ho
  obtain ⟨p1, p2, p3, p4⟩ := putAt_spec β off vs cs cs' hp
  have := thawed_spec hf
  obtain ⟨w', r1, r2, r3⟩ := run_storeCells (P := Γ.P) (β id) off e lo hi (denL β vs) 0 w (denL β cs ++ rest) hb (fun v hv => by
      rw [denL_map] at hv
      obtain ⟨x, hx, rfl⟩ := List.mem_map.1 hv
      exact SV.isOne_den (List.all_eq_true.1 h1 x hx) β) (by rw [denL_length, List.length_append, denL_length]; omega) (by rw [denL_length]; omega)
  refine ⟨w', r1, hs.put ho r3 ?_ (p4 _ hok (hs.ok id _ ho))⟩
  exact ⟨rest, by rw [r2, Nat.add_zero, p3], by omega⟩

/-- Cells written right behind the known ones. -/
theorem push_cells {id tot lo hi : Nat} {e : TypeId} {cs vs : List SV} (hs : St Γ β s w) (ho : s.objs[id]? = some (.cells cs tot e lo hi))
    (hf : thawed lo hi cs.length vs.length = true) (hroom : cs.length + vs.length ≤ tot) (h1 : vs.all SV.isOne = true) (hok : okL s.n vs) :
    ∃ w', (storeCells ⟨β id, cs.length, none⟩ (denL β vs)).run Γ.P w = .ok () w' ∧ St Γ β (s.set id (.cells (cs ++ vs) tot e lo hi)) w' := by
  obtain ⟨rest, hb, htot⟩ := hs.at_ id _ ho
  have := thawed_spec hf
  obtain ⟨w', r1, r2, r3⟩ := run_storeCells (P := Γ.P) (β id) cs.length e lo hi (denL β vs) 0 w (denL β cs ++ rest) hb (fun v hv => by
      rw [denL_map] at hv
      obtain ⟨x, hx, rfl⟩ := List.mem_map.1 hv
      exact SV.isOne_den (List.all_eq_true.1 h1 x hx) β) (by rw [denL_length, List.length_append, denL_length]; omega) (by rw [denL_length]; omega)
  refine ⟨w', r1, hs.put ho r3 ?_ (okL_append (hs.ok id _ ho) hok)⟩
  refine ⟨rest.drop vs.length, ?_, by rw [List.length_append, List.length_drop]; omega⟩
  rw [r2, Nat.add_zero]
  have key : ∀ (a vs rest : List Value), vs.length ≤ rest.length → setMany (a ++ rest) a.length vs = a ++ vs ++ rest.drop vs.length := by
    intro a vs
    induction vs generalizing a with
    | nil => intro rest _; simp [setMany]
    | cons v vs ih =>
      intro rest hr
      cases rest with
      | nil => simp at hr
      | cons r rest =>
        simp only [List.length_cons] at hr
        simp only [setMany]
        have e1 : (a ++ r :: rest).set a.length v = (a ++ [v]) ++ rest := by
          rw [List.set_append_right _ _ (Nat.le_refl _)]; simp
        have e2 : a.length + 1 = (a ++ [v]).length := by simp
        rw [e1, e2, ih (a ++ [v]) rest (by omega)]
        simp
  have h2 := key (denL β cs) (denL β vs) rest (by rw [denL_length]; omega)
  rw [denL_length, denL_length] at h2
  rw [h2, denL_append]

theorem xStore_sound {t : TypeId} {a v : SV} {K : SS → T} (h : (xStore Γ.P t a v s K).holds Γ) (hs : St Γ β s w) (hv : v.ok s.n) :
    ∃ s' w', (Instr.storeAt t (a.den β) (v.den β)).run Γ.P w = .ok () w' ∧ Ext Γ β s β s' w' ∧ (K s').holds Γ := by
  cases a with
  | ptr id off =>
    simp only [xStore] at h
    split at h
    · exact h.elim
    · rename_i i hi
      split at h
      · rename_i hsz
        split at h
        · rename_i hone
          have hrun : ∀ w', (storeCells ⟨β id, off, none⟩ (denL β v.cells)).run Γ.P w = .ok () w' → (Instr.storeAt t (.pointer (some ⟨β id, off, none⟩)) (v.den β)).run Γ.P w = .ok () w' := by
            intro w' hw
            simp only [Instr.storeAt, Instr.sureAddr, storeVar, Sem.run_bind, Sem.run_pure, Result.andThen_ok, run_sizeOf hi, SV.cells_den]
            simp [denL_length, hsz, hw]
          split at h
          · rename_i cs tot e lo hi' ho
            split at h
            · rename_i cs' hp
              split at h
              · rename_i hf
                obtain ⟨w', r1, r2⟩ := put_cells hs ho hp hf hone (SV.cells_ok hv)
                exact ⟨_, w', hrun w' r1, ⟨r2, by rw [SS.n_set]; exact Nat.le_refl _, fun _ _ => rfl⟩, h⟩
              · exact h.elim
            · exact h.elim
          · rename_i k l e lo hi' ho
            split at h
            · rename_i k' n _
              split at h
              · rename_i hk
                subst hk
                obtain ⟨hlt, hf, h⟩ := h
                have hb := hs.at_ id _ ho
                simp only [SObj.At] at hb
                have := thawed_spec hf
                obtain ⟨w', r1, r2, r3⟩ := run_storeCells (P := Γ.P) (β id) off e lo hi' [.int k n] 0 w (l.map (Value.int k)) hb (by simp [Value.oneCell']) (by simp; omega) (by simp; omega)
                refine ⟨_, w', hrun w' ?_, ⟨hs.put ho r3 (o' := .ints k (l.set off n) e lo hi') ?_ trivial, by rw [SS.n_set]; exact Nat.le_refl _, fun _ _ => rfl⟩, h⟩
                · simpa [SV.cells, denL, SV.den] using r1
                · simp only [SObj.At, r2, Nat.add_zero, setMany]
                  simp [List.map_set]
              · exact h.elim
            · exact h.elim
          · exact h.elim
        · exact h.elim
      · exact h.elim
  | _ => exact (show False from h).elim

/-! ### New blocks -/

theorem xNew_sound {cs : List SV} {e : TypeId} {K : SV → SS → T} (h : (xNew s cs e K).holds Γ) (hs : St Γ β s w) (hok : okL s.n cs) :
    Good Γ β s (.ok (.pointer (some ⟨w.heap.size, 0, none⟩)) (w.alloc (.cells (denL β cs).toArray e))) K := by
  unfold xNew at h
  split at h
  · rename_i hone
    refine ⟨.ptr s.n 0, s.new (.cells cs cs.length e 0 0), upd β s.n w.heap.size, w.alloc (.cells (denL β cs).toArray e), ?_, ⟨hs.alloc (o := .cells cs cs.length e 0 0) ?_ (okL_mono (Nat.le_succ _) cs hok), ?_, fun i hi => upd_lt hi⟩, ?_, h⟩
    · simp only [SV.den, upd_at]
    · refine ⟨[], ?_, by simp⟩
      rw [denL_agree (fun i hi => upd_lt hi) cs hok, List.append_nil]
    · rw [SS.n_new]; exact Nat.le_succ _
    · rw [SS.n_new]; exact Nat.lt_succ_self _
  · exact h.elim

theorem zeroS_spec {t : TypeId} {z : SV} (h : zeroS Γ.P t = some z) : ∃ i v, Γ.P.info? t = some i ∧ i.zero = some v ∧ (∀ β, z.den β = v) ∧ (∀ n, z.ok n) := by
  unfold zeroS at h
  split at h
  · rename_i i hi
    split at h
    · rename_i v hv
      exact ⟨i, v, hi, hv, fun β => SV.ofValue_den h β, fun n => SV.ofValue_ok h n⟩
    · cases h
  · cases h

theorem run_zeroValue {P : Program} {t : TypeId} {i : TypeInfo} {v : Value} (hi : P.info? t = some i) (hv : i.zero = some v) : (zeroValue t).run P w = .ok v w := by
  simp [zeroValue, typeInfo, hi, hv]

theorem xAlloc_sound {e : TypeId} {K : SV → SS → T} (h : (xAlloc Γ.P e s K).holds Γ) (hs : St Γ β s w) :
    Good Γ β s ((Instr.alloc e true (.tuple #[])).run Γ.P w) K := by
  unfold xAlloc at h
  split at h
  · rename_i z hz
    obtain ⟨i, v, hi, hv, hd, hk⟩ := zeroS_spec hz
    have := xNew_sound h hs (SV.cells_ok (hk s.n))
    have hrun : (Instr.alloc e true (.tuple #[])).run Γ.P w = .ok (.pointer (some ⟨w.heap.size, 0, none⟩)) (w.alloc (.cells (denL β z.cells).toArray e)) := by
      simp only [Instr.alloc, Sem.run_bind, run_zeroValue hi hv, Result.andThen_ok]
      simp [newVar, newRow, ← SV.cells_den, hd β]
    rw [hrun]; exact this
  · exact h.elim

theorem run_box {e : TypeId} {v : SV} : (Instr.box e (v.den β)).run Γ.P w = .ok (.pointer (some ⟨w.heap.size, 0, none⟩)) (w.alloc (.cells (denL β v.cells).toArray e)) := by
  simp [Instr.box, newVar, newRow, SV.cells_den]

end Go.Rx
end

section
/- The operations' laws: literals, fields, indexing, slicing, len, cap, operators. -/
set_option linter.unusedVariables false
set_option linter.unusedSimpArgs false
namespace Go.Rx

variable {Γ : Ctx} {β : Nat → Nat} {s : SS} {w : World}

theorem run_underlying' {P : Program} {t : TypeId} {d : TypeDesc} (h : P.underlying t = some d) (w : World) : (underlying t).run P w = .ok d w := run_underlying h w

theorem run_typeInfo {P : Program} {t : TypeId} {i : TypeInfo} (h : P.info? t = some i) (w : World) : (typeInfo t).run P w = .ok i w := by
  simp [typeInfo, h]

/-! ### Literals -/

theorem fieldPlaces_run {P : Program} : ∀ (fs : List Field) (l : List (Nat × Nat)), fieldPlaces P fs = some l →
    (fs.mapM (m := Sem) fun f => do pure (f.offset, ← sizeOf f.type)).run P w = .ok l w
  | [], l, h => by simp [fieldPlaces] at h; subst h; rfl
  | f :: fs, l, h => by
    simp only [fieldPlaces] at h
    split at h
    · rename_i i l' hi hl'
      simp only [Option.some.injEq] at h
      subst h
      have ih := fieldPlaces_run fs l' hl'
      simp only [List.mapM_cons, Sem.run_bind, run_sizeOf hi, Result.andThen_ok, Sem.run_pure, ih]
    · cases h

theorem foldl_setMany (vs : List Value) : ∀ (k off : Nat) (a : Array Value), (vs.zipIdx k).foldl (fun cs (c, j) => cs.setIfInBounds (off + j) c) a = (setMany a.toList (off + k) vs).toArray := by
  induction vs with
  | nil => intro k off a; simp [setMany]
  | cons v vs ih =>
    intro k off a
    simp only [List.zipIdx_cons, List.foldl_cons, setMany]
    rw [ih (k + 1) off]
    simp [Nat.add_assoc]

theorem fillS_spec (place : Nat → Option (Nat × Nat)) : ∀ (parts : List (Nat × SV)) (cells cs : List SV), fillS place cells parts = some cs →
    Instr.fill place (denL β cells).toArray (parts.map fun p => (p.1, p.2.den β)) = some (denL β cs).toArray ∧ (∀ n, okL n cells → (∀ p ∈ parts, p.2.ok n) → okL n cs)
  | [], cells, cs, h => by
    simp only [fillS, Option.some.injEq] at h
    subst h
    exact ⟨rfl, fun n hn _ => hn⟩
  | (i, v) :: rest, cells, cs, h => by
    simp only [fillS] at h
    split at h
    · cases h
    · rename_i off size hp
      split at h
      · rename_i hsz
        split at h
        · rename_i cs' hput
          obtain ⟨p1, p2, p3, p4⟩ := putAt_spec β off v.cells cells cs' hput
          obtain ⟨ih1, ih2⟩ := fillS_spec place rest cs' cs h
          refine ⟨?_, fun n hn hall => ih2 n (p4 n (SV.cells_ok (hall (i, v) (List.mem_cons_self ..))) hn) fun p hp => hall p (List.mem_cons_of_mem _ hp)⟩
          simp only [List.map_cons, Instr.fill, hp, SV.cells_den]
          rw [if_neg (by simp [denL_length, hsz]; omega)]
          have e : (denL β v.cells).toArray.zipIdx.foldl (fun cs (c, j) => cs.setIfInBounds (off + j) c) (denL β cells).toArray = (denL β cs').toArray := by
            have := foldl_setMany (denL β v.cells) 0 off (denL β cells).toArray
            have p3' := p3 []
            simp only [List.append_nil] at p3'
            rw [p3']
            simpa using this
          rw [e]
          exact ih1
        · cases h
      · cases h

theorem xBuild_sound {t : TypeId} {parts : List (Nat × SV)} {K : SV → T} (h : (xBuild Γ.P t parts K).holds Γ) (hok : ∀ p ∈ parts, p.2.ok s.n) :
    Same Γ β s w ((Instr.build t (parts.map fun p => (p.1, p.2.den β)).toArray).run Γ.P w) K := by
  unfold xBuild at h
  split at h
  · exact h.elim
  · rename_i z hz
    obtain ⟨i, v, hi, hv, hd, hk⟩ := zeroS_spec hz
    have hzc : v.cells = (denL β z.cells).toArray := by rw [← hd β, SV.cells_den]
    split at h
    · rename_i fields hu
      split at h
      · rename_i places hpl
        split at h
        · rename_i cs hf
          obtain ⟨f1, f2⟩ := fillS_spec (β := β) _ parts z.cells cs hf
          refine ⟨.agg cs, ?_, f2 s.n (SV.cells_ok (hk _)) hok, h⟩
          have hm : (fields.mapM (m := Sem) fun f => do pure (f.offset, ← sizeOf f.type)).run Γ.P w = .ok places.toArray w := by
            rw [Array.mapM_eq_mapM_toList]
            simp only [Sem.run_map, fieldPlaces_run (w := w) _ _ hpl, Result.andThen_ok]
          simp only [Instr.build, Sem.run_bind, run_zeroValue hi hv, Result.andThen_ok, run_underlying' hu, hm, hzc]
          simp only [List.getElem?_toArray, f1, Sem.run_pure]
          rfl
        · exact h.elim
      · exact h.elim
    · rename_i len elem hu
      split at h
      · rename_i ie hie
        split at h
        · rename_i cs hf
          obtain ⟨f1, f2⟩ := fillS_spec (β := β) _ parts z.cells cs hf
          refine ⟨.agg cs, ?_, f2 s.n (SV.cells_ok (hk _)) hok, h⟩
          simp only [Instr.build, Sem.run_bind, run_zeroValue hi hv, Result.andThen_ok, run_underlying' hu, run_sizeOf hie, hzc]
          simp only [f1, Sem.run_pure]
          rfl
        · exact h.elim
      · exact h.elim
    · exact h.elim

theorem rep_den (n : Nat) (z : List SV) : denL β (rep n z) = (List.replicate n (denL β z)).flatten := by
  induction n with
  | zero => rfl
  | succ n ih => simp [rep, denL_append, ih, List.replicate_succ]

theorem rep_ok {n m : Nat} {z : List SV} (h : okL m z) : okL m (rep n z) := by
  induction n with
  | zero => trivial
  | succ n ih => exact okL_append h ih

theorem zeros_eq (z : List Value) (c : Nat) : ((Array.range (c * z.length)).map fun i => z.toArray[i % z.length]!) = (List.replicate c z).flatten.toArray := by
  apply Array.ext'
  rw [Array.toList_map, Array.toList_range]
  induction c with
  | zero => simp
  | succ c ih =>
    rw [Nat.succ_mul, Nat.add_comm, List.replicate_succ, List.flatten_cons, List.range_add, List.map_append]
    have e1 : (List.range z.length).map (fun i => z.toArray[i % z.length]!) = z := by
      apply List.ext_getElem?
      intro i
      by_cases hi : i < z.length
      · simp [hi, Nat.mod_eq_of_lt hi]
      · simp [hi, List.getElem?_eq_none (Nat.le_of_not_lt hi)]
    have e2 : ((List.range (c * z.length)).map fun x => z.length + x).map (fun i => z.toArray[i % z.length]!) = (List.range (c * z.length)).map fun i => z.toArray[i % z.length]! := by
      rw [List.map_map]
      apply List.map_congr_left
      intro i _
      simp [Nat.add_mod_left]
    rw [e1, e2, ih]

theorem xBuildSlice_sound {t : TypeId} {len : Nat} {parts : List (Nat × SV)} {K : SV → SS → T} (h : (xBuildSlice Γ.P t len parts s K).holds Γ) (hs : St Γ β s w) (hok : ∀ p ∈ parts, p.2.ok s.n) :
    Good Γ β s ((Instr.buildSlice t len (parts.map fun p => (p.1, p.2.den β)).toArray).run Γ.P w) K := by
  unfold xBuildSlice at h
  split at h
  · rename_i elem hu
    split at h
    · rename_i inf z hi hz
      obtain ⟨i', v, hi', hv, hd, hk⟩ := zeroS_spec hz
      rw [hi] at hi'
      simp only [Option.some.injEq] at hi'
      subst hi'
      split at h
      · rename_i hc
        obtain ⟨hsz, hle⟩ := hc
        split at h
        · rename_i cs hf
          have hzc : v.cells = (denL β z.cells).toArray := by rw [← hd β, SV.cells_den]
          have okz : okL s.n (rep len z.cells) := rep_ok (SV.cells_ok (hk _))
          obtain ⟨f1, f2⟩ := fillS_spec (β := β) _ parts (rep len z.cells) cs hf
          have okc := f2 s.n okz hok
          have hrun : (Instr.buildSlice t len (parts.map fun p => (p.1, p.2.den β)).toArray).run Γ.P w = .ok (.slice (some ⟨w.heap.size, 0, none⟩) len len) (w.alloc (.cells (denL β cs).toArray elem)) := by
            have hle' : ¬ len * inf.size > 2 ^ 24 := by omega
            simp only [Instr.buildSlice, Sem.run_bind, run_underlying' hu, Result.andThen_ok, run_sizeOf hi, hle', if_false]
            by_cases h0 : len * inf.size = 0
            · simp only [h0, if_true, Sem.run_pure, Sem.run_bind, Result.andThen_ok]
              have e0 : denL β (rep len z.cells) = [] := by
                apply List.eq_nil_of_length_eq_zero
                rw [rep_den]
                simp [List.length_flatten, denL_length, hsz, h0]
              have e1 : ∀ f : Nat → Value, (Array.range 0).map f = #[] := fun f => by apply Array.eq_empty_of_size_eq_zero; simp
              rw [e0] at f1
              simp only [e1]
              have f1' : Instr.fill (fun i => some (i * inf.size, inf.size)) #[] (parts.map fun p => (p.1, p.2.den β)) = some (denL β cs).toArray := f1
              simp only [f1', Sem.run_bind, newRow, run_newObj, Result.andThen_ok, Sem.run_pure]
              rfl
            · simp only [h0, if_false, Sem.run_bind, run_zeroValue hi hv, Result.andThen_ok, Sem.run_pure]
              have e1 := zeros_eq (denL β z.cells) len
              rw [denL_length, hsz] at e1
              have e2 : (Array.range (len * inf.size)).map (fun x => v.cells[x % v.cells.size]!) = (denL β (rep len z.cells)).toArray := by
                rw [rep_den, ← e1, hzc]
                simp [denL_length, hsz]
              simp only [e2, f1, Sem.run_bind, newRow, run_newObj, Result.andThen_ok, Sem.run_pure]
              rfl
          refine ⟨_, _, upd β s.n w.heap.size, _, ?_, ⟨hs.alloc (o := .cells cs cs.length elem 0 0) (ob := .cells (denL β cs).toArray elem) ?_ (okL_mono (Nat.le_succ _) cs okc), ?_, fun i hi => upd_lt hi⟩, ?_, h⟩
          · rw [hrun]
            simp only [SV.den, upd_at]
          · refine ⟨[], ?_, by simp⟩
            rw [List.append_nil, denL_agree (fun i hi => upd_lt hi) _ okc]
          · rw [SS.n_new]; exact Nat.le_succ _
          · rw [SS.n_new]; exact Nat.lt_succ_self _
        · exact h.elim
      · exact h.elim
    · exact h.elim
  · exact h.elim

/-! ### Fields, parts, elements -/

theorem run_fieldPlace {P : Program} {b off : Nat} {f : Field} {i : TypeInfo} (hi : P.info? f.type = some i) (h0 : i.size ≠ 0) :
    (fieldPlace ⟨b, off, none⟩ f).run P w = .ok ⟨b, off + f.offset, none⟩ w := by
  simp [fieldPlace, run_sizeOf hi, h0, add_plain]

theorem xFieldAddr_sound {t : TypeId} {a : SV} {f : Nat} {K : SV → T} (h : (xFieldAddr Γ.P t a f K).holds Γ) (ha : a.ok s.n) :
    Same Γ β s w ((Instr.fieldAt t (a.den β) f).run Γ.P w) K := by
  unfold xFieldAddr at h
  split at h
  · rename_i fields hu
    split at h
    · rename_i fd hfd
      split at h
      · rename_i i hi
        split at h
        · exact h.elim
        · rename_i h0
          split at h
          · rename_i id off
            refine ⟨_, ?_, ?_, h⟩
            · simp [Instr.fieldAt, run_underlying' hu, hfd, SV.den, Instr.sureAddr, run_fieldPlace hi h0]
            · exact ha
          · refine ⟨_, ?_, ?_, h⟩
            · simp [Instr.fieldAt, run_underlying' hu, hfd, SV.den, Instr.sureAddr, fieldPlace, run_sizeOf hi, h0]
            · trivial
          · exact h.elim
      · exact h.elim
    · exact h.elim
  · exact h.elim

theorem partS_run {t : TypeId} {cs : List SV} {off : Nat} {v : SV} (h : partS Γ.P t cs off = some v) :
    (part t (denL β cs).toArray off).run Γ.P w = .ok (v.den β) w ∧ (∀ n, okL n cs → v.ok n) := by
  unfold partS at h
  split at h
  · cases h
  · rename_i ha
    refine ⟨?_, fun n hn => okL_get hn h⟩
    simp only [part, Sem.run_bind, run_isAgg ha, Result.andThen_ok, Option.isSome_none, Bool.false_eq_true, if_false, List.getElem?_toArray, denL_get, h, Option.map_some]
    rfl
  · rename_i n ha
    cases ht : takeAt off n cs with
    | none => rw [ht] at h; cases h
    | some l =>
      rw [ht] at h
      simp only [Option.map_some, Option.some.injEq] at h
      subst h
      refine ⟨?_, fun m hm => takeAt_ok ht hm⟩
      obtain ⟨t1, rfl⟩ := takeAt_spec off n cs l ht
      simp only [part, Sem.run_bind, run_isAgg ha, Result.andThen_ok, Option.isSome_some, if_true, run_sizeOf_agg ha, Sem.run_pure, SV.den]
      congr 2
      simp [denL_map, List.extract_eq_drop_take', List.map_drop, List.map_take]

theorem xField_sound {t : TypeId} {x : SV} {f : Nat} {K : SV → T} (h : (xField Γ.P t x f K).holds Γ) (hx : x.ok s.n) :
    Same Γ β s w ((Instr.field t (x.den β) f).run Γ.P w) K := by
  unfold xField at h
  split at h
  · rename_i fields hu
    split at h
    · rename_i fd hfd
      split at h
      · rename_i cs
        split at h
        · rename_i v hv
          obtain ⟨p1, p2⟩ := partS_run (β := β) (w := w) hv
          refine ⟨v, ?_, p2 _ hx, h⟩
          simp [Instr.field, run_underlying' hu, hfd, SV.den, asAgg, p1]
        · exact h.elim
      · exact h.elim
    · exact h.elim
  · exact h.elim

theorem xIn_spec {i : Int} {n : Nat} {lit : Bool} {t : T} (h : (xIn i n lit t).holds Γ) : (0 ≤ i ∧ i < (n : Int)) ∧ t.holds Γ := by
  unfold xIn at h
  split at h
  · split at h
    · exact ⟨by assumption, h⟩
    · exact h.elim
  · exact h

theorem xIndexAddr_sound {t : TypeId} {x ix : SV} {K : SV → T} (h : (xIndexAddr Γ.P t x ix K).holds Γ) (hx : x.ok s.n) :
    Same Γ β s w ((Instr.indexAt t (x.den β) (ix.den β)).run Γ.P w) K := by
  unfold xIndexAddr at h
  split at h
  · rename_i k i li
    split at h
    · rename_i len elem hu
      split at h
      · rename_i id off
        split at h
        · rename_i inf hi
          obtain ⟨hin, h⟩ := xIn_spec h
          refine ⟨_, ?_, ?_, h⟩
          · simp [Instr.indexAt, SV.den, asIntOf, run_underlying' hu, Instr.sureAddr, hin, run_sizeOf hi, add_plain]
          · exact hx
        · exact h.elim
      · split at h
        · rename_i inf hi
          obtain ⟨hin, h⟩ := xIn_spec h
          refine ⟨_, ?_, ?_, h⟩
          · simp [Instr.indexAt, SV.den, asIntOf, run_underlying' hu, Instr.sureAddr, hin, run_sizeOf hi]
          · trivial
        · exact h.elim
      · exact h.elim
    · rename_i elem hu
      split at h
      · rename_i id off len cap ll lc
        split at h
        · rename_i inf hi
          obtain ⟨hin, h⟩ := xIn_spec h
          refine ⟨_, ?_, ?_, h⟩
          · simp [Instr.indexAt, SV.den, asIntOf, run_underlying' hu, hin, run_sizeOf hi, add_plain]
          · exact hx
        · exact h.elim
      · rename_i A len cap
        split at h
        · rename_i inf hi
          obtain ⟨hin, hA, h⟩ := xIn_spec h
          refine ⟨_, ?_, ?_, h⟩
          · cases A with
            | none => cases hA
            | some a => simp [Instr.indexAt, SV.den, asIntOf, run_underlying' hu, hin, run_sizeOf hi]
          · trivial
        · exact h.elim
      · exact h.elim
    · exact h.elim
  · exact h.elim

theorem xIndex_sound {t : TypeId} {x ix : SV} {K : SV → T} (h : (xIndex Γ.P t x ix K).holds Γ) (hx : x.ok s.n) :
    Same Γ β s w ((Instr.index t (x.den β) (ix.den β)).run Γ.P w) K := by
  unfold xIndex at h
  split at h
  · rename_i k i li
    split at h
    · rename_i len elem hu
      split at h
      · rename_i cs
        split at h
        · rename_i inf hi
          obtain ⟨hin, h⟩ := xIn_spec h
          split at h
          · rename_i v hv
            obtain ⟨p1, p2⟩ := partS_run (β := β) (w := w) hv
            refine ⟨v, ?_, p2 _ hx, h⟩
            simp [Instr.index, SV.den, asIntOf, run_underlying' hu, hin, run_sizeOf hi, p1]
          · exact h.elim
        · exact h.elim
      · exact h.elim
    · rename_i hu
      split at h
      · rename_i str ls
        obtain ⟨hin, h⟩ := xIn_spec h
        refine ⟨_, ?_, by trivial, h⟩
        have hlt : i.toNat < str.size := by omega
        have e1 : str[i.toNat]? = some (str.data.toList.getD i.toNat 0) := by
          rw [getElem?_pos str i.toNat hlt]
          congr 1
          simp only [List.getD_eq_getElem?_getD]
          rw [List.getElem?_eq_getElem (by simpa using hlt)]
          rfl
        simp only [Instr.index, SV.den, asIntOf, Sem.run_bind, Sem.run_pure, Result.andThen_ok, run_underlying' hu, hin.1, if_true, e1]
      · exact h.elim
    · exact h.elim
  · exact h.elim

/-! ### Slicing -/

theorem xBound_sound {x : Option SV} {dflt : Nat} {dl : Bool} {y : Nat} {yl : Bool} {K : Nat → Bool → T} (h : (xBound x dflt dl y yl K).holds Γ) :
    ∃ n l, (K n l).holds Γ ∧ (∀ code, (match x.map (SV.den β) with
      | some v => (Instr.sliceBound v y code).run Γ.P w
      | none => .ok dflt w) = .ok n w) := by
  unfold xBound at h
  split at h
  · exact ⟨dflt, dl, h, fun _ => rfl⟩
  · rename_i k i li
    have key : 0 ≤ i ∧ i ≤ (y : Int) → ∀ code, (Instr.sliceBound (Value.int k i) y code).run Γ.P w = .ok i.toNat w := fun hi code => by
      simp [Instr.sliceBound, asIntOf, hi]
    split at h
    · split at h
      · rename_i hin
        exact ⟨i.toNat, true, h, fun code => key hin code⟩
      · exact h.elim
    · obtain ⟨hin, h⟩ := h
      exact ⟨i.toNat, li, h, fun code => key hin code⟩
  · exact h.elim

theorem xBounds_sound {len : Nat} {ll : Bool} {cap : Nat} {lc : Bool} {low high max : Option SV} {K : Nat → Bool → Nat → Bool → Nat → Bool → T}
    (h : (xBounds len ll cap lc low high max K).holds Γ) (isSlice : Bool) :
    ∃ l l0 hh lh m lm, (K l l0 hh lh m lm).holds Γ ∧ (Instr.sliceBounds isSlice len cap (low.map (SV.den β)) (high.map (SV.den β)) (max.map (SV.den β))).run Γ.P w = .ok (l, hh, m) w := by
  unfold xBounds at h
  split at h
  · exact h.elim
  · rename_i hne
    obtain ⟨m, lm, h, hm⟩ := xBound_sound (β := β) (w := w) h
    obtain ⟨hh, lh, h, hhh⟩ := xBound_sound (β := β) (w := w) h
    obtain ⟨l, l0, h, hl⟩ := xBound_sound (β := β) (w := w) h
    refine ⟨l, l0, hh, lh, m, lm, h, ?_⟩
    cases max with
    | none =>
      simp only [Option.map_none] at hm
      have hm' : cap = m := by simpa using hm .index
      subst hm'
      cases high with
      | none =>
        have hh' : len = hh := by simpa using hhh .index
        subst hh'
        cases low with
        | none =>
          have hl' : 0 = l := by simpa using hl .index
          subst hl'
          simp [Instr.sliceBounds]
        | some v =>
          have := hl .sliceB
          simp only [Option.map_some] at this
          simp [Instr.sliceBounds, this]
      | some v =>
        have h1 := fun code => hhh code
        simp only [Option.map_some] at h1
        cases low with
        | none =>
          have hl' : 0 = l := by simpa using hl .index
          subst hl'
          simp [Instr.sliceBounds, h1]
        | some v =>
          have h2 := hl .sliceB
          simp only [Option.map_some] at h2
          simp [Instr.sliceBounds, h1, h2]
    | some mv =>
      have h0 := fun code => hm code
      simp only [Option.map_some] at h0
      cases high with
      | none => exact (hne _ rfl rfl).elim
      | some v =>
        have h1 := fun code => hhh code
        simp only [Option.map_some] at h1
        cases low with
        | none =>
          have hl' : 0 = l := by simpa using hl .index
          subst hl'
          simp [Instr.sliceBounds, h0, h1]
        | some v =>
          have h2 := hl .slice3C
          simp only [Option.map_some] at h2
          simp [Instr.sliceBounds, h0, h1, h2]

theorem add_slice (b off l m k : Nat) : (if m = l then (⟨b, off, none⟩ : Addr) else (⟨b, off, none⟩ : Addr).add (l * k)) = ⟨b, if m = l then off else off + l * k, none⟩ := by
  split
  · rfl
  · exact add_plain _ _ _

theorem xSlice_sound {t : TypeId} {x : SV} {low high max : Option SV} {K : SV → T} (h : (xSlice Γ.P t x low high max K).holds Γ) (hx : x.ok s.n) :
    Same Γ β s w ((Instr.sliceAt t (x.den β) (low.map (SV.den β)) (high.map (SV.den β)) (max.map (SV.den β))).run Γ.P w) K := by
  unfold xSlice at h
  split at h
  · rename_i hu
    split at h
    · rename_i str ls
      split at h
      · obtain ⟨l, l0, hh, lh, m, lm, h, hb⟩ := xBounds_sound (β := β) (w := w) h false
        refine ⟨_, ?_, by trivial, h⟩
        simp only [Option.map_none] at hb
        simp [Instr.sliceAt, Instr.slice, run_underlying' hu, SV.den, hb]
      · exact h.elim
    · exact h.elim
  · rename_i elem hu
    split at h
    · rename_i inf hi
      split at h
      · rename_i id off len cap ll lc
        obtain ⟨l, l0, hh, lh, m, lm, h, hb⟩ := xBounds_sound (β := β) (w := w) h true
        refine ⟨_, ?_, ?_, h⟩
        · simp only [Instr.sliceAt, Instr.slice, Sem.run_bind, run_underlying' hu, Result.andThen_ok, SV.den, hb, run_sizeOf hi, Sem.run_pure, Option.map_some]
          rw [← add_slice]
          split <;> rfl
        · exact hx
      · rename_i A len cap
        obtain ⟨l, l0, hh, lh, m, lm, h, hb⟩ := xBounds_sound (β := β) (w := w) h true
        refine ⟨_, ?_, by trivial, h⟩
        simp only [Instr.sliceAt, Instr.slice, Sem.run_bind, run_underlying' hu, Result.andThen_ok, SV.den, hb, run_sizeOf hi, Sem.run_pure]
      · rename_i len cap _
        obtain ⟨l, l0, hh, lh, m, lm, h, hb⟩ := xBounds_sound (β := β) (w := w) h true
        refine ⟨_, ?_, by trivial, h⟩
        simp only [Instr.sliceAt, Instr.slice, Sem.run_bind, run_underlying' hu, Result.andThen_ok, SV.den, hb, run_sizeOf hi, Sem.run_pure, Option.map_none]
        split <;> rfl
      · exact h.elim
    · exact h.elim
  · rename_i n elem hu
    split at h
    · rename_i inf hi
      split at h
      · rename_i id off
        obtain ⟨l, l0, hh, lh, m, lm, h, hb⟩ := xBounds_sound (β := β) (w := w) h false
        refine ⟨_, ?_, ?_, h⟩
        · simp only [Instr.sliceAt, Sem.run_bind, run_underlying' hu, Result.andThen_ok, SV.den, Instr.sureAddr, hb, run_sizeOf hi, Sem.run_pure]
          rw [← add_slice]
        · exact hx
      · exact h.elim
    · exact h.elim
  · rename_i arr hu
    split at h
    · rename_i n elem hua
      split at h
      · rename_i inf hi
        split at h
        · rename_i id off
          obtain ⟨l, l0, hh, lh, m, lm, h, hb⟩ := xBounds_sound (β := β) (w := w) h false
          refine ⟨_, ?_, ?_, h⟩
          · simp only [Instr.sliceAt, Instr.slice, Sem.run_bind, run_underlying' hu, Result.andThen_ok, SV.den, asAddr, run_underlying' hua, hb, run_sizeOf hi, Sem.run_pure]
            rw [← add_slice]
          · exact hx
        · exact h.elim
      · exact h.elim
    · exact h.elim
  · exact h.elim

/-! ### len, cap -/

theorem xLen_sound {t ty : TypeId} {ts : List TypeId} {x : SV} {xs : List SV} {K : SV → T} (h : (xLen Γ.P t x K).holds Γ) :
    Same Γ β s w ((Builtin.len_ (t :: ts).toArray ty (denL β (x :: xs)).toArray).run Γ.P w) K := by
  unfold xLen at h
  split at h
  · rename_i hu
    split at h
    · refine ⟨_, ?_, by trivial, h⟩
      simp [Builtin.len_, denL, SV.den, run_underlying' hu, goInt]
    · exact h.elim
  · rename_i n _ hu
    refine ⟨_, ?_, by trivial, h⟩
    simp [Builtin.len_, denL, SV.den, run_underlying' hu, goInt]
  · rename_i arr hu
    split at h
    · rename_i n _ hua
      refine ⟨_, ?_, by trivial, h⟩
      simp [Builtin.len_, denL, SV.den, run_underlying' hu, run_underlying' hua, goInt]
    · exact h.elim
  · rename_i e hu
    split at h
    · refine ⟨_, ?_, by trivial, h⟩
      simp [Builtin.len_, denL, SV.den, run_underlying' hu, goInt]
    · refine ⟨_, ?_, by trivial, h⟩
      simp [Builtin.len_, denL, SV.den, run_underlying' hu, goInt]
    · refine ⟨_, ?_, by trivial, h⟩
      simp [Builtin.len_, denL, SV.den, run_underlying' hu, goInt]
    · exact h.elim
  · exact h.elim

theorem xCap_sound {t ty : TypeId} {ts : List TypeId} {x : SV} {xs : List SV} {K : SV → T} (h : (xCap Γ.P t x K).holds Γ) :
    Same Γ β s w ((Builtin.cap_ (t :: ts).toArray ty (denL β (x :: xs)).toArray).run Γ.P w) K := by
  unfold xCap at h
  split at h
  · rename_i n _ hu
    refine ⟨_, ?_, by trivial, h⟩
    simp [Builtin.cap_, denL, SV.den, run_underlying' hu, goInt]
  · rename_i e hu
    split at h
    · refine ⟨_, ?_, by trivial, h⟩
      simp [Builtin.cap_, denL, SV.den, run_underlying' hu, goInt]
    · refine ⟨_, ?_, by trivial, h⟩
      simp [Builtin.cap_, denL, SV.den, run_underlying' hu, goInt]
    · refine ⟨_, ?_, by trivial, h⟩
      simp [Builtin.cap_, denL, SV.den, run_underlying' hu, goInt]
    · exact h.elim
  · exact h.elim

end Go.Rx
end

