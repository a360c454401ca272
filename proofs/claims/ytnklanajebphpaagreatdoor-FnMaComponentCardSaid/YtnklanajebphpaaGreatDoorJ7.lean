/- Joined texts: M32 M33 M34 M35 M36 M37 M38 K21 K22 M39 M40 M42 K10. -/
import Derived.Test.YtnklanajebphpaaGreatDoorJ6
import Derived.Test.YtnklanajebphpaaGreatDoorJ3
set_option maxRecDepth 100000
set_option maxHeartbeats 4000000
set_option linter.unusedVariables false
set_option linter.unusedSimpArgs false
namespace Go.Proofs.YtnklanajebphpaaGreatDoor
open IntKind
section
open Go Go.Rx Go.RowKit
noncomputable abbrev wv(x0:(LoopHook.X (dX))):List SV:=[(.str x0.fst.s false),(.raw (x0.snd 1)),(.ptr 0 0),(.bool false true),(.ptr 1 0),(.int .i64 x0.fst.e false),(.int .i64 ((↑x0.fst.i:Int)) false),(.raw (x0.snd 7)),(.raw (x0.snd 8)),(.int .i64 (i64.wrap ((16:Int)-(↑x0.fst.i:Int))) false),(.int .i64 (i64.wrap ((↑x0.fst.i:Int)-(1:Int))) false),(.raw (x0.snd 11)),(.raw (x0.snd 12)),(.raw (x0.snd 13)),(.raw (x0.snd 14)),(.raw (x0.snd 15)),(.raw (x0.snd 16)),(.raw (x0.snd 17)),(.raw (x0.snd 18)),(.raw (x0.snd 19)),(.raw (x0.snd 20)),(.raw (x0.snd 21)),(.raw (x0.snd 22)),(.raw (x0.snd 23)),(.raw (x0.snd 24)),(.raw (x0.snd 25)),(.raw (x0.snd 26)),(.raw (x0.snd 27)),(.raw (x0.snd 28)),(.raw (x0.snd 29)),(.raw (x0.snd 30)),(.raw (x0.snd 31)),(.raw (x0.snd 32)),(.raw (x0.snd 33)),(.raw (x0.snd 34)),(.raw (x0.snd 35)),(.raw (x0.snd 36)),(.raw (x0.snd 37)),(.raw (x0.snd 38)),(.raw (x0.snd 39)),(.raw (x0.snd 40)),(.raw (x0.snd 41)),(.raw (x0.snd 42)),(.raw (x0.snd 43)),(.raw (x0.snd 44)),(.raw (x0.snd 45)),(.raw (x0.snd 46)),(.raw (x0.snd 47)),(.raw (x0.snd 48)),(.raw (x0.snd 49)),(.raw (x0.snd 50)),(.raw (x0.snd 51)),(.raw (x0.snd 52)),(.raw (x0.snd 53)),(.raw (x0.snd 54)),(.raw (x0.snd 55)),(.raw (x0.snd 56)),(.raw (x0.snd 57)),(.raw (x0.snd 58)),(.raw (x0.snd 59)),(.raw (x0.snd 60)),(.raw (x0.snd 61)),(.raw (x0.snd 62)),(.raw (x0.snd 63)),(.raw (x0.snd 64)),(.raw (x0.snd 65)),(.raw (x0.snd 66)),(.raw (x0.snd 67)),(.raw (x0.snd 68)),(.raw (x0.snd 69)),(.raw (x0.snd 70)),(.raw (x0.snd 71)),(.raw (x0.snd 72)),(.raw (x0.snd 73)),(.raw (x0.snd 74)),(.raw (x0.snd 75)),(.raw (x0.snd 76)),(.raw (x0.snd 77)),(.raw (x0.snd 78)),(.raw (x0.snd 79)),(.raw (x0.snd 80)),(.raw (x0.snd 81)),(.raw (x0.snd 82)),(.raw (x0.snd 83)),(.raw (x0.snd 84)),(.raw (x0.snd 85)),(.raw (x0.snd 86)),(.raw (x0.snd 87)),(.raw (x0.snd 88)),(.raw (x0.snd 89)),(.raw (x0.snd 90)),(.raw (x0.snd 91)),(.raw (x0.snd 92)),(.raw (x0.snd 93)),(.raw (x0.snd 94)),(.raw (x0.snd 95)),(.raw (x0.snd 96)),(.raw (x0.snd 97)),(.raw (x0.snd 98)),(.raw (x0.snd 99)),(.raw (x0.snd 100)),(.raw (x0.snd 101)),(.raw (x0.snd 102)),(.raw (x0.snd 103)),(.raw (x0.snd 104)),(.raw (x0.snd 105)),(.raw (x0.snd 106)),(.raw (x0.snd 107)),(.raw (x0.snd 108)),(.raw (x0.snd 109)),(.raw (x0.snd 110)),(.raw (x0.snd 111)),(.raw (x0.snd 112)),(.raw (x0.snd 113)),(.raw (x0.snd 114)),(.raw (x0.snd 115)),(.raw (x0.snd 116)),(.raw (x0.snd 117)),(.raw (x0.snd 118)),(.raw (x0.snd 119)),(.raw (x0.snd 120)),(.raw (x0.snd 121)),(.raw (x0.snd 122)),(.raw (x0.snd 123)),(.raw (x0.snd 124)),(.raw (x0.snd 125)),(.raw (x0.snd 126)),(.raw (x0.snd 127)),(.raw (x0.snd 128)),(.raw (x0.snd 129)),(.raw (x0.snd 130)),(.raw (x0.snd 131)),(.raw (x0.snd 132)),(.str x0.fst.s false),(.int .i64 ((↑x0.fst.s.size:Int)) false),(.bool false true),(.raw (x0.snd 136)),(.int .i64 ((↑x0.fst.i:Int)) false),(.bool true true),(.int .i64 x0.fst.e false),(.bool false true),(.raw (x0.snd 141)),(.int .i64 ((↑x0.fst.i:Int)) false),(.int .i64 (i64.wrap ((16:Int)-(↑x0.fst.i:Int))) false),(.int .i64 ((↑x0.fst.i:Int)) false),(.int .i64 (i64.wrap ((↑x0.fst.i:Int)-(1:Int))) false),(.raw (x0.snd 146)),(.raw (x0.snd 147)),(.raw (x0.snd 148)),(.raw (x0.snd 149)),(.raw (x0.snd 150)),(.raw (x0.snd 151)),(.raw (x0.snd 152)),(.raw (x0.snd 153)),(.raw (x0.snd 154)),(.raw (x0.snd 155)),(.raw (x0.snd 156)),(.raw (x0.snd 157)),(.raw (x0.snd 158)),(.raw (x0.snd 159)),(.raw (x0.snd 160)),(.raw (x0.snd 161)),(.raw (x0.snd 162)),(.raw (x0.snd 163)),(.raw (x0.snd 164)),(.raw (x0.snd 165)),(.raw (x0.snd 166)),(.raw (x0.snd 167)),(.raw (x0.snd 168)),(.raw (x0.snd 169)),(.raw (x0.snd 170)),(.raw (x0.snd 171))]
noncomputable abbrev ww(x1:(LoopHook.X (jM))):List SV:=[(.raw (x1.snd 0)),(.raw (x1.snd 1)),(.ptr 0 0),(.bool false true),(.ptr 1 0),(.int .i64 x1.fst.e false),(.raw (x1.snd 6)),(.raw (x1.snd 7)),(.raw (x1.snd 8)),(.int .i64 x1.fst.n false),(.raw (x1.snd 10)),(.int .i64 x1.fst.e false),(.raw (x1.snd 12)),(.raw (x1.snd 13)),(.raw (x1.snd 14)),(.raw (x1.snd 15)),(.raw (x1.snd 16)),(.raw (x1.snd 17)),(.raw (x1.snd 18)),(.raw (x1.snd 19)),(.raw (x1.snd 20)),(.raw (x1.snd 21)),(.raw (x1.snd 22)),(.raw (x1.snd 23)),(.raw (x1.snd 24)),(.raw (x1.snd 25)),(.raw (x1.snd 26)),(.raw (x1.snd 27)),(.raw (x1.snd 28)),(.raw (x1.snd 29)),(.raw (x1.snd 30)),(.raw (x1.snd 31)),(.raw (x1.snd 32)),(.raw (x1.snd 33)),(.raw (x1.snd 34)),(.raw (x1.snd 35)),(.raw (x1.snd 36)),(.raw (x1.snd 37)),(.raw (x1.snd 38)),(.raw (x1.snd 39)),(.raw (x1.snd 40)),(.raw (x1.snd 41)),(.raw (x1.snd 42)),(.raw (x1.snd 43)),(.raw (x1.snd 44)),(.raw (x1.snd 45)),(.raw (x1.snd 46)),(.raw (x1.snd 47)),(.raw (x1.snd 48)),(.raw (x1.snd 49)),(.raw (x1.snd 50)),(.raw (x1.snd 51)),(.raw (x1.snd 52)),(.raw (x1.snd 53)),(.raw (x1.snd 54)),(.raw (x1.snd 55)),(.raw (x1.snd 56)),(.raw (x1.snd 57)),(.raw (x1.snd 58)),(.raw (x1.snd 59)),(.raw (x1.snd 60)),(.raw (x1.snd 61)),(.raw (x1.snd 62)),(.raw (x1.snd 63)),(.raw (x1.snd 64)),(.raw (x1.snd 65)),(.raw (x1.snd 66)),(.raw (x1.snd 67)),(.raw (x1.snd 68)),(.raw (x1.snd 69)),(.raw (x1.snd 70)),(.raw (x1.snd 71)),(.raw (x1.snd 72)),(.raw (x1.snd 73)),(.raw (x1.snd 74)),(.raw (x1.snd 75)),(.raw (x1.snd 76)),(.raw (x1.snd 77)),(.raw (x1.snd 78)),(.raw (x1.snd 79)),(.raw (x1.snd 80)),(.raw (x1.snd 81)),(.raw (x1.snd 82)),(.raw (x1.snd 83)),(.raw (x1.snd 84)),(.raw (x1.snd 85)),(.raw (x1.snd 86)),(.raw (x1.snd 87)),(.raw (x1.snd 88)),(.raw (x1.snd 89)),(.raw (x1.snd 90)),(.raw (x1.snd 91)),(.raw (x1.snd 92)),(.raw (x1.snd 93)),(.raw (x1.snd 94)),(.raw (x1.snd 95)),(.raw (x1.snd 96)),(.raw (x1.snd 97)),(.raw (x1.snd 98)),(.raw (x1.snd 99)),(.raw (x1.snd 100)),(.raw (x1.snd 101)),(.raw (x1.snd 102)),(.raw (x1.snd 103)),(.raw (x1.snd 104)),(.raw (x1.snd 105)),(.raw (x1.snd 106)),(.raw (x1.snd 107)),(.raw (x1.snd 108)),(.raw (x1.snd 109)),(.raw (x1.snd 110)),(.raw (x1.snd 111)),(.raw (x1.snd 112)),(.raw (x1.snd 113)),(.raw (x1.snd 114)),(.raw (x1.snd 115)),(.raw (x1.snd 116)),(.raw (x1.snd 117)),(.raw (x1.snd 118)),(.raw (x1.snd 119)),(.raw (x1.snd 120)),(.raw (x1.snd 121)),(.raw (x1.snd 122)),(.raw (x1.snd 123)),(.raw (x1.snd 124)),(.raw (x1.snd 125)),(.raw (x1.snd 126)),(.raw (x1.snd 127)),(.raw (x1.snd 128)),(.raw (x1.snd 129)),(.raw (x1.snd 130)),(.raw (x1.snd 131)),(.raw (x1.snd 132)),(.raw (x1.snd 133)),(.raw (x1.snd 134)),(.raw (x1.snd 135)),(.raw (x1.snd 136)),(.raw (x1.snd 137)),(.raw (x1.snd 138)),(.raw (x1.snd 139)),(.raw (x1.snd 140)),(.raw (x1.snd 141)),(.raw (x1.snd 142)),(.raw (x1.snd 143)),(.raw (x1.snd 144)),(.raw (x1.snd 145)),(.raw (x1.snd 146)),(.raw (x1.snd 147)),(.raw (x1.snd 148)),(.raw (x1.snd 149)),(.raw (x1.snd 150)),(.raw (x1.snd 151)),(.raw (x1.snd 152)),(.raw (x1.snd 153)),(.raw (x1.snd 154)),(.raw (x1.snd 155)),(.raw (x1.snd 156)),(.raw (x1.snd 157)),(.int .i64 x1.fst.e false),(.raw (x1.snd 159)),(.raw (x1.snd 160)),(.raw (x1.snd 161)),(.raw (x1.snd 162)),(.raw (x1.snd 163)),(.raw (x1.snd 164)),(.raw (x1.snd 165)),(.raw (x1.snd 166)),(.raw (x1.snd 167)),(.raw (x1.snd 168)),(.raw (x1.snd 169)),(.raw (x1.snd 170)),(.raw (x1.snd 171))]
noncomputable abbrev g6(x0:(LoopHook.X (dX))):List SV:=[(.int .u8 (x0.fst.q 0) false),(.int .u8 (x0.fst.q 1) false),(.int .u8 (x0.fst.q 2) false),(.int .u8 (x0.fst.q 3) false),(.int .u8 (x0.fst.q 4) false),(.int .u8 (x0.fst.q 5) false),(.int .u8 (x0.fst.q 6) false),(.int .u8 (x0.fst.q 7) false),(.int .u8 (x0.fst.q 8) false),(.int .u8 (x0.fst.q 9) false),(.int .u8 (x0.fst.q 10) false),(.int .u8 (x0.fst.q 11) false),(.int .u8 (x0.fst.q 12) false),(.int .u8 (x0.fst.q 13) false),(.int .u8 (x0.fst.q 14) false),(.int .u8 (x0.fst.q 15) false)]
noncomputable abbrev eY:List SV:=gO
noncomputable abbrev qj(x1:(LoopHook.X (jM))):SObj:=(.cells [(.int .u8 (x1.fst.q 0) false),(.int .u8 (x1.fst.q 1) false),(.int .u8 (x1.fst.q 2) false),(.int .u8 (x1.fst.q 3) false),(.int .u8 (x1.fst.q 4) false),(.int .u8 (x1.fst.q 5) false),(.int .u8 (x1.fst.q 6) false),(.int .u8 (x1.fst.q 7) false),(.int .u8 (x1.fst.q 8) false),(.int .u8 (x1.fst.q 9) false),(.int .u8 (x1.fst.q 10) false),(.int .u8 (x1.fst.q 11) false),(.int .u8 (x1.fst.q 12) false),(.int .u8 (x1.fst.q 13) false),(.int .u8 (x1.fst.q 14) false),(.int .u8 (x1.fst.q 15) false)] 16 188 0 0)
noncomputable abbrev qk(x2:(LoopHook.X (kT))):List SV:=[(.int .u8 (x2.fst 0) false),(.int .u8 (x2.fst 1) false),(.int .u8 (x2.fst 2) false),(.int .u8 (x2.fst 3) false),(.int .u8 (x2.fst 4) false),(.int .u8 (x2.fst 5) false),(.int .u8 (x2.fst 6) false),(.int .u8 (x2.fst 7) false),(.int .u8 (x2.fst 8) false),(.int .u8 (x2.fst 9) false),(.int .u8 (x2.fst 10) false),(.int .u8 (x2.fst 11) false),(.int .u8 (x2.fst 12) false),(.int .u8 (x2.fst 13) false),(.int .u8 (x2.fst 14) false),(.int .u8 (x2.fst 15) false)]
noncomputable abbrev ql(x0:(LoopHook.X (dX)))(w0:World)(b0:List Nat):T:=(.leaf .ret [(.tup [(.agg (g6 x0)),(.bool false true)])] (SS.mk [(.cells (g6 x0) 16 188 0 0),(.cells (g6 x0) 16 188 0 0)] [] true w0 b0))
noncomputable abbrev ss(x0:(LoopHook.X (dX)))(w0:World)(b0:List Nat):T:=(.split ((↑x0.fst.s.size:Int) != (0:Int)) (ql x0 w0 b0) (.split (decide ((↑x0.fst.i:Int)<(16:Int))) (.split (decide (x0.fst.e<(0:Int))) (ql x0 w0 b0) (.loop 301 (av Tryz.prog 301 44) (wv x0) (SS.mk [(.cells eY 16 188 0 0),(.cells (g6 x0) 16 188 0 0)] [] true w0 b0) (LoopHook.X (jM)) (LoopHook.out (jM) (wv x0) (SS.mk [(.cells eY 16 188 0 0),(.cells (g6 x0) 16 188 0 0)] [] true w0 b0)) (fun x1 w1 b1=>(.loop 301 (av Tryz.prog 301 48) (ww x1) (SS.mk [(.cells eY 16 188 0 0),(qj x1)] [] true w1 b1) (LoopHook.X (kT)) (LoopHook.out (kT) (ww x1) (SS.mk [(.cells eY 16 188 0 0),(qj x1)] [] true w1 b1)) (fun x2 w2 b2=>(.leaf .ret [(.tup [(.agg (qk x2)),(.bool true true)])] (SS.mk [(.cells (qk x2) 16 188 0 0),(.cells (qk x2) 16 188 0 0)] [] true w2 b2))) (LoopHook.Y (kT)) (LoopHook.out' (kT) (ww x1) (SS.mk [(.cells eY 16 188 0 0),(qj x1)] [] true w1 b1)) (fun x2 w2 b2=>(.bad "a result's cell")))) (LoopHook.Y (jM)) (LoopHook.out' (jM) (wv x0) (SS.mk [(.cells eY 16 188 0 0),(.cells (g6 x0) 16 188 0 0)] [] true w0 b0)) (fun x1 w1 b1=>(.bad "a result's cell")))) (.split (decide (x0.fst.e ≥ (0:Int))) (ql x0 w0 b0) (.leaf .ret [(.tup [(.agg (g6 x0)),(.bool true true)])] (SS.mk [(.cells (g6 x0) 16 188 0 0),(.cells (g6 x0) 16 188 0 0)] [] true w0 b0)))))
noncomputable abbrev eg(w:World):SS:=(SS.mk [(.cells eY 16 188 0 0),(.cells eY 16 188 0 0)] [] true w [])
noncomputable abbrev kL(s:ByteArray):Int:=(↑(s.data.toList.getD 0 (0:UInt8)).toNat:Int)
noncomputable abbrev kM(s:ByteArray):Int:=(↑(s.data.toList.getD 1 (0:UInt8)).toNat:Int)
noncomputable abbrev ng(s:ByteArray):SV:=(.bool (decide ((↑s.size:Int) ≥ (2:Int))) false)
noncomputable abbrev i6(s:ByteArray):SV:=(.bool ((kL s) == (58:Int)) false)
noncomputable abbrev wo(s:ByteArray):List SV:=[(.str (s.extract 2 s.size) false),(.tup []),(.ptr 0 0),(.bool false true),(.ptr 1 0),(.int .i64 0 true),(.int .i64 0 true),(.tup []),(.tup []),(.tup []),(.tup []),(.tup []),(.str s false),(.int .i64 ((↑s.size:Int)) false),(ng s),(.bool true true),(.str s false),(.int .u8 ((kL s)) false),(i6 s),(i6 s),(.bool true true),(.str s false),(.int .u8 ((kM s)) false),(.bool ((kM s) == (58:Int)) false),(.bool true true),(.str s false),(.str (s.extract 2 s.size) false),(.str (s.extract 2 s.size) false),(.int .i64 ((↑(s.extract 2 s.size).size:Int)) false),(.bool false true)]
noncomputable abbrev wq(s:ByteArray):List SV:=[(.str s false),(.tup []),(.ptr 0 0),(.bool false true),(.ptr 1 0),(.int .i64 (-1) true),(.int .i64 0 true),(.tup []),(.tup []),(.tup []),(.tup []),(.tup []),(.str s false),(.int .i64 ((↑s.size:Int)) false),(ng s),(.bool true true),(.str s false),(.int .u8 ((kL s)) false),(i6 s),(i6 s),(.bool true true),(.str s false),(.int .u8 ((kM s)) false),(.bool ((kM s) == (58:Int)) false),(.bool false true)]
noncomputable abbrev ws(s:ByteArray):List SV:=[(.str s false),(.tup []),(.ptr 0 0),(.bool false true),(.ptr 1 0),(.int .i64 (-1) true),(.int .i64 0 true),(.tup []),(.tup []),(.tup []),(.tup []),(.tup []),(.str s false),(.int .i64 ((↑s.size:Int)) false),(ng s),(.bool true true),(.str s false),(.int .u8 ((kL s)) false),(i6 s),(i6 s),(.bool false true),(.tup []),(.tup []),(.tup []),(.bool false true)]
noncomputable abbrev wu(s:ByteArray):List SV:=[(.str s false),(.tup []),(.ptr 0 0),(.bool false true),(.ptr 1 0),(.int .i64 (-1) true),(.int .i64 0 true),(.tup []),(.tup []),(.tup []),(.tup []),(.tup []),(.str s false),(.int .i64 ((↑s.size:Int)) false),(ng s),(.bool false true),(.tup []),(.tup []),(.tup []),(.bool false true),(.bool false true),(.tup []),(.tup []),(.tup []),(.bool false true)]
theorem Im(s:ByteArray)(w:World):al Tryz.prog qQ 500 301 [.str s false] (SS.mk [] [] true w []) =
(.split (decide ((↑s.size:Int) ≥ (2:Int))) (.need ((0:Int)<=(0:Int)/\(0:Int)<(↑s.size:Int)) (.split ((kL s) == (58:Int)) (.need ((0:Int)<=(1:Int)/\(1:Int)<(↑s.size:Int)) (.split ((kM s) == (58:Int)) (.need ((0:Int)<=(2:Int)/\(2:Int)<=(↑s.size:Int)) (.split ((↑(s.extract 2 s.size).size:Int) == (0:Int)) (.leaf .ret [(.tup [(.agg eY),(.bool true true)])] (eg w)) (.loop 301 (av Tryz.prog 301 10) ((wo s)++List.replicate 142 az) (eg w) (LoopHook.X (dX)) (LoopHook.out (dX) ((wo s)++List.replicate 142 az) (eg w)) (fun x0 w0 b0=>(ss x0 w0 b0)) (LoopHook.Y (dX)) (LoopHook.out' (dX) ((wo s)++List.replicate 142 az) (eg w)) (fun x0 w0 b0=>(.bad "a result's cell"))))) (.loop 301 (av Tryz.prog 301 10) ((wq s)++List.replicate 147 az) (eg w) (LoopHook.X (dX)) (LoopHook.out (dX) ((wq s)++List.replicate 147 az) (eg w)) (fun x0 w0 b0=>(ss x0 w0 b0)) (LoopHook.Y (dX)) (LoopHook.out' (dX) ((wq s)++List.replicate 147 az) (eg w)) (fun x0 w0 b0=>(.bad "a result's cell"))))) (.loop 301 (av Tryz.prog 301 10) ((ws s)++List.replicate 147 az) (eg w) (LoopHook.X (dX)) (LoopHook.out (dX) ((ws s)++List.replicate 147 az) (eg w)) (fun x0 w0 b0=>(ss x0 w0 b0)) (LoopHook.Y (dX)) (LoopHook.out' (dX) ((ws s)++List.replicate 147 az) (eg w)) (fun x0 w0 b0=>(.bad "a result's cell"))))) (.loop 301 (av Tryz.prog 301 10) ((wu s)++List.replicate 147 az) (eg w) (LoopHook.X (dX)) (LoopHook.out (dX) ((wu s)++List.replicate 147 az) (eg w)) (fun x0 w0 b0=>(ss x0 w0 b0)) (LoopHook.Y (dX)) (LoopHook.out' (dX) ((wu s)++List.replicate 147 az) (eg w)) (fun x0 w0 b0=>(.bad "a result's cell")))):=by kernel_rfl
theorem Mh(s:ByteArray)(w:World):(by have h:=Im s w;unfold wu ws wq wo i6 ng kM kL eg ss ql qk qj eY g6 ww wv at h;exact type_of% h):=Im s w
theorem fk{l:List Int}{a k:Nat}{v:Int}(h:a<l.length):(l.set a v).getD k 0=if k=a then v else l.getD k 0:=by
 rw[List.getD_eq_getElem?_getD,List.getD_eq_getElem?_getD]
 by_cases hk:k=a
 ·subst hk
  rw[List.getElem?_set_self h,if_pos rfl];rfl
 ·rw[List.getElem?_set_ne (fun e=>hk e.symm),if_neg hk]
def je(P:List Nat)(Q:Option (List Nat)):List Int:=match Q with
 |none=>qx P
 |some B=>qx P++List.replicate (16-2*(P.length+B.length)) 0++qx B
def tI(E I:Nat)(q q':Nat->Int):Prop:=∀j,j<16->q' j=if j<E then q j else if j<E+(16-I) then 0 else q (j-(16-I))
theorem lg{P B:List Nat}{i:Nat}{q q':Nat->Int}(hi:i=2*(P.length+B.length))(h16:i<=16)(hq:∀j,j<i->q j=(qx (P++(some B).getD [])).getD j 0)(hs:tI (2*P.length) i q q')(j:Nat)(hj:j<16) :
  q' j=(je P (some B)).getD j 0:=by
 rw[hs j hj]
 have lP:=py P
 have lB:=py B
 simp only[je,Option.getD_some,yU,List.getD_eq_getElem?_getD]at hq ⊢
 split
 ·rename_i h1
  rw[hq j (by omega),List.getElem?_append_left (by omega),List.append_assoc,List.getElem?_append_left (by omega)]
 ·rename_i h1
  split
  ·rename_i h2
   rw[List.append_assoc,List.getElem?_append_right (by omega),List.getElem?_append_left (by simp;omega),List.getElem?_replicate,if_pos (by omega)]
   rfl
  ·rename_i h2
   rw[hq _ (by omega),List.getElem?_append_right (by omega),List.getElem?_append_right (by simp;omega)]
   congr 2
   simp
   omega
def MQ(E I:Nat)(q:Nat->Int)(z:F6):Prop:=
 z.e=(E:Int)/\z.n=((16-I:Nat):Int)/\z.l.length=16/\(E:Int)-1<=z.j/\z.j<=(I:Int)-1/\(∀k:Nat,(k:Int)<=z.j->z.l.getD k 0=q k)/\(∀k:Nat,z.j<(k:Int)->k<I->z.l.getD (k+(16-I)) 0=q k)
def IH(E I:Nat)(q:Nat->Int)(x:G6):Prop:=
 x.e=(E:Int)/\x.n=((16-I:Nat):Int)/\(∀k,k<E->x.q k=q k)/\(∀k,E<=k->k<I->x.q (k+(16-I))=q k)
def MR(E I:Nat)(q:Nat->Int)(z:F6):Prop:=
 z.e=(E:Int)/\z.n=((16-I:Nat):Int)/\z.l.length=16/\∃j:Nat,z.j=(j:Int)/\E<=j/\j<=E+(16-I)/\(∀k,k<E->z.l.getD k 0=q k)/\(∀k,E<=k->k<j->z.l.getD k 0=0)/\(∀k,E<=k->k<I->z.l.getD (k+(16-I)) 0=q k)
theorem y5(q:Nat->Int){k:Nat}(hk:k<16):([q 0,q 1,q 2,q 3,q 4,q 5,q 6,q 7,q 8,q 9,q 10,q 11,q 12,q 13,q 14,q 15]:List Int).getD k 0=q k:=by
 match k,hk with
 |0,_ |1,_ |2,_ |3,_ |4,_ |5,_ |6,_ |7,_ |8,_ |9,_ |10,_ |11,_ |12,_ |13,_ |14,_ |15,_=>rfl
 |n+16,h=>omega
theorem uB{s s0:SS}{a a0:List SV}{w:World}{E I:Nat}{q q1:Nat->Int}{Q:SE->List Value->World->Prop}{k:(Nat->Int)×(Nat->Value)->World->List Nat->T}{k':Unit×(Nat->Value)->World->List Nat->T}(hf:Fine w s)(hgl:s.gl=[])(hobj:s.objs=bT q1)
  (hI:I<=16) (hE:E<=I) (hN:a.length=172) (hq1:IH E I q ⟨E,((16-I:Nat):Int),q1⟩) (hsel:∀β,gu B7 .normal (af β a)=af β (oP ⟨E,((16-I:Nat):Int),E,[q1 0,q1 1,q1 2,q1 3,q1 4,q1 5,q1 6,q1 7,q1 8,q1 9,q1 10,q1 11,q1 12,q1 13,q1 14,q1 15]⟩))
  (hk:∀q' w' g bs,Below w.heap.size w w'->(∀b∈bs,w.heap.size<=b)->tI E I q q'->(k (q',g) w' bs).holds (c8 Tryz.prog Q)) :
  (T.loop 301 (av Tryz.prog 301 48) a s (LoopHook.X kT) (LoopHook.out kT a0 s0) k (LoopHook.Y kT) (LoopHook.out' kT a0 s0) k').holds (c8 Tryz.prog Q):=by
 obtain⟨_,_,hqa,hqb⟩:=hq1
 dsimp only at hqa hqb
 refine jg (w:=w) hf hgl 2 (by show s.objs.length=2;rw[hobj];rfl) B7 oP (fun z=>aV z.l) (fun z=>(16-z.j).toNat) (fun _ z _=>MR E I q z) (fun _ q' _=>tI E I q q') (fun _ _ _=>False) (fun _=>qQ) 1000
  hN (by simp[B7]) (by simp[B7]) (fun _=>⟨(pG 2 (by omega)).1,trivial,(pG 2 (by omega)).2,trivial,trivial,trivial,trivial⟩) (fun _=>aP _) rfl rfl (by simp) (by simp) (fun _=>⟨⟨(pG 2 (by omega)).1,trivial,(pG 2 (by omega)).2,trivial⟩,dQ _⟩) (fun _=>⟨trivial,dQ _⟩) ?_ ?_ ?_ ?_
 ·rintro β w0 z w1 g hb0 ⟨h1,h2,h3,j,hj,hj1,hj2,k1,k2,k3⟩ hkp hge
  refine ah (LY z w1 (ac β 2) g) ?_
  have e1:i64.wrap (z.e+z.n)=((E+(16-I):Nat):Int):=by rw[h1,h2,aq (by omega) (by omega)];omega
  have e2:i64.wrap (z.j+1)=((j+1:Nat):Int):=by rw[hj,aq (by omega) (by omega)];omega
  rw[e1,e2]
  refine ak (fun hlt=>?_) (fun hge2=>?_)
  ·rw[hj]
   simp only[Int.toNat_natCast,Nat.zero_add,Nat.mul_one]
   refine aa (by omega) (aa (by omega) (aa rfl ?_))
   refine aJ ⟨rfl,hkp,fun b hb=>.inl hb⟩ fun β' w' hst hk'=>⟨⟨z.e,z.n,((j+1:Nat):Int),z.l.set j 0⟩,by show(16-((j+1:Nat):Int)).toNat<(16-z.j).toNat;omega,?_,hst.objsAt rfl (aP _).2,⟨h1,h2,by simp[h3],j+1,rfl,by omega,by omega,fun k hk=>?_,fun k hk1 hk2=>?_,fun k hk1 hk2=>?_⟩,hk'⟩
   ·have h0:=hst.base 0 (by show 0<2;omega)
    have h1:=hst.base 1 (by show 1<2;omega)
    simp only[oP,af,SV.den]
    rw[h0,h1]
   ·show(z.l.set j 0).getD k 0=_
    rw[fk (by omega),if_neg (by omega)]
    exact k1 k hk
   ·show(z.l.set j 0).getD k 0=_
    rw[fk (by omega)]
    split
    ·rfl
    ·exact k2 k hk1 (by omega)
   ·show(z.l.set j 0).getD _ 0=_
    rw[fk (by omega),if_neg (by omega)]
    exact k3 k hk1 hk2
  ·have hje:j=E+(16-I):=by omega
   refine aJ ⟨rfl,hkp,fun b hb=>.inl hb⟩ fun β' w' hst hk'=>⟨.inl ⟨fun k=>z.l.getD k 0,rfl,?_,iE (hst.objsAt rfl (aP _).2) h3,fun k hk=>?_⟩,hk'⟩
   ·have h0:=hst.base 0 (by show 0<2;omega)
    have h1:=hst.base 1 (by show 1<2;omega)
    simp only[GO,af,SV.den]
    rw[h0,h1]
   ·show z.l.getD k 0=_
    split
    ·exact k1 k ‹_›
    ·split
     ·exact k2 k (by omega) (by omega)
     ·have:=k3 (k-(16-I)) (by omega) (by omega)
      rw[show k-(16-I)+(16-I)=k by omega]at this
      exact this
 ·intro β w0 hst hb
  refine⟨⟨E,((16-I:Nat):Int),E,_⟩,hsel β,iw (q:=q1) fun i o hi=>hst.at_ i o (by rw[hobj];exact hi),rfl,rfl,rfl,E,rfl,Nat.le_refl _,by omega,fun k hk=>?_,fun k h1 h2=>by omega,fun k h1 h2=>?_⟩
  ·show List.getD _ k 0=_
   rw[y5 q1 (by omega)]
   exact hqa k hk
  ·show List.getD _ _ 0=_
   rw[y5 q1 (by omega)]
   exact hqb k h1 h2
 ·rintro w0 q' w' hsh hb0 hb1 g bs hbs
  exact hk q' w' g bs hb1 hbs hsh
 ·rintro w0 q' w' h
  exact h.elim
theorem uz{s s0:SS}{a a0:List SV}{w:World}{E I:Nat}{q:Nat->Int}{Q:SE->List Value->World->Prop}{k:G6×(Nat->Value)->World->List Nat->T}{k':Unit×(Nat->Value)->World->List Nat->T}(hf:Fine w s)(hgl:s.gl=[])(hobj:s.objs=bT q)
  (hI:I<=16) (hE:E<=I) (hN:a.length=172) (hsel:∀β,gu B6 .normal (af β a)=af β (oP ⟨E,((16-I:Nat):Int),(I:Int)-1,[q 0,q 1,q 2,q 3,q 4,q 5,q 6,q 7,q 8,q 9,q 10,q 11,q 12,q 13,q 14,q 15]⟩))
  (hk:∀x w' g bs,Below w.heap.size w w'->(∀b∈bs,w.heap.size<=b)->IH E I q x->(k (x,g) w' bs).holds (c8 Tryz.prog Q)) :
  (T.loop 301 (av Tryz.prog 301 44) a s (LoopHook.X jM) (LoopHook.out jM a0 s0) k (LoopHook.Y jM) (LoopHook.out' jM a0 s0) k').holds (c8 Tryz.prog Q):=by
 refine jg (w:=w) hf hgl 2 (by show s.objs.length=2;rw[hobj];rfl) B6 oP (fun z=>aV z.l) (fun z=>(z.j+1).toNat) (fun _ z _=>MQ E I q z) (fun _ x _=>IH E I q x) (fun _ _ _=>False) (fun _=>qQ) 1000
  hN (by simp[B6]) (by simp[B6]) (fun _=>⟨(pG 2 (by omega)).1,trivial,(pG 2 (by omega)).2,trivial,trivial,trivial,trivial⟩) (fun _=>aP _) rfl rfl (by simp) (by simp) (fun _=>⟨⟨(pG 2 (by omega)).1,trivial,(pG 2 (by omega)).2,trivial,trivial,trivial⟩,dQ _⟩) (fun _=>⟨trivial,dQ _⟩) ?_ ?_ ?_ ?_
 ·rintro β w0 z w1 g hb0 ⟨h1,h2,h3,hj1,hj2,k1,k2⟩ hkp hge
  refine ah (LX z w1 (ac β 2) g) ?_
  rw[h1]
  refine ak (fun hlt=>?_) (fun hge2=>?_)
  ·obtain⟨j,hj⟩:=Int.eq_ofNat_of_zero_le (show 0<=z.j by omega)
   have e1:i64.wrap (z.j+z.n)=((j+(16-I):Nat):Int):=by rw[h2,aq (by omega) (by omega)];omega
   have e2:i64.wrap (z.j-1)=(j:Int)-1:=by
    rcases Nat.eq_zero_or_pos j with h0 |h0
    ·subst h0
     rw[hj];rfl
    ·rw[aq (by omega) (by omega)];omega
   rw[e1,e2,hj]
   simp only[Int.toNat_natCast,Nat.zero_add,Nat.mul_one]
   refine aa (by omega) (aa (by omega) (aa (by omega) (aa (by omega) (aa rfl ?_))))
   refine aJ ⟨rfl,hkp,fun b hb=>.inl hb⟩ fun β' w' hst hk'=>⟨⟨E,z.n,(j:Int)-1,z.l.set (j+(16-I)) (z.l.getD j 0)⟩,by show((j:Int)-1+1).toNat<(z.j+1).toNat;omega,?_,hst.objsAt rfl (aP _).2,⟨rfl,h2,by simp[h3],by show(E:Int)-1<=(j:Int)-1;omega,by show(j:Int)-1<=(I:Int)-1;omega,fun k hk=>?_,fun k hk1 hk2=>?_⟩,hk'⟩
   ·have h0:=hst.base 0 (by show 0<2;omega)
    have h1:=hst.base 1 (by show 1<2;omega)
    simp only[oP,af,SV.den]
    rw[h0,h1]
   ·show(z.l.set _ _).getD k 0=_
    replace hk:(k:Int)<=(j:Int)-1:=hk
    rw[fk (by omega),if_neg (by omega)]
    exact k1 k (by omega)
   ·show(z.l.set _ _).getD _ 0=_
    replace hk1:(j:Int)-1<(k:Int):=hk1
    rw[fk (by omega)]
    split
    ·rename_i he
     have:k=j:=by omega
     subst this
     exact k1 k (by omega)
    ·exact k2 k (by omega) hk2
  ·have hje:z.j=(E:Int)-1:=by omega
   refine aJ ⟨rfl,hkp,fun b hb=>.inl hb⟩ fun β' w' hst hk'=>⟨.inl ⟨⟨E,z.n,fun k=>z.l.getD k 0⟩,rfl,?_,iE (hst.objsAt rfl (aP _).2) h3,rfl,h2,fun k hk=>k1 k (by omega),fun k hk1 hk2=>k2 k (by omega) hk2⟩,hk'⟩
   have h0:=hst.base 0 (by show 0<2;omega)
   have h1:=hst.base 1 (by show 1<2;omega)
   simp only[GN,af,SV.den]
   rw[h0,h1]
 ·intro β w0 hst hb
  refine⟨⟨E,((16-I:Nat):Int),(I:Int)-1,_⟩,hsel β,iw (q:=q) fun i o hi=>hst.at_ i o (by rw[hobj];exact hi),rfl,rfl,rfl,by show(E:Int)-1<=(I:Int)-1;omega,Int.le_refl _,fun k hk=>?_,fun k h1 h2=>?_⟩
  ·replace hk:(k:Int)<=(I:Int)-1:=hk
   show List.getD _ k 0=_
   rw[y5 q (by omega)]
  ·replace h1:(I:Int)-1<(k:Int):=h1
   omega
 ·rintro w0 x w' hsh hb0 hb1 g bs hbs
  exact hk x w' g bs hb1 hbs hsh
 ·rintro w0 q' w' h
  exact h.elim
end
section
open Go Go.Rx Go.RowKit
theorem zd{s s0:SS}{a a0:List SV}{w:World}{P:List Nat}{Q6:Option (List Nat)}{Q:SE->List Value->World->Prop}{k:O6×(Nat->Value)->World->List Nat->T}{k':Unit×(Nat->Value)->World->List Nat->T}(hf:Fine w s)(hgl:s.gl=[])(hobj:s.objs=[.cells gO 16 188 0 0,.cells gO 16 188 0 0])
  (hN:a.length=172) (sv:ByteArray) (e:Int) (hsel:∀β,gu yL .normal (af β a)=af β (gD ⟨sv,e,0,List.replicate 16 0⟩)) (hI:xu P Q6 ⟨sv,e,0,List.replicate 16 0⟩)
  (hk:∀o w' g bs,Below w.heap.size w w'->(∀b∈bs,w.heap.size<=b)->B3 P Q6 o->(k (o,g) w' bs).holds (c8 Tryz.prog Q)) :
  (T.loop 301 (av Tryz.prog 301 10) a s (LoopHook.X dX) (LoopHook.out dX a0 s0) k (LoopHook.Y dX) (LoopHook.out' dX a0 s0) k').holds (c8 Tryz.prog Q):=by
 refine jg (w:=w) hf hgl 2 (by show s.objs.length=2;rw[hobj];rfl) yL gD (fun z=>aV z.l) (fun z=>16-z.i) (fun _ z _=>xu P Q6 z) (fun _ o _=>B3 P Q6 o) (fun _ _ _=>False) Ct 1000
  hN (by simp[yL]) (by simp[yL]) (fun _=>⟨trivial,(pG 2 (by omega)).1,trivial,(pG 2 (by omega)).2,trivial,trivial,trivial⟩) (fun _=>aP _) rfl rfl (by simp) (by simp) (fun _=>⟨⟨trivial,(pG 2 (by omega)).1,trivial,(pG 2 (by omega)).2,trivial,trivial,trivial⟩,dQ _⟩) (fun _=>⟨trivial,dQ _⟩) ?_ ?_ ?_ ?_
 ·rintro β w0 z w1 g hb0 hI hkp hge
  exact JI P Q6 β w0 w1 z g hkp hI
 ·intro β w0 hst hb
  refine⟨_,hsel β,iw (q:=fun _=>0) fun i o hi=>?_,hI⟩
  match i,hi with
  |0,hi=>exact hst.at_ 0 o (by rw[hobj];exact hi)
  |1,hi=>
   simp only[bT,List.getElem?_cons_succ,List.getElem?_cons_zero,Option.some.injEq]at hi
   subst hi
   exact hst.at_ 1 (.cells gO 16 188 0 0) (by rw[hobj];rfl)
  |i+2,hi=>simp[bT]at hi
 ·rintro w0 x w' hsh hb0 hb1 g bs hbs
  exact hk x w' g bs hb1 hbs hsh
 ·rintro w0 q' w' h
  exact h.elim
theorem Ev(P:List Nat)(Q:Option (List Nat))(w:World)(hg:∀g∈P++Q.getD [],g<65536)(hQ:(Q=none/\P.length=8)∨(∃B,Q=some B/\P.length+B.length<=7)) :
  Calls Tryz.prog 301 #[.string ⟨(jn P++bm Q).toArray⟩] w (bB (fun v _=>∃q:Nat->Int,(∀j,j<16->q j=(je P Q).getD j 0)/\v=SV.den id (.tup [.agg (cB q),.bool true true])) w):=by
 refine aF (hk:=qQ) (n:=500) (args:=[.str ⟨(jn P++bm Q).toArray⟩ false]) ⟨trivial,trivial⟩ ?_
 refine ah (Mh ⟨(jn P++bm Q).toArray⟩ w) ?_
 have hget:∀j,((⟨(jn P++bm Q).toArray⟩:ByteArray).data.toList.getD j 0)=(jn P++bm Q).getD j 0:=fun j=>rfl
 have hsz0:(⟨(jn P++bm Q).toArray⟩:ByteArray).size=(jn P++bm Q).length:=aC _
 cases P with
 |nil=>
  obtain⟨B,hQB,hB7⟩:∃B,Q=some B/\B.length<=7:=by
   rcases hQ with⟨_,h⟩ |⟨B,h,h2⟩
   ·simp at h
   ·exact⟨B,h,by simpa using h2⟩
  have hT:jn []++bm Q=58 :: 58 :: jn B:=by rw[hQB];rfl
  have hl:(⟨(jn []++bm Q).toArray⟩:ByteArray).size=(jn B).length+2:=by rw[hsz0,hT];simp
  refine ak (fun _=>?_) (fun h=>absurd (by rw[hl];omega) h)
  refine aa (by rw[hl];omega) (ae (fun _=>?_) (fun h=>by rw[hget,hT]at h;simp at h))
  refine aa (by rw[hl];omega) (ae (fun _=>?_) (fun h=>by rw[hget,hT]at h;simp at h))
  refine aa (by rw[hl];omega) ?_
  have e2:(⟨(jn []++bm Q).toArray⟩:ByteArray).extract 2 (⟨(jn []++bm Q).toArray⟩:ByteArray).size=⟨(jn B).toArray⟩:=by
   rw[jE,hT];rfl
  refine ae (fun hz=>?_) (fun hz=>?_)
  ·have hz':(jn B).length=0:=by rw[e2,aC]at hz;have:=eq_of_beq hz;omega
   have hB:B=[]:=by
    cases B with
    |nil=>rfl
    |cons y B'=>
     obtain⟨d,t,_,hd⟩:=mp y B'
     rw[hd]at hz'
     simp at hz'
   refine aQ (Fine.start w _) fun β' w' _ _=>⟨fun _=>0,fun j hj=>?_,rfl⟩
   rw[hQB,hB]
   simp only[je,qx,List.flatMap_nil,List.length_nil,List.nil_append,List.append_nil,List.getD_eq_getElem?_getD,List.getElem?_replicate]
   split <;> rfl
  ·have hB:B≠[]:=fun hB=>by
    rw[e2,hB]at hz
    simp[jn,ByteArray.size]at hz
   have hne:([]:List Nat)++Q.getD []≠[]:=by rw[hQB];simpa using hB
   refine zd (w:=w) (P:=[]) (Q6:=Q) (Fine.start w _) rfl rfl rfl ((⟨(jn []++bm Q).toArray⟩:ByteArray).extract 2 (⟨(jn []++bm Q).toArray⟩:ByteArray).size) 0 (fun β=>rfl) ⟨rfl,[],B,none,hB,?_,?_,rfl,rfl,?_,.inr ⟨rfl,B,hQB,rfl,rfl⟩⟩ ?_
   ·intro g hg'
    exact hg g (by rw[hQB];simpa using hg')
   ·show _=_
    rw[e2];simp[bm]
   ·simp;omega
   intro o w2 g bs2 hw2 hbs2 hE
   obtain⟨hsz,hoi,hq,hn,hsome⟩:=hE
   dsimp only
   refine ae (fun h=>by rw[hsz]at h;simp at h) (fun _=>ak (fun hi16=>?_) (fun hi16=>?_))
   ·obtain⟨B',hQB,hB7⟩:∃B',Q=some B'/\([]:List Nat).length+B'.length<=7:=by
     rcases hQ with⟨h,h8⟩ |⟨B',h,h7⟩
     ·rw[h,Option.getD_none,List.append_nil]at hoi
      omega
     ·exact⟨B',h,h7⟩
    have he:=hsome B' hQB
    have hi':o.i=2*(([]:List Nat).length+B'.length):=by rw[hoi,hQB,Option.getD_some,List.length_append]
    have hi2:2<=o.i:=by
     have:0<(([]:List Nat)++Q.getD []).length:=List.length_pos_iff.2 hne
     rw[hoi];omega
    rw[he]
    refine ak (fun h=>absurd h (by omega)) (fun _=>?_)
    have e1:i64.wrap ((16:Int)-(o.i:Int))=((16-o.i:Nat):Int):=by rw[aq (by omega) (by omega)];omega
    have e2:i64.wrap ((o.i:Int)-(1:Int))=(o.i:Int)-1:=aq (by omega) (by omega)
    rw[e1,e2]
    refine uz (w:=w) (E:=2*([]:List Nat).length) (I:=o.i) (q:=o.q) (Fine.mk' hw2 hbs2) rfl rfl (by omega) (by omega) rfl (fun β=>rfl) ?_
    intro x w3 g3 bs3 hw3 hbs3 hF
    have hxe:=hF.1
    have hxn:=hF.2.1
    dsimp only
    rw[hxe,hxn]
    refine uB (w:=w) (E:=2*([]:List Nat).length) (I:=o.i) (q:=o.q) (q1:=x.q) (Fine.mk' hw3 hbs3) rfl rfl (by omega) (by omega) rfl ⟨rfl,rfl,hF.2.2⟩ (fun β=>rfl) ?_
    intro q' w4 g4 bs4 hw4 hbs4 hq'
    refine aQ (Fine.mk' hw4 hbs4) fun β' w' _ _=>⟨q',fun j hj=>?_,rfl⟩
    rw[hQB]
    exact lg hi' (by omega) (fun j hj=>by rw[hq j hj,hQB]) hq' j hj
   ·have hQn:Q=none:=by
     rcases hQ with⟨h,_⟩ |⟨B',h,h2⟩
     ·exact h
     ·rw[h,Option.getD_some,List.length_append]at hoi
      omega
    rw[hn hQn]
    refine ak (fun h=>absurd h (by omega)) (fun _=>?_)
    refine aQ (Fine.mk' hw2 hbs2) fun β' w' _ _=>⟨o.q,fun j hj=>?_,rfl⟩
    have:=hq j (by omega)
    simpa [je,hQn] using this
 |cons y P'=>
  obtain⟨d,t,hd16,hd⟩:=mp y P'
  have hT0:(jn (y :: P')++bm Q).getD 0 0=ca d:=by rw[hd];rfl
  have hne:(y :: P')++Q.getD []≠[]:=by simp
  have hI:xu (y :: P') Q ⟨⟨(jn (y :: P')++bm Q).toArray⟩,-1,0,List.replicate 16 0⟩:=by
   refine⟨rfl,[],y :: P',Q,by simp,hg,rfl,rfl,rfl,?_,.inl ⟨rfl,rfl,rfl⟩⟩
   rcases hQ with⟨h,h8⟩ |⟨B,h,h7⟩
   ·rw[h];simp at h8 ⊢;omega
   ·rw[h];simp at h7 ⊢;omega
  refine ak (fun h2=>?_) (fun h2=>?_)
  ·refine aa (by omega) (ae (fun h58=>?_) (fun _=>?_))
   ·rw[hget,hT0]at h58
    have h5:(((ca d).toNat:Nat):Int)=58:=by simpa using h58
    have h6:=(pC d hd16).1
    exact absurd (UInt8.toNat_inj.1 (by show(ca d).toNat=58;omega)) h6
   refine zd (w:=w) (P:=y :: P') (Q6:=Q) (Fine.start w _) rfl rfl rfl ⟨(jn (y :: P')++bm Q).toArray⟩ (-1) (fun β=>rfl) hI ?_
   intro o w2 g bs2 hw2 hbs2 hE
   obtain⟨hsz,hoi,hq,hn,hsome⟩:=hE
   dsimp only
   refine ae (fun h=>by rw[hsz]at h;simp at h) (fun _=>ak (fun hi16=>?_) (fun hi16=>?_))
   ·obtain⟨B',hQB,hB7⟩:∃B',Q=some B'/\(y :: P').length+B'.length<=7:=by
     rcases hQ with⟨h,h8⟩ |⟨B',h,h7⟩
     ·rw[h,Option.getD_none,List.append_nil]at hoi
      omega
     ·exact⟨B',h,h7⟩
    have he:=hsome B' hQB
    have hi':o.i=2*((y :: P').length+B'.length):=by rw[hoi,hQB,Option.getD_some,List.length_append]
    have hi2:2<=o.i:=by
     have:0<((y :: P')++Q.getD []).length:=List.length_pos_iff.2 hne
     rw[hoi];omega
    rw[he]
    refine ak (fun h=>absurd h (by omega)) (fun _=>?_)
    have e1:i64.wrap ((16:Int)-(o.i:Int))=((16-o.i:Nat):Int):=by rw[aq (by omega) (by omega)];omega
    have e2:i64.wrap ((o.i:Int)-(1:Int))=(o.i:Int)-1:=aq (by omega) (by omega)
    rw[e1,e2]
    refine uz (w:=w) (E:=2*(y :: P').length) (I:=o.i) (q:=o.q) (Fine.mk' hw2 hbs2) rfl rfl (by omega) (by omega) rfl (fun β=>rfl) ?_
    intro x w3 g3 bs3 hw3 hbs3 hF
    have hxe:=hF.1
    have hxn:=hF.2.1
    dsimp only
    rw[hxe,hxn]
    refine uB (w:=w) (E:=2*(y :: P').length) (I:=o.i) (q:=o.q) (q1:=x.q) (Fine.mk' hw3 hbs3) rfl rfl (by omega) (by omega) rfl ⟨rfl,rfl,hF.2.2⟩ (fun β=>rfl) ?_
    intro q' w4 g4 bs4 hw4 hbs4 hq'
    refine aQ (Fine.mk' hw4 hbs4) fun β' w' _ _=>⟨q',fun j hj=>?_,rfl⟩
    rw[hQB]
    exact lg hi' (by omega) (fun j hj=>by rw[hq j hj,hQB]) hq' j hj
   ·have hQn:Q=none:=by
     rcases hQ with⟨h,_⟩ |⟨B',h,h2⟩
     ·exact h
     ·rw[h,Option.getD_some,List.length_append]at hoi
      omega
    rw[hn hQn]
    refine ak (fun h=>absurd h (by omega)) (fun _=>?_)
    refine aQ (Fine.mk' hw2 hbs2) fun β' w' _ _=>⟨o.q,fun j hj=>?_,rfl⟩
    have:=hq j (by omega)
    simpa [je,hQn] using this
  ·refine zd (w:=w) (P:=y :: P') (Q6:=Q) (Fine.start w _) rfl rfl rfl ⟨(jn (y :: P')++bm Q).toArray⟩ (-1) (fun β=>rfl) hI ?_
   intro o w2 g bs2 hw2 hbs2 hE
   obtain⟨hsz,hoi,hq,hn,hsome⟩:=hE
   dsimp only
   refine ae (fun h=>by rw[hsz]at h;simp at h) (fun _=>ak (fun hi16=>?_) (fun hi16=>?_))
   ·obtain⟨B',hQB,hB7⟩:∃B',Q=some B'/\(y :: P').length+B'.length<=7:=by
     rcases hQ with⟨h,h8⟩ |⟨B',h,h7⟩
     ·rw[h,Option.getD_none,List.append_nil]at hoi
      omega
     ·exact⟨B',h,h7⟩
    have he:=hsome B' hQB
    have hi':o.i=2*((y :: P').length+B'.length):=by rw[hoi,hQB,Option.getD_some,List.length_append]
    have hi2:2<=o.i:=by
     have:0<((y :: P')++Q.getD []).length:=List.length_pos_iff.2 hne
     rw[hoi];omega
    rw[he]
    refine ak (fun h=>absurd h (by omega)) (fun _=>?_)
    have e1:i64.wrap ((16:Int)-(o.i:Int))=((16-o.i:Nat):Int):=by rw[aq (by omega) (by omega)];omega
    have e2:i64.wrap ((o.i:Int)-(1:Int))=(o.i:Int)-1:=aq (by omega) (by omega)
    rw[e1,e2]
    refine uz (w:=w) (E:=2*(y :: P').length) (I:=o.i) (q:=o.q) (Fine.mk' hw2 hbs2) rfl rfl (by omega) (by omega) rfl (fun β=>rfl) ?_
    intro x w3 g3 bs3 hw3 hbs3 hF
    have hxe:=hF.1
    have hxn:=hF.2.1
    dsimp only
    rw[hxe,hxn]
    refine uB (w:=w) (E:=2*(y :: P').length) (I:=o.i) (q:=o.q) (q1:=x.q) (Fine.mk' hw3 hbs3) rfl rfl (by omega) (by omega) rfl ⟨rfl,rfl,hF.2.2⟩ (fun β=>rfl) ?_
    intro q' w4 g4 bs4 hw4 hbs4 hq'
    refine aQ (Fine.mk' hw4 hbs4) fun β' w' _ _=>⟨q',fun j hj=>?_,rfl⟩
    rw[hQB]
    exact lg hi' (by omega) (fun j hj=>by rw[hq j hj,hQB]) hq' j hj
   ·have hQn:Q=none:=by
     rcases hQ with⟨h,_⟩ |⟨B',h,h2⟩
     ·exact h
     ·rw[h,Option.getD_some,List.length_append]at hoi
      omega
    rw[hn hQn]
    refine ak (fun h=>absurd h (by omega)) (fun _=>?_)
    refine aQ (Fine.mk' hw2 hbs2) fun β' w' _ _=>⟨o.q,fun j hj=>?_,rfl⟩
    have:=hq j (by omega)
    simpa [je,hQn] using this
end
section
open Go Go.Rx Go.RowKit
structure Z4 where
 val:Nat
 pos:Nat
 dig:Nat
 i:Nat
 l:List Int
structure O4 where
 val:Nat
 q:Nat->Int
@[reducible] def GH(a b c d:Int):List SV:=[.int .u8 0 true,.int .u8 0 true,.int .u8 0 true,.int .u8 0 true,.int .u8 0 true,.int .u8 0 true,.int .u8 0 true,.int .u8 0 true,.int .u8 0 true,.int .u8 0 true,.int .u8 255 true,.int .u8 255 true,.int .u8 a false,.int .u8 b false,.int .u8 c false,.int .u8 d false]
@[reducible] def nJ:List SV:=[.int .u8 0 true,.int .u8 0 true,.int .u8 0 true,.int .u8 0 true,.int .u8 0 true,.int .u8 0 true,.int .u8 0 true,.int .u8 0 true,.int .u8 0 true,.int .u8 0 true,.int .u8 255 true,.int .u8 255 true,.int .u8 0 true,.int .u8 0 true,.int .u8 0 true,.int .u8 0 true]
@[reducible] def ex(l:List Int):List SObj:=[.ints .u8 l 188 0 0]
@[reducible] def dr(a b c d:Int):List SObj:=[.cells (GH a b c d) 16 188 0 0]
def l7:SE->List Nat
 | .normal=>[0,1,4,5,6,7,8]
 | .exit _=>[0,1,4,5,6]
 |_=>[]
@[reducible] def rT(s:ByteArray)(z:Z4):List SV:=[.str s false,.slc 0 12 4 4 true true,.bool false true,.int .i64 z.val false,.int .i64 z.pos false,.int .i64 z.dig false,.int .i64 z.i false]
@[reducible] def Br(s:ByteArray)(z:O4):List SV:=[.str s false,.slc 0 12 4 4 true true,.bool false true,.int .i64 z.val false,.int .i64 3 false]
def xN(s:ByteArray):LoopHook:=bE 82 O4 (.exit 0) [0,1,4,5,6] (Br s) (fun z=>dr (z.q 0) (z.q 1) (z.q 2) (z.q 3)) Unit .ret [] (fun _=>[]) (fun _=>dr 0 0 0 0)
def GU(s:ByteArray):Hooks:={ calls:=fun _=>none,loops:=fun _ _=>some (xN s) }
noncomputable abbrev kb(z:Z4)(w:World)(bs:List Nat):T:=(.leaf .ret [] (SS.mk [(.ints .u8 z.l 188 0 0)] [] true w bs))
noncomputable abbrev oH(s:ByteArray)(z:Z4):Int:=(↑(s.data.toList.getD (↑z.i:Int).toNat (0:UInt8)).toNat:Int)
noncomputable abbrev su(z:Z4)(s:ByteArray):Prop:=((0:Int)<=(↑z.i:Int)/\(↑z.i:Int)<(↑s.size:Int))
noncomputable abbrev AH(z:Z4)(s:ByteArray)(w:World)(bs:List Nat):T:=(.need (su z s) (.split ((oH s z) == (46:Int)) (.split ((↑z.i:Int) == (0:Int)) (kb z w bs) (.split ((↑z.i:Int) == i64.wrap ((↑s.size:Int)-(1:Int))) (kb z w bs) (.need ((0:Int)<=i64.wrap ((↑z.i:Int)-(1:Int))/\i64.wrap ((↑z.i:Int)-(1:Int))<(↑s.size:Int)) (.split ((↑(s.data.toList.getD (i64.wrap ((↑z.i:Int)-(1:Int))).toNat (0:UInt8)).toNat:Int) == (46:Int)) (kb z w bs) (.split ((↑z.pos:Int) == (3:Int)) (kb z w bs) (.need ((0:Int)<=(↑z.pos:Int)/\(↑z.pos:Int)<(↑(4:Nat):Int)) (.need (12+(↑z.pos:Int).toNat*1<z.l.length) (.need (an 0 0 (12+(↑z.pos:Int).toNat*1) 1=true) (.leaf .normal [(.str s false),(.slc 0 12 4 4 true true),(.bool false true),(.int .i64 0 true),(.int .i64 (i64.wrap ((↑z.pos:Int)+(1:Int))) false),(.int .i64 0 true),(.int .i64 (i64.wrap ((↑z.i:Int)+(1:Int))) false)] (SS.mk [(.ints .u8 (z.l.set (12+(↑z.pos:Int).toNat*1) (u8.wrap (↑z.val:Int))) 188 0 0)] [] true w bs)))))))))) (kb z w bs)))
noncomputable abbrev AI(z:Z4)(s:ByteArray)(w:World)(bs:List Nat):T:=(.need (su z s) (.split (decide (i64.wrap (i64.wrap (i64.wrap ((↑z.val:Int)*(10:Int))+i64.wrap (oH s z))-(48:Int)) > (255:Int))) (kb z w bs) (.leaf .normal [(.str s false),(.slc 0 12 4 4 true true),(.bool false true),(.int .i64 (i64.wrap (i64.wrap (i64.wrap ((↑z.val:Int)*(10:Int))+i64.wrap (oH s z))-(48:Int))) false),(.int .i64 ((↑z.pos:Int)) false),(.int .i64 (i64.wrap ((↑z.dig:Int)+(1:Int))) false),(.int .i64 (i64.wrap ((↑z.i:Int)+(1:Int))) false)] (SS.mk [(.ints .u8 z.l 188 0 0)] [] true w bs))))
theorem H4(s:ByteArray)(z:Z4)(w:World)(bs:List Nat)(g:Nat->Value):aO Tryz.prog ar 1000 300 (av Tryz.prog 300 4) (ay ((l7 .normal).zip (rT s z)) g 82 0) (fun e a s=>.leaf e (fG l7 e a) s) (SS.mk (ex z.l) [] true w bs) =
(.split (decide ((↑z.i:Int)<(↑s.size:Int))) (.need (su z s) (.split (decide ((oH s z) ≥ (48:Int))) (.need (su z s) (.split (decide ((oH s z)<=(57:Int))) (.split ((↑z.dig:Int) == (1:Int)) (.split ((↑z.val:Int) == (0:Int)) (kb z w bs) (AI z s w bs)) (AI z s w bs)) (AH z s w bs))) (AH z s w bs))) (.leaf (.exit 0) [(.str s false),(.slc 0 12 4 4 true true),(.bool false true),(.int .i64 ((↑z.val:Int)) false),(.int .i64 ((↑z.pos:Int)) false)] (SS.mk [(.ints .u8 z.l 188 0 0)] [] true w bs))):=by kernel_rfl
theorem Oa(s:ByteArray)(z:Z4)(w:World)(bs:List Nat)(g:Nat->Value):(by have h:=H4 s z w bs g;unfold AI AH su oH kb at h;exact type_of% h):=H4 s z w bs g
noncomputable abbrev wx(w:World)(bs:List Nat):SS:=(SS.mk [(.cells [(.int .u8 0 true),(.int .u8 0 true),(.int .u8 0 true),(.int .u8 0 true),(.int .u8 0 true),(.int .u8 0 true),(.int .u8 0 true),(.int .u8 0 true),(.int .u8 0 true),(.int .u8 0 true),(.int .u8 255 true),(.int .u8 255 true),(.int .u8 0 true),(.int .u8 0 true),(.int .u8 0 true),(.int .u8 0 true)] 16 188 0 0)] [] true w bs)
noncomputable abbrev wy(s:ByteArray):List SV:=[(.str s false),(.slc 0 12 4 4 true true),(.tup []),(.tup []),(.bool false true),(.int .i64 0 true),(.int .i64 0 true),(.int .i64 0 true),(.int .i64 0 true)]
theorem Il(s:ByteArray)(w:World)(bs:List Nat):al Tryz.prog (GU s) 500 300 [.str s false,.slc 0 12 4 4 true true] (SS.mk [.cells nJ 16 188 0 0] [] true w bs) =
(.loop 300 (av Tryz.prog 300 4) ((wy s)++List.replicate 73 az) (wx w bs) (LoopHook.X (xN s)) (LoopHook.out (xN s) ((wy s)++List.replicate 73 az) (wx w bs)) (fun x0 w0 b0=>(.split false (.leaf .ret [(.bool false true)] (SS.mk [(.cells [(.int .u8 0 true),(.int .u8 0 true),(.int .u8 0 true),(.int .u8 0 true),(.int .u8 0 true),(.int .u8 0 true),(.int .u8 0 true),(.int .u8 0 true),(.int .u8 0 true),(.int .u8 0 true),(.int .u8 255 true),(.int .u8 255 true),(.int .u8 (x0.fst.q 0) false),(.int .u8 (x0.fst.q 1) false),(.int .u8 (x0.fst.q 2) false),(.int .u8 (x0.fst.q 3) false)] 16 188 0 0)] [] true w0 b0)) (.leaf .ret [(.bool true true)] (SS.mk [(.cells [(.int .u8 0 true),(.int .u8 0 true),(.int .u8 0 true),(.int .u8 0 true),(.int .u8 0 true),(.int .u8 0 true),(.int .u8 0 true),(.int .u8 0 true),(.int .u8 0 true),(.int .u8 0 true),(.int .u8 255 true),(.int .u8 255 true),(.int .u8 (x0.fst.q 0) false),(.int .u8 (x0.fst.q 1) false),(.int .u8 (x0.fst.q 2) false),(.int .u8 (u8.wrap (↑x0.fst.val:Int)) false)] 16 188 0 0)] [] true w0 b0)))) (LoopHook.Y (xN s)) (LoopHook.out' (xN s) ((wy s)++List.replicate 73 az) (wx w bs)) (fun x0 w0 b0=>(.leaf .ret [(.raw (x0.snd 4))] (SS.mk [(.cells [(.int .u8 0 true),(.int .u8 0 true),(.int .u8 0 true),(.int .u8 0 true),(.int .u8 0 true),(.int .u8 0 true),(.int .u8 0 true),(.int .u8 0 true),(.int .u8 0 true),(.int .u8 0 true),(.int .u8 255 true),(.int .u8 255 true),(.int .u8 0 false),(.int .u8 0 false),(.int .u8 0 false),(.int .u8 0 false)] 16 188 0 0)] [] true w0 b0)))):=by kernel_rfl
theorem Ou(s:ByteArray)(w:World)(bs:List Nat):(by have h:=Il s w bs;unfold wy wx at h;exact type_of% h):=Il s w bs
end
section
open Go Go.Rx Go.RowKit
def ep(x k:Nat):Nat:=((cU x).take k).foldl (fun a d=>a*10+(d.toNat-48)) 0
theorem jB:∀x:Nat,x<256->0<(cU x).length/\ep x (cU x).length=x/\∀k:Nat,k<(cU x).length->48<=((cU x).getD k 0).toNat/\((cU x).getD k 0).toNat<=57/\ep x (k+1)=ep x k*10+(((cU x).getD k 0).toNat-48)/\ep x (k+1)<=255/\(k=1->ep x 1≠0):=by decide +kernel
def jd:List UInt8->List UInt8
 |[]=>[]
 |[x]=>cU x.toNat
 |x :: r=>cU x.toNat++[46]++jd r
theorem MK(a b c d:UInt8):jd [a,b,c,d]=aE a b c d:=by simp[jd,aE]
theorem DQ(x:UInt8)(r:List UInt8):0<(jd (x :: r)).length:=by
 have:=(jB x.toNat x.toNat_lt).1
 cases r with
 |nil=>simpa [jd] using this
 |cons y r=>
  simp[jd]
  omega
def CW(R:List UInt8):List UInt8:=if R=[] then[] else 46 :: jd R
theorem kq(x:UInt8)(R:List UInt8):jd (x :: R)=cU x.toNat++CW R:=by
 cases R with
 |nil=>simp[jd,CW]
 |cons y r=>simp[jd,CW]
def FL(T:List UInt8)(os:List UInt8)(z:Z4):Prop:=
 z.l.length=16/\(∀j,j<10->z.l.getD j 0=0)/\z.l.getD 10 0=255/\z.l.getD 11 0=255/\∃pre done x R,os=done++x :: R/\T=pre++cU x.toNat++CW R/\z.i=pre.length+z.dig/\z.dig<=(cU x.toNat).length/\z.val=ep x.toNat z.dig/\z.pos=done.length /\
  (∀j,j<done.length->z.l.getD (12+j) 0=((done.getD j 0).toNat:Int))
def IG(os:List UInt8)(o:O4):Prop:=(∀j,j<3->o.q j=((os.getD j 0).toNat:Int))/\o.val=(os.getD 3 0).toNat
theorem cL{l:List Int}{a k:Nat}{v:Int}(h:a<l.length):(l.set a v).getD k 0=if k=a then v else l.getD k 0:=by
 rw[List.getD_eq_getElem?_getD,List.getD_eq_getElem?_getD]
 by_cases hk:k=a
 ·subst hk
  rw[List.getElem?_set_self h,if_pos rfl];rfl
 ·rw[List.getElem?_set_ne (fun e=>hk e.symm),if_neg hk]
theorem ko(l:List Int):(ex l).length=1/\∀o∈ex l,o.ok 1:=⟨rfl,fun o ho=>by
 simp only[ex,List.mem_singleton]at ho
 subst ho
 exact trivial⟩
theorem hG(a b c d:Int):(dr a b c d).length=1/\∀o∈dr a b c d,o.ok 1:=⟨rfl,fun o ho=>by
 simp only[dr,List.mem_singleton]at ho
 subst ho
 exact⟨trivial,trivial,trivial,trivial,trivial,trivial,trivial,trivial,trivial,trivial,trivial,trivial,trivial,trivial,trivial,trivial,trivial⟩⟩
theorem xI{β:Nat->Nat}{l:List Int}{w:World}(h:aH β (ex l) w)(hl:l.length=16)(h0:∀j,j<10->l.getD j 0=0)(h10:l.getD 10 0=255)(h11:l.getD 11 0=255) :
  aH β (dr (l.getD (12+0) 0) (l.getD (12+1) 0) (l.getD (12+2) 0) (l.getD (12+3) 0)) w:=by
 intro i o hi
 match i,hi with
 |0,hi=>
  have:=h 0 _ rfl
  simp only[dr,List.getElem?_cons_zero,Option.some.injEq]at hi
  subst hi
  refine⟨[],?_,rfl⟩
  rw[show w.heap[β 0]?=_ from this]
  have e:af β (GH (l.getD (12+0) 0) (l.getD (12+1) 0) (l.getD (12+2) 0) (l.getD (12+3) 0))=l.map (Value.int .u8):=by
   conv=>rhs;rw[Eb hl,h0 0 (by omega),h0 1 (by omega),h0 2 (by omega),h0 3 (by omega),h0 4 (by omega),h0 5 (by omega),h0 6 (by omega),h0 7 (by omega),h0 8 (by omega),h0 9 (by omega),h10,h11]
   rfl
  rw[e]
  simp
 |i+1,hi=>simp[dr]at hi
theorem EN(T os:List UInt8)(hos:os.length=4)(hTl:T.length<1000)(β:Nat->Nat)(w0 w1:World)(z:Z4)(g:Nat->Value)(hk01:Keep (ac β 1) w0 w1)(hI:FL T os z) :
  (aO Tryz.prog ar 1000 300 (av Tryz.prog 300 4) (ay ((l7 .normal).zip (rT ⟨T.toArray⟩ z)) g 82 0) (fun e a s=>.leaf e (fG l7 e a) s) (SS.mk (ex z.l) [] true w1 (ac β 1))).holds
   {P:=Tryz.prog,β0:=β,n0:=1,Q:=sH β (ac β 1) (rT ⟨T.toArray⟩) (fun z=>ex z.l) (fun z=>T.length-z.i) (fun z _=>FL T os z) (.exit 0) (Br ⟨T.toArray⟩) (fun o=>dr (o.q 0) (o.q 1) (o.q 2) (o.q 3)) (fun o _=>IG os o) .ret (fun _:Unit=>[]) (fun _=>dr 0 0 0 0) (fun _ _=>False) w0 z }:=by
 obtain⟨hl,h0,h10,h11,pre,done,x,R,hos',hT,hi,hdl,hval,hpos,hq⟩:=hI
 obtain⟨hp,hfull,hk⟩:=jB x.toNat x.toNat_lt
 have hsz:(⟨T.toArray⟩:ByteArray).size=T.length:=aC _
 have hget:∀j,((⟨T.toArray⟩:ByteArray).data.toList.getD j 0)=T.getD j 0:=fun j=>rfl
 have hTlen:T.length=pre.length+(cU x.toNat).length+(CW R).length:=by rw[hT];simp;omega
 have hdone:done.length+1+R.length=4:=by rw[hos']at hos;simp at hos;omega
 have hin:∀k,k<(cU x.toNat).length->T.getD (pre.length+k) 0=(cU x.toNat).getD k 0:=fun k hk'=>by
  rw[hT,List.getD_eq_getElem?_getD,List.getD_eq_getElem?_getD,List.append_assoc,List.getElem?_append_right (by omega),List.getElem?_append_left (by omega)]
  congr 2
  omega
 refine ah (Oa ⟨T.toArray⟩ z w1 (ac β 1) g) ?_
 simp only[Int.toNat_natCast,hget,hsz]
 rcases Nat.lt_or_ge z.dig (cU x.toNat).length with hlt |hge
 ·obtain⟨f1,f2,f3,f4,f5⟩:=hk z.dig hlt
  have hc:T.getD z.i 0=(cU x.toNat).getD z.dig 0:=by rw[hi];exact hin _ hlt
  simp only[hc]
  have hv:i64.wrap (i64.wrap (i64.wrap ((z.val:Int)*10)+i64.wrap ((((cU x.toNat).getD z.dig 0).toNat:Nat):Int))-48)=((ep x.toNat (z.dig+1):Nat):Int):=by
   rw[<- hval]at f3
   have a1:i64.wrap ((z.val:Int)*10)=(z.val:Int)*10:=aq (by omega) (by omega)
   have a2:i64.wrap ((((cU x.toNat).getD z.dig 0).toNat:Nat):Int)=(((cU x.toNat).getD z.dig 0).toNat:Int):=aq (by omega) (by omega)
   have a3:i64.wrap ((z.val:Int)*10+(((cU x.toNat).getD z.dig 0).toNat:Int))=(z.val:Int)*10+(((cU x.toNat).getD z.dig 0).toNat:Int):=aq (by omega) (by omega)
   rw[a1,a2,a3,aq (by omega) (by omega)]
   omega
  simp only[hv]
  have hiT:z.i<T.length:=by omega
  have e1:i64.wrap ((z.dig:Int)+1)=((z.dig+1:Nat):Int):=by rw[aq (by omega) (by omega)];omega
  have e2:i64.wrap ((z.i:Int)+1)=((z.i+1:Nat):Int):=by rw[aq (by omega) (by omega)];omega
  simp only[e1,e2]
  have fin:(Rx.T.leaf .normal [.str ⟨T.toArray⟩ false,.slc 0 12 4 4 true true,.bool false true,.int .i64 ((ep x.toNat (z.dig+1):Nat):Int) false,.int .i64 z.pos false,.int .i64 ((z.dig+1:Nat):Int) false,.int .i64 ((z.i+1:Nat):Int) false] (SS.mk (ex z.l) [] true w1 (ac β 1))).holds
   {P:=Tryz.prog,β0:=β,n0:=1,Q:=sH β (ac β 1) (rT ⟨T.toArray⟩) (fun z=>ex z.l) (fun z=>T.length-z.i) (fun z _=>FL T os z) (.exit 0) (Br ⟨T.toArray⟩) (fun o=>dr (o.q 0) (o.q 1) (o.q 2) (o.q 3)) (fun o _=>IG os o) .ret (fun _:Unit=>[]) (fun _=>dr 0 0 0 0) (fun _ _=>False) w0 z }:=by
   refine aJ ⟨rfl,hk01,fun b hb=>.inl hb⟩ fun β' w' hst hk'=>⟨⟨ep x.toNat (z.dig+1),z.pos,z.dig+1,z.i+1,z.l⟩,by show T.length-(z.i+1)<T.length-z.i;omega,?_,hst.objsAt rfl (ko _).2,⟨hl,h0,h10,h11,pre,done,x,R,hos',hT,by show z.i+1=pre.length+(z.dig+1);omega,by show z.dig+1<=_;omega,rfl,hpos,hq⟩,hk'⟩
   have hb0:=hst.base 0 (by show 0<1;omega)
   simp only[rT,af,SV.den]
   rw[hb0]
  refine ak (fun _=>?_) (fun h=>absurd (by omega) h)
  refine aa (by omega) (ak (fun _=>?_) (fun h=>absurd (by omega) h))
  refine aa (by omega) (ak (fun _=>?_) (fun h=>absurd (by omega) h))
  refine ae (fun hd1=>ae (fun hv0=>?_) (fun _=>?_)) (fun _=>?_)
  ·have h1:z.dig=1:=by have:=eq_of_beq hd1;omega
   have h2:z.val=0:=by have:=eq_of_beq hv0;omega
   rw[h1]at hval
   exact absurd (hval.symm.trans h2) (f5 h1)
  ·refine aa (by omega) (ak (fun h=>absurd h (by omega)) (fun _=>?_))
   exact fin
  ·refine aa (by omega) (ak (fun h=>absurd h (by omega)) (fun _=>?_))
   exact fin
 ·have hdig:z.dig=(cU x.toNat).length:=by omega
  cases R with
  |nil=>
   have hi':z.i=T.length:=by rw[hTlen,hi,hdig];simp[CW]
   refine ak (fun h=>absurd h (by omega)) (fun _=>?_)
   have hp3:done.length=3:=by simp at hdone;omega
   refine aJ ⟨rfl,hk01,fun b hb=>.inl hb⟩ fun β' w' hst hk'=>⟨.inl ⟨⟨z.val,fun j=>z.l.getD (12+j) 0⟩,rfl,?_,xI (hst.objsAt rfl (ko _).2) hl h0 h10 h11,fun j hj=>?_,?_⟩,hk'⟩
   ·have hb0:=hst.base 0 (by show 0<1;omega)
    simp only[Br,af,SV.den]
    rw[hb0,hpos,hp3]
    rfl
   ·show z.l.getD (12+j) 0=_
    rw[hq j (by omega),hos',List.getD_eq_getElem?_getD,List.getD_eq_getElem?_getD,List.getElem?_append_left (by omega)]
   ·show z.val=_
    rw[hval,hdig,hfull,hos',List.getD_eq_getElem?_getD,List.getElem?_append_right (by omega),hp3]
    rfl
  |cons y R'=>
   have htl:CW (y :: R')=46 :: jd (y :: R'):=by simp[CW]
   have hjp:=DQ y R'
   have hTlen2:T.length=pre.length+(cU x.toNat).length+1+(jd (y :: R')).length:=by rw[hTlen,htl];simp;omega
   have hc:T.getD z.i 0=46:=by
    rw[hi,hdig,hT,htl,List.getD_eq_getElem?_getD,List.getElem?_append_right (by simp)]
    simp
   have hd3:done.length<=2:=by simp at hdone;omega
   have e0:i64.wrap ((z.i:Int)-1)=((z.i-1:Nat):Int):=by rw[aq (by omega) (by omega)];omega
   have e1:i64.wrap ((z.pos:Int)+1)=((z.pos+1:Nat):Int):=by rw[aq (by omega) (by omega)];omega
   have e2:i64.wrap ((z.i:Int)+1)=((z.i+1:Nat):Int):=by rw[aq (by omega) (by omega)];omega
   have e3:i64.wrap ((T.length:Int)-1)=((T.length-1:Nat):Int):=by rw[aq (by omega) (by omega)];omega
   have e4:u8.wrap (z.val:Int)=(x.toNat:Int):=by
    rw[hval,hdig,hfull]
    exact fL x.toNat_lt
   have hprev:T.getD (z.i-1) 0=(cU x.toNat).getD ((cU x.toNat).length-1) 0:=by
    rw[show z.i-1=pre.length+((cU x.toNat).length-1) by omega]
    exact hin _ (by omega)
   have f1:=(hk ((cU x.toNat).length-1) (by omega)).1
   have h46:((46:UInt8).toNat:Int)=46:=rfl
   simp only[hc,e0,e1,e2,e3,e4,Int.toNat_natCast,hprev,h46]
   refine ak (fun _=>?_) (fun h=>absurd (by omega) h)
   refine aa (by omega) (ak (fun h=>absurd h (by omega)) (fun _=>?_))
   refine aa (by omega) (ae (fun _=>?_) (fun h=>by simp at h))
   refine ae (fun h=>by have:=eq_of_beq h;omega) (fun _=>ae (fun h=>by have:=eq_of_beq h;omega) (fun _=>?_))
   refine aa (by omega) (ae (fun h=>by have:=eq_of_beq h;omega) (fun _=>ae (fun h=>by have:=eq_of_beq h;omega) (fun _=>?_)))
   refine aa (by omega) (aa (by omega) (aa rfl ?_))
   refine aJ ⟨rfl,hk01,fun b hb=>.inl hb⟩ fun β' w' hst hk'=>⟨⟨0,z.pos+1,0,z.i+1,z.l.set (12+z.pos*1) (x.toNat:Int)⟩,by show T.length-(z.i+1)<T.length-z.i;omega,?_,hst.objsAt rfl (ko _).2,⟨by simp[hl],fun j hj=>?_,?_,?_,pre++cU x.toNat++[46],done++[x],y,R',by rw[hos'];simp,?_,?_,Nat.zero_le _,rfl,by simp[hpos],fun j hj=>?_⟩,hk'⟩
   ·have hb0:=hst.base 0 (by show 0<1;omega)
    simp only[rT,af,SV.den]
    rw[hb0]
    rfl
   ·show(z.l.set _ _).getD j 0=0
    rw[cL (by omega),if_neg (by omega)]
    exact h0 j hj
   ·show(z.l.set _ _).getD 10 0=255
    rw[cL (by omega),if_neg (by omega)]
    exact h10
   ·show(z.l.set _ _).getD 11 0=255
    rw[cL (by omega),if_neg (by omega)]
    exact h11
   ·rw[hT,htl,kq]
    simp
   ·show z.i+1=_
    simp
    omega
   ·show(z.l.set _ _).getD (12+j) 0=_
    simp only[List.length_append,List.length_cons,List.length_nil]at hj
    rw[cL (by omega)]
    split
    ·have:j=done.length:=by omega
     subst this
     rw[List.getD_eq_getElem?_getD,List.getElem?_append_right (by omega)]
     simp
    ·rw[hq j (by omega),List.getD_eq_getElem?_getD,List.getD_eq_getElem?_getD,List.getElem?_append_left (by omega)]
end
section
open Go Go.Rx Go.RowKit
theorem tT{Γ:Ctx}{s:SS}{w:World}{bs:List Nat}{f:FuncId}{args:List SV}{X:Type}{out:X->SV×List SObj}{k:X->World->List Nat->T}{R:X->World->World->Prop}(hf:KFine bs w s)(hgl:s.gl=[])
  (hout:∀x,(out x).2.length=s.n/\(∀u∈(out x).2,u.ok s.n)/\(out x).1.ok s.n)
  (hc:∀β w0,St Γ β s w0->Keep bs w w0->Calls Γ.P f (af β args).toArray w0 fun e w'=>∃x,e=.returned ((out x).1.den β)/\Keep (ac β s.n) w0 w'/\aH β (out x).2 w'/\R x w0 w')
  (hk:∀x w0 w' bs',R x w0 w'->Keep bs w w'->(∀b∈bs',b∈bs∨w.heap.size<=b)->(k x w' bs').holds Γ):(T.call f args s X out k).holds Γ:=by
 intro β w0 hs hargs
 have o:=hs.old hf.ext
 have hbw:=o.keepK hf
 refine(hc β w0 hs hbw).mono ?_
 rintro e w' ⟨x,rfl,hkp,hat,hr⟩
 obtain⟨ho1,ho2,ho3⟩:=hout x
 have hbs:=gy o hf
 have hkw:Keep bs w w':=
  ⟨hkp.os.trans hbw.os,hkp.tape.trans hbw.tape,hkp.output.trans hbw.output,Nat.le_trans hbw.size hkp.size,fun b hb hn=>(hkp.block b (Nat.lt_of_lt_of_le hb hbw.size) (fun hm=>by
   rcases hbs b hm with h |h
   ·exact hn h
   ·omega)).trans (hbw.block b hb hn)⟩
 refine⟨x,β,ac β s.n,rfl,⟨hs.turned hgl hkp ho1 ho2 hat,?_,fun _ _=>rfl⟩,?_,hk x w0 w' _ hr hkw hbs⟩
 ·show s.n<=(out x).2.length
  omega
 ·show SV.ok (out x).2.length (out x).1
  rw[ho1]
  exact ho3
theorem zx{β:Nat->Nat}{w:World}{s:SS}{Γ:Ctx}(hs:St Γ β s w)(ho:s.objs=[.cells nJ 16 188 0 0]):aH β (ex [0,0,0,0,0,0,0,0,0,0,255,255,0,0,0,0]) w:=by
 intro i o hi
 match i,hi with
 |0,hi=>
  obtain⟨rest,h1,h2⟩:=hs.at_ 0 (.cells nJ 16 188 0 0) (by rw[ho];rfl)
  simp only[ex,List.getElem?_cons_zero,Option.some.injEq]at hi
  subst hi
  have hr:rest=[]:=List.eq_nil_of_length_eq_zero (by have:nJ.length=16:=rfl;omega)
  subst hr
  show w.heap[β 0]?=_
  rw[h1]
  simp[af,SV.den,nJ]
 |i+1,hi=>simp[ex]at hi
theorem Cn(a b c d:UInt8)(l1 l2 l3:Bool){Γ:Ctx}{β:Nat->Nat}{s:SS}{w:World}(hst:St Γ β s w)(ho:s.objs=[.cells nJ 16 188 0 0]) :
  Calls Tryz.prog 300 (af β [.str ⟨(aE a b c d).toArray⟩ l1,.slc 0 12 4 4 l2 l3]).toArray w fun e w'=>e=.returned (.bool true)/\Keep (ac β 1) w w'/\aH β (dr a.toNat b.toNat c.toNat d.toNat) w':=by
 have hn:s.n=1:=by show s.objs.length=1;rw[ho];rfl
 have hst3:=hst.later (Below.refl w.heap.size w) (P:=Tryz.prog) (Q:=bH fun v w'=>v=.bool true/\Keep (ac β 1) w w'/\aH β (dr a.toNat b.toNat c.toNat d.toNat) w')
 rw[hn,ho]at hst3
 refine(fV (hk:=GU ⟨(aE a b c d).toArray⟩) (n:=500) (args:=[.str ⟨(aE a b c d).toArray⟩ false,.slc 0 12 4 4 true true]) hst3 ⟨trivial,by simp[SV.ok,SS.n],trivial⟩ ?_).mono ?_
 ·refine ah (Ou ⟨(aE a b c d).toArray⟩ w (ac β 1)) ?_
  have hTl:(aE a b c d).length<1000:=by
   have l0:=bt a.toNat
   have l1:=bt b.toNat
   have l2:=bt c.toNat
   have l3:=bt d.toNat
   simp only[aE,List.length_append,List.length_cons,List.length_nil]
   omega
  refine lp (w:=w) (bs:=ac β 1) ⟨rfl,Keep.refl _ _,fun b hb=>.inl hb⟩ rfl 1 rfl l7 (rT ⟨(aE a b c d).toArray⟩) (fun z=>ex z.l) (fun z=>(aE a b c d).length-z.i)
   (fun _ z _=>FL (aE a b c d) [a,b,c,d] z) (fun _ o _=>IG [a,b,c,d] o) (fun _ _ _=>False) (fun _=>ar) 1000
   (by simp) (by simp[l7]) (by simp[l7]) (fun _=>⟨trivial,by simp[SV.ok],trivial,trivial,trivial,trivial,trivial,trivial⟩) (fun _=>ko _) rfl rfl (by simp) (by simp)
   (fun _=>⟨⟨trivial,by simp[SV.ok],trivial,trivial,trivial,trivial⟩,hG _ _ _ _⟩) (fun _=>⟨trivial,hG _ _ _ _⟩) ?_ ?_ ?_ ?_
  ·rintro β2 w2 z w3 g hk12 hI cz hk13 hblk
   exact EN (aE a b c d) [a,b,c,d] rfl hTl β2 w2 w3 z g cz hI
  ·intro β2 w2 hst2 hk12
   refine⟨⟨0,0,0,0,_⟩,rfl,zx hst2 rfl,rfl,?_,rfl,rfl,[],[],a,[b,c,d],rfl,?_,rfl,Nat.zero_le _,rfl,rfl,fun j hj=>absurd hj (Nat.not_lt_zero j)⟩
   ·intro j hj
    match j,hj with
    |0,_ |1,_ |2,_ |3,_ |4,_ |5,_ |6,_ |7,_ |8,_ |9,_=>rfl
    |n+10,h=>omega
   ·rw[<- MK,kq];rfl
  ·rintro w2 o w3 ⟨hq,hv⟩ hk12 hk13 g bs' hbs'
   refine ae (fun h=>Bool.noConfusion h) (fun _=>?_)
   have q0:=hq 0 (by omega)
   have q1:=hq 1 (by omega)
   have q2:=hq 2 (by omega)
   have q3:u8.wrap (o.val:Int)=(d.toNat:Int):=by rw[hv];exact fL d.toNat_lt
   dsimp only
   rw[q3,q0,q1,q2]
   refine aJ ⟨rfl,hk13,fun b hb=>(hbs' b hb).1⟩ fun β' w6 hst6 hk6=>⟨_,rfl,rfl,hk6,?_⟩
   exact hst6.objsAt rfl (hG _ _ _ _).2
  ·rintro w2 o w3 h
   exact h.elim
 ·rintro e w' ⟨v,rfl,rfl,hk,hat⟩
  exact⟨rfl,hk,hat⟩
end
section
open Go Go.Rx Go.RowKit
structure QV where
 is4:Bool
 q:Nat->Int
@[reducible] def iq:List SObj:=[.cells gO 16 188 0 0]
@[reducible] def oW(q:Nat->Int):List SObj:=[.cells (cB q) 16 188 0 0]
@[reducible] def GM:Hook:={ X:=Nat->Int,out:=fun _ s q=>(.bool true true,dr (q 0) (q 1) (q 2) (q 3)) }
@[reducible] def HA:Hook:={ X:=Nat->Int,out:=fun _ s q=>(.tup [.agg (cB q),.bool true true],s.objs) }
@[reducible] def GG:Hook:={ X:=QV,out:=fun _ s z=>(.tup [.agg (cB z.q),.bool z.is4 false,.bool true true],s.objs) }
def yR:SE->List Nat
 | .normal=>[0,2,3,4,5]
 | .ret=>[2,3,4]
 |_=>[]
def xw:SE->List Nat
 | .normal=>[0,2,3,4,5,6]
 | .exit _=>[0,2,3,4,5]
 |_=>[]
@[reducible] def qn(s:ByteArray)(i:Nat):List SV:=[.str s false,.ptr 0 0,.bool false true,.bool false true,.int .i64 i false]
@[reducible] def DR(s:ByteArray)(i k:Nat):List SV:=[.str s false,.ptr 0 0,.bool false true,.bool false true,.int .i64 i false,.int .i64 k false]
def sY:LoopHook:=bE 50 QV .ret [2,3,4] (fun z=>[.ptr 0 0,.bool z.is4 false,.bool true true]) (fun z=>oW z.q) Unit (.exit 0) [] (fun _=>[]) (fun _=>iq)
def qW(s:ByteArray)(i:Nat):LoopHook:=bE 50 Unit (.exit 3) [0,2,3,4,5] (fun _=>qn s i) (fun _=>iq) Unit .ret [] (fun _=>[]) (fun _=>iq)
def GR:Hooks:={ calls:=fun _=>none,loops:=fun _ _=>some sY }
def qP(s:ByteArray)(i:Nat):Hooks:={ calls:=fun f=>if f=300 then some GM else if f=301 then some HA else none,loops:=fun _ _=>some (qW s i) }
def GP:Hooks:={ calls:=fun f=>if f=239 then some GG else none,loops:=fun _ _=>none }
noncomputable abbrev cZ(k0_:Int):SObj:=(.cells [(.int .u8 0 true),(.int .u8 0 true),(.int .u8 0 true),(.int .u8 0 true),(.int .u8 0 true),(.int .u8 0 true),(.int .u8 0 true),(.int .u8 0 true),(.int .u8 0 true),(.int .u8 0 true),(.int .u8 k0_ true),(.int .u8 k0_ true),(.int .u8 0 true),(.int .u8 0 true),(.int .u8 0 true),(.int .u8 0 true)] 16 188 0 0)
noncomputable abbrev i7(s:ByteArray)(i:Nat):Int:=(↑(s.data.toList.getD (↑i:Int).toNat (0:UInt8)).toNat:Int)
noncomputable abbrev wz(s:ByteArray)(g:Nat->Value)(i:Nat):List SV:=[(.str s false),(.raw (g 1)),(.ptr 0 0),(.bool false true),(.bool false true),(.int .i64 ((↑i:Int)) false),(.int .i64 ((↑i:Int)) false),(.int .i64 ((↑i:Int)) false),(.str s false),(.int .i64 ((↑s.size:Int)) false),(.bool true true),(.raw (g 11)),(.raw (g 12)),(.str s false),(.int .i64 ((↑i:Int)) false),(.int .u8 ((i7 s i)) false),(.bool false true),(.bool ((i7 s i) == (46:Int)) false),(.raw (g 18)),(.raw (g 19)),(.raw (g 20)),(.raw (g 21)),(.raw (g 22)),(.raw (g 23)),(.raw (g 24)),(.bool true true),(.bool ((i7 s i) == (58:Int)) false),(.int .i64 ((↑i:Int)) false),(.raw (g 28)),(.raw (g 29)),(.raw (g 30)),(.raw (g 31)),(.raw (g 32)),(.raw (g 33)),(.raw (g 34)),(.raw (g 35)),(.raw (g 36)),(.raw (g 37)),(.raw (g 38)),(.raw (g 39)),(.raw (g 40)),(.raw (g 41)),(.raw (g 42)),(.raw (g 43)),(.raw (g 44)),(.raw (g 45)),(.raw (g 46)),(.raw (g 47)),(.raw (g 48)),(.raw (g 49))]
theorem H3(s:ByteArray)(i:Nat)(w:World)(bs:List Nat)(g:Nat->Value):aO Tryz.prog (qP s i) 1000 239 (av Tryz.prog 239 3) (ay ((yR .normal).zip (qn s i)) g 50 0) (fun e a s=>.leaf e (fG yR e a) s) (SS.mk iq [] true w bs) =
(.split (decide ((↑i:Int)<(↑s.size:Int))) (.need ((0:Int)<=(↑i:Int)/\(↑i:Int)<(↑s.size:Int)) (.split ((i7 s i) == (46:Int)) (.hc 300 [(.str s false),(.slc 0 12 4 4 true true)] (SS.mk [(cZ 255)] [] true w bs) (GM) fun x0 w0 b0=>(.leaf .ret [(.ptr 0 0),(.bool true true),(.bool true true)] (SS.mk [(.cells [(.int .u8 0 true),(.int .u8 0 true),(.int .u8 0 true),(.int .u8 0 true),(.int .u8 0 true),(.int .u8 0 true),(.int .u8 0 true),(.int .u8 0 true),(.int .u8 0 true),(.int .u8 0 true),(.int .u8 255 true),(.int .u8 255 true),(.int .u8 (x0 0) false),(.int .u8 (x0 1) false),(.int .u8 (x0 2) false),(.int .u8 (x0 3) false)] 16 188 0 0)] [] true w0 b0))) (.split ((i7 s i) == (58:Int)) (.loop 239 (av Tryz.prog 239 12) (wz s g i) (SS.mk [(cZ 0)] [] true w bs) (LoopHook.X (qW s i)) (LoopHook.out (qW s i) (wz s g i) (SS.mk [(cZ 0)] [] true w bs)) (fun x0 w0 b0=>(.hc 301 [(.str s false)] (SS.mk [(cZ 0)] [] true w0 b0) (HA) fun x1 w1 b1=>(.leaf .ret [(.ptr 0 0),(.bool false true),(.bool true true)] (SS.mk [(.cells [(.int .u8 (x1 0) false),(.int .u8 (x1 1) false),(.int .u8 (x1 2) false),(.int .u8 (x1 3) false),(.int .u8 (x1 4) false),(.int .u8 (x1 5) false),(.int .u8 (x1 6) false),(.int .u8 (x1 7) false),(.int .u8 (x1 8) false),(.int .u8 (x1 9) false),(.int .u8 (x1 10) false),(.int .u8 (x1 11) false),(.int .u8 (x1 12) false),(.int .u8 (x1 13) false),(.int .u8 (x1 14) false),(.int .u8 (x1 15) false)] 16 188 0 0)] [] true w1 b1)))) (LoopHook.Y (qW s i)) (LoopHook.out' (qW s i) (wz s g i) (SS.mk [(cZ 0)] [] true w bs)) (fun x0 w0 b0=>(.leaf .ret [(.raw (x0.snd 2)),(.raw (x0.snd 3)),(.raw (x0.snd 4))] (SS.mk [(cZ 0)] [] true w0 b0)))) (.split ((i7 s i) == (37:Int)) (.leaf .ret [(.ptr 0 0),(.bool false true),(.bool false true)] (SS.mk [(cZ 0)] [] true w bs)) (.leaf .normal [(.str s false),(.ptr 0 0),(.bool false true),(.bool false true),(.int .i64 (i64.wrap ((↑i:Int)+(1:Int))) false)] (SS.mk [(cZ 0)] [] true w bs)))))) (.leaf (.exit 0) [] (SS.mk [(cZ 0)] [] true w bs))):=by kernel_rfl
theorem N8(s:ByteArray)(i:Nat)(w:World)(bs:List Nat)(g:Nat->Value):(by have h:=H3 s i w bs g;unfold wz i7 cZ at h;exact type_of% h):=H3 s i w bs g
theorem EA(s:ByteArray)(i k:Nat)(w:World)(bs:List Nat)(g:Nat->Value):aO Tryz.prog (qP s i) 1000 239 (av Tryz.prog 239 12) (ay ((xw .normal).zip (DR s i k)) g 50 0) (fun e a s=>.leaf e (fG xw e a) s) (SS.mk iq [] true w bs) =
(.split (decide ((↑k:Int)<(↑s.size:Int))) (.need ((0:Int)<=(↑k:Int)/\(↑k:Int)<(↑s.size:Int)) (.split ((i7 s k) == (37:Int)) (.leaf .ret [] (SS.mk [(cZ 0)] [] true w bs)) (.leaf .normal [(.str s false),(.ptr 0 0),(.bool false true),(.bool false true),(.int .i64 ((↑i:Int)) false),(.int .i64 (i64.wrap ((↑k:Int)+(1:Int))) false)] (SS.mk [(cZ 0)] [] true w bs)))) (.leaf (.exit 3) [(.str s false),(.ptr 0 0),(.bool false true),(.bool false true),(.int .i64 ((↑i:Int)) false)] (SS.mk [(cZ 0)] [] true w bs))):=by kernel_rfl
theorem LS(s:ByteArray)(i k:Nat)(w:World)(bs:List Nat)(g:Nat->Value):(by have h:=EA s i k w bs g;unfold i7 cZ at h;exact type_of% h):=EA s i k w bs g
noncomputable abbrev AJ(x0:(LoopHook.X (sY))):List SV:=[(.int .u8 (x0.fst.q 0) false),(.int .u8 (x0.fst.q 1) false),(.int .u8 (x0.fst.q 2) false),(.int .u8 (x0.fst.q 3) false),(.int .u8 (x0.fst.q 4) false),(.int .u8 (x0.fst.q 5) false),(.int .u8 (x0.fst.q 6) false),(.int .u8 (x0.fst.q 7) false),(.int .u8 (x0.fst.q 8) false),(.int .u8 (x0.fst.q 9) false),(.int .u8 (x0.fst.q 10) false),(.int .u8 (x0.fst.q 11) false),(.int .u8 (x0.fst.q 12) false),(.int .u8 (x0.fst.q 13) false),(.int .u8 (x0.fst.q 14) false),(.int .u8 (x0.fst.q 15) false)]
noncomputable abbrev wB(s:ByteArray):List SV:=([(.str s false),(.tup []),(.ptr 0 0),(.bool false true),(.bool false true),(.int .i64 0 true)]++List.replicate 44 az)
theorem Ik(s:ByteArray)(w:World):al Tryz.prog GR 500 239 [.str s false] (SS.mk [] [] true w []) =
(.loop 239 (av Tryz.prog 239 3) (wB s) (SS.mk [(cZ 0)] [] true w []) (LoopHook.X (sY)) (LoopHook.out (sY) (wB s) (SS.mk [(cZ 0)] [] true w [])) (fun x0 w0 b0=>(.leaf .ret [(.tup [(.agg (AJ x0)),(.bool x0.fst.is4 false),(.bool true true)])] (SS.mk [(.cells (AJ x0) 16 188 0 0)] [] true w0 b0))) (LoopHook.Y (sY)) (LoopHook.out' (sY) (wB s) (SS.mk [(cZ 0)] [] true w [])) (fun x0 w0 b0=>(.bad "load: no address"))):=by kernel_rfl
theorem Ot(s:ByteArray)(w:World):(by have h:=Ik s w;unfold wB AJ cZ at h;exact type_of% h):=Ik s w
theorem Oo(s:ByteArray)(w:World):al Tryz.prog GP 500 205 [.str s false] (SS.mk [] [] true w []) =
 (.hc 239 [(.str s false)] (SS.mk [] [] true w []) (GG) fun x0 w0 b0=>
 (.leaf .ret [(.slc 0 0 16 16 true true)] (SS.mk [(.cells (cB x0.q) 16 188 0 0)] [] true w0 b0))):=by kernel_rfl
end
section
open Go Go.Rx Go.RowKit
def qd(a b c d:UInt8)(j:Nat):Int:=([(a.toNat:Int),b.toNat,c.toNat,d.toNat]:List Int).getD j 0
def N7(a b c d:UInt8)(j:Nat):Int:=([0,0,0,0,0,0,0,0,0,0,255,255,(a.toNat:Int),b.toNat,c.toNat,d.toNat]:List Int).getD j 0
def qm(T:List UInt8)(m:Nat)(Res:QV->Prop):Prop:=
 T.length<2^40/\m<T.length/\(∀j,j<m->T.getD j 0≠46/\T.getD j 0≠58/\T.getD j 0≠37) /\
  ((T.getD m 0=46/\∃a b c d,T=aE a b c d/\Res ⟨true,N7 a b c d⟩) ∨
   (T.getD m 0=58/\(∀j,j<T.length->T.getD j 0≠37)/\∀w,Calls Tryz.prog 301 #[.string ⟨T.toArray⟩] w (bB (fun v _=>∃q:Nat->Int,Res ⟨false,q⟩/\v=SV.den id (.tup [.agg (cB q),.bool true true])) w)))
theorem fq:iq.length=1/\∀o∈iq,o.ok 1:=⟨rfl,fun o ho=>by
 simp only[iq,List.mem_singleton]at ho
 subst ho
 exact AN 1⟩
theorem yb(q:Nat->Int):(oW q).length=1/\∀o∈oW q,o.ok 1:=⟨rfl,fun o ho=>by
 simp only[oW,List.mem_singleton]at ho
 subst ho
 exact iM 1 q⟩
theorem BH{x y:UInt8}(h:((x.toNat:Int) == (y.toNat:Int))=true):x=y:=UInt8.toNat_inj.1 (by have:=eq_of_beq h;omega)
theorem PB{β:Nat->Nat}{w:World}{a b c d:UInt8}(h:aH β (dr (qd a b c d 0) (qd a b c d 1) (qd a b c d 2) (qd a b c d 3)) w):aH β (oW (N7 a b c d)) w:=by
 intro i o hi
 match i,hi with
 |0,hi=>
  have:=h 0 _ rfl
  simp only[oW,List.getElem?_cons_zero,Option.some.injEq]at hi
  subst hi
  exact this
 |i+1,hi=>simp[oW]at hi
theorem EM(T:List UInt8)(m:Nat)(Res:QV->Prop)(hA:qm T m Res)(β:Nat->Nat)(w0 w1:World)(i:Nat)(g:Nat->Value)(hk01:Keep (ac β 1) w0 w1)(hI:i<=m) :
  (aO Tryz.prog (qP ⟨T.toArray⟩ i) 1000 239 (av Tryz.prog 239 3) (ay ((yR .normal).zip (qn ⟨T.toArray⟩ i)) g 50 0) (fun e a s=>.leaf e (fG yR e a) s) (SS.mk iq [] true w1 (ac β 1))).holds
   {P:=Tryz.prog,β0:=β,n0:=1,Q:=sH β (ac β 1) (qn ⟨T.toArray⟩) (fun _=>iq) (fun i=>T.length-i) (fun i _=>i<=m) .ret (fun z:QV=>[.ptr 0 0,.bool z.is4 false,.bool true true]) (fun z=>oW z.q) (fun z _=>Res z) (.exit 0) (fun _:Unit=>[]) (fun _=>iq) (fun _ _=>False) w0 i }:=by
 obtain⟨hlen,hm,hbef,hat⟩:=hA
 have hsz:(⟨T.toArray⟩:ByteArray).size=T.length:=aC _
 have hget:∀j,((⟨T.toArray⟩:ByteArray).data.toList.getD j 0)=T.getD j 0:=fun j=>rfl
 refine ah (N8 ⟨T.toArray⟩ i w1 (ac β 1) g) ?_
 simp only[Int.toNat_natCast,hget,hsz]
 refine ak (fun _=>?_) (fun h=>absurd (show(i:Int)<T.length by omega) h)
 refine aa (by omega) (ae (fun h46=>?_) (fun h46=>ae (fun h58=>?_) (fun h58=>ae (fun h37=>?_) (fun h37=>?_))))
 ·have hx:T.getD i 0=46:=BH h46
  have him:i=m:=by
   rcases Nat.lt_or_ge i m with h |h
   ·exact absurd hx (hbef i h).1
   ·omega
  subst him
  rcases hat with⟨_,a,b,c,d,hT,hR⟩ |⟨h,_⟩
  ·refine tT (w:=w1) (bs:=ac β 1) (R:=fun q _ _=>q=qd a b c d) ⟨rfl,Keep.refl _ _,fun b hb=>.inl hb⟩ rfl (fun x=>⟨rfl,(hG _ _ _ _).2,trivial⟩) (fun β' wc hst hkc=>?_) ?_
   ·rw[hT]
    refine(Cn a b c d false true true hst rfl).mono ?_
    rintro e w' ⟨rfl,hk,hat⟩
    exact⟨qd a b c d,rfl,hk,hat,rfl⟩
   ·rintro q wc w3 bs3 rfl hk13 hbs3
    refine aJ ⟨rfl,hk01.trans hk13,fun b hb=>(hbs3 b hb).imp id (Nat.le_trans hk01.size)⟩ fun β' w' hst hk'=>⟨.inl ⟨⟨true,N7 a b c d⟩,rfl,?_,PB (hst.objsAt rfl (hG _ _ _ _).2),hR⟩,hk'⟩
    have hb0:=hst.base 0 (by show 0<1;omega)
    simp only[af,SV.den]
    rw[hb0]
  ·rw[hx]at h
   exact absurd h (by decide)
 ·have hx:T.getD i 0=58:=BH h58
  have him:i=m:=by
   rcases Nat.lt_or_ge i m with h |h
   ·exact absurd hx (hbef i h).2.1
   ·omega
  subst him
  rcases hat with⟨h,_⟩ |⟨_,hno,hP⟩
  ·rw[hx]at h
   exact absurd h (by decide)
  ·refine lp (w:=w1) (bs:=ac β 1) ⟨rfl,Keep.refl _ _,fun b hb=>.inl hb⟩ rfl 1 rfl xw (DR ⟨T.toArray⟩ i) (fun _=>iq) (fun k=>T.length-k)
    (fun _ k _=>k<=T.length) (fun _ _ _=>True) (fun _ _ _=>False) (fun _=>qP ⟨T.toArray⟩ i) 1000
    (by simp) (by simp[xw]) (by simp[xw]) (fun _=>⟨trivial,by simp[SV.ok],trivial,trivial,trivial,trivial,trivial⟩) (fun _=>fq) rfl rfl (by simp) (by simp)
    (fun _=>⟨⟨trivial,by simp[SV.ok],trivial,trivial,trivial,trivial⟩,fq⟩) (fun _=>⟨trivial,fq⟩) ?_ ?_ ?_ ?_
   ·rintro β2 w2 k w3 g2 hk12 hk cz hk13 hblk
    refine ah (LS ⟨T.toArray⟩ i k w3 (ac β2 1) g2) ?_
    simp only[Int.toNat_natCast,hget,hsz]
    refine ak (fun hlt=>aa (by omega) (ae (fun h37=>?_) (fun _=>?_))) (fun _=>?_)
    ·exact absurd (BH (y:=37) h37) (hno k (by omega))
    ·refine aJ ⟨rfl,cz,fun b hb=>.inl hb⟩ fun β' w' hst hk'=>⟨k+1,by show T.length-(k+1)<T.length-k;omega,?_,hst.objsAt rfl fq.2,by show k+1<=T.length;omega,hk'⟩
     have hb0:=hst.base 0 (by show 0<1;omega)
     rw[show i64.wrap ((k:Int)+1)=((k+1:Nat):Int) by rw[aq (by omega) (by omega)];omega]
     simp only[DR,af,SV.den]
     rw[hb0]
    ·refine aJ ⟨rfl,cz,fun b hb=>.inl hb⟩ fun β' w' hst hk'=>⟨.inl ⟨(),rfl,?_,hst.objsAt rfl fq.2,trivial⟩,hk'⟩
     have hb0:=hst.base 0 (by show 0<1;omega)
     simp only[qn,af,SV.den]
     rw[hb0]
   ·intro β2 w2 hst hk12
    exact⟨i,rfl,fun i o hi=>hst.at_ i o hi,by omega⟩
   ·rintro w2 _ w3 _ hk12 hk13 g2 bs3 hbs3
    refine cj (w:=w1) (bs:=ac β 1) (R:=fun q _ _=>Res ⟨false,q⟩) ⟨rfl,hk13,fun b hb=>(hbs3 b hb).1⟩ (fun q=>⟨rfl,⟨iM _ _,trivial,trivial⟩⟩) (fun β' wc hst ho hb=>?_) ?_
    ·refine(hP wc).mono ?_
     rintro e w' ⟨v,rfl,⟨q,hq,rfl⟩,hb'⟩
     exact⟨q,rfl,hb',hq⟩
    ·rintro q wc w4 bs4 hkc hq hbc hk14 hbs4
     refine aJ ⟨rfl,hk01.trans hk14,fun b hb=>(hbs4 b hb).imp id (Nat.le_trans hk01.size)⟩ fun β' w' hst hk'=>⟨.inl ⟨⟨false,q⟩,rfl,?_,hst.objsAt rfl (yb q).2,hq⟩,hk'⟩
     have hb0:=hst.base 0 (by show 0<1;omega)
     simp only[af,SV.den]
     rw[hb0]
   ·rintro w2 _ w3 h
    exact h.elim
 ·have hx:T.getD i 0=37:=BH h37
  rcases Nat.lt_or_ge i m with h |h
  ·exact absurd hx (hbef i h).2.2
  ·have him:i=m:=by omega
   subst him
   rcases hat with⟨h,_⟩ |⟨h,_⟩
   ·rw[hx]at h;exact absurd h (by decide)
   ·rw[hx]at h;exact absurd h (by decide)
 ·have him:i<m:=by
   rcases Nat.lt_or_ge i m with h |h
   ·exact h
   ·have him:i=m:=by omega
    subst him
    rcases hat with⟨h,_⟩ |⟨h,_⟩
    ·rw[h]at h46;exact absurd h46 (by decide)
    ·rw[h]at h58;exact absurd h58 (by decide)
  refine aJ ⟨rfl,hk01,fun b hb=>.inl hb⟩ fun β' w' hst hk'=>⟨i+1,by show T.length-(i+1)<T.length-i;omega,?_,hst.objsAt rfl fq.2,by show i+1<=m;omega,hk'⟩
  have hb0:=hst.base 0 (by show 0<1;omega)
  rw[show i64.wrap ((i:Int)+1)=((i+1:Nat):Int) by rw[aq (by omega) (by omega)];omega]
  simp only[qn,af,SV.den]
  rw[hb0]
theorem xY(T:List UInt8)(m:Nat)(Res:QV->Prop)(hA:qm T m Res)(w:World) :
  Calls Tryz.prog 239 #[.string ⟨T.toArray⟩] w (bB (fun v _=>∃z:QV,Res z/\v=SV.den id (.tup [.agg (cB z.q),.bool z.is4 false,.bool true true])) w):=by
 refine aF (hk:=GR) (n:=500) (args:=[.str ⟨T.toArray⟩ false]) ⟨trivial,trivial⟩ ?_
 refine ah (Ot ⟨T.toArray⟩ w) ?_
 refine jg (w:=w) (Fine.start w _) rfl 1 rfl yR (qn ⟨T.toArray⟩) (fun _=>iq) (fun i=>T.length-i) (fun _ i _=>i<=m) (fun _ z _=>Res z) (fun _ _ _=>False) (fun i=>qP ⟨T.toArray⟩ i) 1000
  (by simp) (by simp[yR]) (by simp[yR]) (fun _=>⟨trivial,by simp[SV.ok],trivial,trivial,trivial,trivial⟩) (fun _=>fq) rfl rfl (by simp) (by simp) (fun _=>⟨⟨by simp[SV.ok],trivial,trivial,trivial⟩,yb _⟩) (fun _=>⟨trivial,fq⟩) ?_ ?_ ?_ ?_
 ·rintro β w0 i w1 g hb0 hI hkp hge
  exact EM T m Res hA β w0 w1 i g hkp hI
 ·intro β w0 hst hb
  exact⟨0,rfl,fun i o hi=>hst.at_ i o hi,Nat.zero_le _⟩
 ·rintro w0 z w' hR hb0 hb1 g bs hbs
  exact aQ (Fine.mk' hb1 hbs) fun β w' _ _=>⟨z,hR,rfl⟩
 ·rintro w0 z w' h
  exact h.elim
end
section
open Go Go.Rx Go.RowKit
structure O4m where
 val:Nat
 l:List Int
@[reducible] def lI(s:ByteArray)(z:Z4):List SV:=[.str s false,.slc 1 2 4 14 true true,.bool false true,.int .i64 z.val false,.int .i64 z.pos false,.int .i64 z.dig false,.int .i64 z.i false]
@[reducible] def um(s:ByteArray)(z:O4m):List SV:=[.str s false,.slc 1 2 4 14 true true,.bool false true,.int .i64 z.val false,.int .i64 3 false]
def qX(s:ByteArray):LoopHook:=bE 82 O4m (.exit 0) [0,1,4,5,6] (um s) (fun z=>aV z.l) Unit .ret [] (fun _=>[]) (fun _=>aV [])
def DE(s:ByteArray):Hooks:={ calls:=fun _=>none,loops:=fun _ _=>some (qX s) }
noncomputable abbrev fw:SObj:=(.cells gO 16 188 0 0)
noncomputable abbrev mY(s:ByteArray)(z:Z4):Int:=(↑(s.data.toList.getD (↑z.i:Int).toNat (0:UInt8)).toNat:Int)
noncomputable abbrev zQ(z:Z4)(s:ByteArray):Int:=(i64.wrap (i64.wrap ((↑z.val:Int)*(10:Int))+i64.wrap (mY s z))-(48:Int))
noncomputable abbrev rV(z:Z4)(s:ByteArray):Prop:=((0:Int)<=(↑z.i:Int)/\(↑z.i:Int)<(↑s.size:Int))
noncomputable abbrev Fi(s:ByteArray)(z:Z4):List SV:=[(.str s false),(.slc 1 2 4 14 true true),(.bool false true),(.int .i64 0 true),(.int .i64 (i64.wrap ((↑z.pos:Int)+(1:Int))) false),(.int .i64 0 true),(.int .i64 (i64.wrap ((↑z.i:Int)+(1:Int))) false)]
noncomputable abbrev Fj(z:Z4)(s:ByteArray):Prop:=((0:Int)<=i64.wrap ((↑z.i:Int)-(1:Int))/\i64.wrap ((↑z.i:Int)-(1:Int))<(↑s.size:Int))
noncomputable abbrev jZ(z:Z4)(w:World)(bs:List Nat):T:=(.leaf .ret [] (SS.mk [fw,(.ints .u8 z.l 188 0 0)] [] true w bs))
noncomputable abbrev zR(z:Z4)(s:ByteArray)(w:World)(bs:List Nat):T:=(.need (rV z s) (.split ((mY s z) == (46:Int)) (.split ((↑z.i:Int) == (0:Int)) (jZ z w bs) (.split ((↑z.i:Int) == i64.wrap ((↑s.size:Int)-(1:Int))) (jZ z w bs) (.need (Fj z s) (.split ((↑(s.data.toList.getD (i64.wrap ((↑z.i:Int)-(1:Int))).toNat (0:UInt8)).toNat:Int) == (46:Int)) (jZ z w bs) (.split ((↑z.pos:Int) == (3:Int)) (jZ z w bs) (.need ((0:Int)<=(↑z.pos:Int)/\(↑z.pos:Int)<(↑(4:Nat):Int)) (.need (2+(↑z.pos:Int).toNat*1<z.l.length) (.need (an 0 0 (2+(↑z.pos:Int).toNat*1) 1=true) (.leaf .normal (Fi s z) (SS.mk [fw,(.ints .u8 (z.l.set (2+(↑z.pos:Int).toNat*1) (u8.wrap (↑z.val:Int))) 188 0 0)] [] true w bs)))))))))) (jZ z w bs)))
noncomputable abbrev zS(z:Z4)(s:ByteArray)(w:World)(bs:List Nat):T:=(.need (rV z s) (.split (decide (i64.wrap (zQ z s) > (255:Int))) (jZ z w bs) (.leaf .normal [(.str s false),(.slc 1 2 4 14 true true),(.bool false true),(.int .i64 (i64.wrap (zQ z s)) false),(.int .i64 ((↑z.pos:Int)) false),(.int .i64 (i64.wrap ((↑z.dig:Int)+(1:Int))) false),(.int .i64 (i64.wrap ((↑z.i:Int)+(1:Int))) false)] (SS.mk [fw,(.ints .u8 z.l 188 0 0)] [] true w bs))))
theorem EB(s:ByteArray)(z:Z4)(w:World)(bs:List Nat)(g:Nat->Value):aO Tryz.prog ar 1000 300 (av Tryz.prog 300 4) (ay ((l7 .normal).zip (lI s z)) g 82 0) (fun e a s=>.leaf e (fG l7 e a) s) (SS.mk (aV z.l) [] true w bs) =
(.split (decide ((↑z.i:Int)<(↑s.size:Int))) (.need (rV z s) (.split (decide ((mY s z) ≥ (48:Int))) (.need (rV z s) (.split (decide ((mY s z)<=(57:Int))) (.split ((↑z.dig:Int) == (1:Int)) (.split ((↑z.val:Int) == (0:Int)) (jZ z w bs) (zS z s w bs)) (zS z s w bs)) (zR z s w bs))) (zR z s w bs))) (.leaf (.exit 0) [(.str s false),(.slc 1 2 4 14 true true),(.bool false true),(.int .i64 ((↑z.val:Int)) false),(.int .i64 ((↑z.pos:Int)) false)] (SS.mk [fw,(.ints .u8 z.l 188 0 0)] [] true w bs))):=by kernel_rfl
theorem LV(s:ByteArray)(z:Z4)(w:World)(bs:List Nat)(g:Nat->Value):(by have h:=EB s z w bs g;unfold zS zR jZ Fj Fi rV zQ mY fw at h;exact type_of% h):=EB s z w bs g
noncomputable abbrev uS(s:ByteArray):List SV:=([(.str s false),(.slc 1 2 4 14 true true),(.tup []),(.tup []),(.bool false true),(.int .i64 0 true),(.int .i64 0 true),(.int .i64 0 true),(.int .i64 0 true)]++List.replicate 73 az)
theorem ET(s:ByteArray)(l:List Int)(w:World)(bs:List Nat):al Tryz.prog (DE s) 500 300 [.str s false,.slc 1 2 4 14 true true] (SS.mk (aV l) [] true w bs) =
(.loop 300 (av Tryz.prog 300 4) (uS s) (SS.mk [fw,(.ints .u8 l 188 0 0)] [] true w bs) (LoopHook.X (qX s)) (LoopHook.out (qX s) (uS s) (SS.mk [fw,(.ints .u8 l 188 0 0)] [] true w bs)) (fun x0 w0 b0=>(.split false (.leaf .ret [(.bool false true)] (SS.mk [fw,(.ints .u8 x0.fst.l 188 0 0)] [] true w0 b0)) (.need (5<x0.fst.l.length) (.need (true=true) (.leaf .ret [(.bool true true)] (SS.mk [fw,(.ints .u8 (x0.fst.l.set 5 (u8.wrap (↑x0.fst.val:Int))) 188 0 0)] [] true w0 b0)))))) (LoopHook.Y (qX s)) (LoopHook.out' (qX s) (uS s) (SS.mk [fw,(.ints .u8 l 188 0 0)] [] true w bs)) (fun x0 w0 b0=>(.leaf .ret [(.raw (x0.snd 4))] (SS.mk [fw,(.ints .u8 [] 188 0 0)] [] true w0 b0)))):=by kernel_rfl
theorem Mg(s:ByteArray)(l:List Int)(w:World)(bs:List Nat):(by have h:=ET s l w bs;unfold uS fw at h;exact type_of% h):=ET s l w bs
def AO(T:List UInt8)(os:List UInt8)(z:Z4):Prop:=
 z.l.length=16/\z.l.getD 0 0=255/\z.l.getD 1 0=255/\∃pre done x R,os=done++x :: R/\T=pre++cU x.toNat++CW R/\z.i=pre.length+z.dig/\z.dig<=(cU x.toNat).length/\z.val=ep x.toNat z.dig/\z.pos=done.length /\
  (∀j,j<done.length->z.l.getD (2+j) 0=((done.getD j 0).toNat:Int))
def C8(os:List UInt8)(o:O4m):Prop:=o.l.length=16/\o.l.getD 0 0=255/\o.l.getD 1 0=255/\(∀j,j<3->o.l.getD (2+j) 0=((os.getD j 0).toNat:Int))/\o.val=(os.getD 3 0).toNat
theorem CM(T os:List UInt8)(hos:os.length=4)(hTl:T.length<1000)(β:Nat->Nat)(w0 w1:World)(z:Z4)(g:Nat->Value)(hk01:Keep (ac β 2) w0 w1)(hI:AO T os z) :
  (aO Tryz.prog ar 1000 300 (av Tryz.prog 300 4) (ay ((l7 .normal).zip (lI ⟨T.toArray⟩ z)) g 82 0) (fun e a s=>.leaf e (fG l7 e a) s) (SS.mk (aV z.l) [] true w1 (ac β 2))).holds
   {P:=Tryz.prog,β0:=β,n0:=2,Q:=sH β (ac β 2) (lI ⟨T.toArray⟩) (fun z=>aV z.l) (fun z=>T.length-z.i) (fun z _=>AO T os z) (.exit 0) (um ⟨T.toArray⟩) (fun o=>aV o.l) (fun o _=>C8 os o) .ret (fun _:Unit=>[]) (fun _=>aV []) (fun _ _=>False) w0 z }:=by
 obtain⟨hl,h10,h11,pre,done,x,R,hos',hT,hi,hdl,hval,hpos,hq⟩:=hI
 obtain⟨hp,hfull,hk⟩:=jB x.toNat x.toNat_lt
 have hsz:(⟨T.toArray⟩:ByteArray).size=T.length:=aC _
 have hget:∀j,((⟨T.toArray⟩:ByteArray).data.toList.getD j 0)=T.getD j 0:=fun j=>rfl
 have hTlen:T.length=pre.length+(cU x.toNat).length+(CW R).length:=by rw[hT];simp;omega
 have hdone:done.length+1+R.length=4:=by rw[hos']at hos;simp at hos;omega
 have hin:∀k,k<(cU x.toNat).length->T.getD (pre.length+k) 0=(cU x.toNat).getD k 0:=fun k hk'=>by
  rw[hT,List.getD_eq_getElem?_getD,List.getD_eq_getElem?_getD,List.append_assoc,List.getElem?_append_right (by omega),List.getElem?_append_left (by omega)]
  congr 2
  omega
 refine ah (LV ⟨T.toArray⟩ z w1 (ac β 2) g) ?_
 simp only[Int.toNat_natCast,hget,hsz]
 rcases Nat.lt_or_ge z.dig (cU x.toNat).length with hlt |hge
 ·obtain⟨f1,f2,f3,f4,f5⟩:=hk z.dig hlt
  have hc:T.getD z.i 0=(cU x.toNat).getD z.dig 0:=by rw[hi];exact hin _ hlt
  simp only[hc]
  have hv:i64.wrap (i64.wrap (i64.wrap ((z.val:Int)*10)+i64.wrap ((((cU x.toNat).getD z.dig 0).toNat:Nat):Int))-48)=((ep x.toNat (z.dig+1):Nat):Int):=by
   rw[<- hval]at f3
   have a1:i64.wrap ((z.val:Int)*10)=(z.val:Int)*10:=aq (by omega) (by omega)
   have a2:i64.wrap ((((cU x.toNat).getD z.dig 0).toNat:Nat):Int)=(((cU x.toNat).getD z.dig 0).toNat:Int):=aq (by omega) (by omega)
   have a3:i64.wrap ((z.val:Int)*10+(((cU x.toNat).getD z.dig 0).toNat:Int))=(z.val:Int)*10+(((cU x.toNat).getD z.dig 0).toNat:Int):=aq (by omega) (by omega)
   rw[a1,a2,a3,aq (by omega) (by omega)]
   omega
  simp only[hv]
  have hiT:z.i<T.length:=by omega
  have e1:i64.wrap ((z.dig:Int)+1)=((z.dig+1:Nat):Int):=by rw[aq (by omega) (by omega)];omega
  have e2:i64.wrap ((z.i:Int)+1)=((z.i+1:Nat):Int):=by rw[aq (by omega) (by omega)];omega
  simp only[e1,e2]
  have fin:(Rx.T.leaf .normal [.str ⟨T.toArray⟩ false,.slc 1 2 4 14 true true,.bool false true,.int .i64 ((ep x.toNat (z.dig+1):Nat):Int) false,.int .i64 z.pos false,.int .i64 ((z.dig+1:Nat):Int) false,.int .i64 ((z.i+1:Nat):Int) false] (SS.mk (aV z.l) [] true w1 (ac β 2))).holds
   {P:=Tryz.prog,β0:=β,n0:=2,Q:=sH β (ac β 2) (lI ⟨T.toArray⟩) (fun z=>aV z.l) (fun z=>T.length-z.i) (fun z _=>AO T os z) (.exit 0) (um ⟨T.toArray⟩) (fun o=>aV o.l) (fun o _=>C8 os o) .ret (fun _:Unit=>[]) (fun _=>aV []) (fun _ _=>False) w0 z }:=by
   refine aJ ⟨rfl,hk01,fun b hb=>.inl hb⟩ fun β' w' hst hk'=>⟨⟨ep x.toNat (z.dig+1),z.pos,z.dig+1,z.i+1,z.l⟩,by show T.length-(z.i+1)<T.length-z.i;omega,?_,hst.objsAt rfl (aP _).2,⟨hl,h10,h11,pre,done,x,R,hos',hT,by show z.i+1=pre.length+(z.dig+1);omega,by show z.dig+1<=_;omega,rfl,hpos,hq⟩,hk'⟩
   have hb0:=hst.base 1 (by show 1<2;omega)
   simp only[lI,af,SV.den]
   rw[hb0]
  refine ak (fun _=>?_) (fun h=>absurd (by omega) h)
  refine aa (by omega) (ak (fun _=>?_) (fun h=>absurd (by omega) h))
  refine aa (by omega) (ak (fun _=>?_) (fun h=>absurd (by omega) h))
  refine ae (fun hd1=>ae (fun hv0=>?_) (fun _=>?_)) (fun _=>?_)
  ·have h1:z.dig=1:=by have:=eq_of_beq hd1;omega
   have h2:z.val=0:=by have:=eq_of_beq hv0;omega
   rw[h1]at hval
   exact absurd (hval.symm.trans h2) (f5 h1)
  ·refine aa (by omega) (ak (fun h=>absurd h (by omega)) (fun _=>?_))
   exact fin
  ·refine aa (by omega) (ak (fun h=>absurd h (by omega)) (fun _=>?_))
   exact fin
 ·have hdig:z.dig=(cU x.toNat).length:=by omega
  cases R with
  |nil=>
   have hi':z.i=T.length:=by rw[hTlen,hi,hdig];simp[CW]
   refine ak (fun h=>absurd h (by omega)) (fun _=>?_)
   have hp3:done.length=3:=by simp at hdone;omega
   refine aJ ⟨rfl,hk01,fun b hb=>.inl hb⟩ fun β' w' hst hk'=>⟨.inl ⟨⟨z.val,z.l⟩,rfl,?_,hst.objsAt rfl (aP _).2,hl,h10,h11,fun j hj=>?_,?_⟩,hk'⟩
   ·have hb0:=hst.base 1 (by show 1<2;omega)
    simp only[um,af,SV.den]
    rw[hb0,hpos,hp3]
    rfl
   ·show z.l.getD (2+j) 0=_
    rw[hq j (by omega),hos',List.getD_eq_getElem?_getD,List.getD_eq_getElem?_getD,List.getElem?_append_left (by omega)]
   ·show z.val=_
    rw[hval,hdig,hfull,hos',List.getD_eq_getElem?_getD,List.getElem?_append_right (by omega),hp3]
    rfl
  |cons y R'=>
   have htl:CW (y :: R')=46 :: jd (y :: R'):=by simp[CW]
   have hjp:=DQ y R'
   have hTlen2:T.length=pre.length+(cU x.toNat).length+1+(jd (y :: R')).length:=by rw[hTlen,htl];simp;omega
   have hc:T.getD z.i 0=46:=by
    rw[hi,hdig,hT,htl,List.getD_eq_getElem?_getD,List.getElem?_append_right (by simp)]
    simp
   have hd3:done.length<=2:=by simp at hdone;omega
   have e0:i64.wrap ((z.i:Int)-1)=((z.i-1:Nat):Int):=by rw[aq (by omega) (by omega)];omega
   have e1:i64.wrap ((z.pos:Int)+1)=((z.pos+1:Nat):Int):=by rw[aq (by omega) (by omega)];omega
   have e2:i64.wrap ((z.i:Int)+1)=((z.i+1:Nat):Int):=by rw[aq (by omega) (by omega)];omega
   have e3:i64.wrap ((T.length:Int)-1)=((T.length-1:Nat):Int):=by rw[aq (by omega) (by omega)];omega
   have e4:u8.wrap (z.val:Int)=(x.toNat:Int):=by
    rw[hval,hdig,hfull]
    exact fL x.toNat_lt
   have hprev:T.getD (z.i-1) 0=(cU x.toNat).getD ((cU x.toNat).length-1) 0:=by
    rw[show z.i-1=pre.length+((cU x.toNat).length-1) by omega]
    exact hin _ (by omega)
   have f1:=(hk ((cU x.toNat).length-1) (by omega)).1
   have h46:((46:UInt8).toNat:Int)=46:=rfl
   simp only[hc,e0,e1,e2,e3,e4,Int.toNat_natCast,hprev,h46]
   refine ak (fun _=>?_) (fun h=>absurd (by omega) h)
   refine aa (by omega) (ak (fun h=>absurd h (by omega)) (fun _=>?_))
   refine aa (by omega) (ae (fun _=>?_) (fun h=>by simp at h))
   refine ae (fun h=>by have:=eq_of_beq h;omega) (fun _=>ae (fun h=>by have:=eq_of_beq h;omega) (fun _=>?_))
   refine aa (by omega) (ae (fun h=>by have:=eq_of_beq h;omega) (fun _=>ae (fun h=>by have:=eq_of_beq h;omega) (fun _=>?_)))
   refine aa (by omega) (aa (by omega) (aa rfl ?_))
   refine aJ ⟨rfl,hk01,fun b hb=>.inl hb⟩ fun β' w' hst hk'=>⟨⟨0,z.pos+1,0,z.i+1,z.l.set (2+z.pos*1) (x.toNat:Int)⟩,by show T.length-(z.i+1)<T.length-z.i;omega,?_,hst.objsAt rfl (aP _).2,⟨by simp[hl],?_,?_,pre++cU x.toNat++[46],done++[x],y,R',by rw[hos'];simp,?_,?_,Nat.zero_le _,rfl,by simp[hpos],fun j hj=>?_⟩,hk'⟩
   ·have hb0:=hst.base 1 (by show 1<2;omega)
    simp only[lI,af,SV.den]
    rw[hb0]
    rfl
   ·show(z.l.set _ _).getD 0 0=255
    rw[cL (by omega),if_neg (by omega)]
    exact h10
   ·show(z.l.set _ _).getD 1 0=255
    rw[cL (by omega),if_neg (by omega)]
    exact h11
   ·rw[hT,htl,kq]
    simp
   ·show z.i+1=_
    simp
    omega
   ·show(z.l.set _ _).getD (2+j) 0=_
    simp only[List.length_append,List.length_cons,List.length_nil]at hj
    rw[cL (by omega)]
    split
    ·have:j=done.length:=by omega
     subst this
     rw[List.getD_eq_getElem?_getD,List.getElem?_append_right (by omega)]
     simp
    ·rw[hq j (by omega),List.getD_eq_getElem?_getD,List.getD_eq_getElem?_getD,List.getElem?_append_left (by omega)]
theorem y4(a b c d:UInt8)(l:List Int)(l1 l2 l3:Bool){Γ:Ctx}{β:Nat->Nat}{s:SS}{w:World}(hst:St Γ β s w)(ho:s.objs=aV l)(hl:l.length=16)(h0:l.getD 0 0=255)(h1:l.getD 1 0=255) :
  Calls Tryz.prog 300 (af β [.str ⟨(aE a b c d).toArray⟩ l1,.slc 1 2 4 14 l2 l3]).toArray w fun e w'=>∃l',e=.returned (.bool true)/\Keep (ac β 2) w w'/\aH β (aV l') w'/\l'.length=16/\l'.getD 0 0=255/\l'.getD 1 0=255/\∀j,j<4->l'.getD (2+j) 0=((([a,b,c,d]:List UInt8).getD j 0).toNat:Int):=by
 have hn:s.n=2:=by show s.objs.length=2;rw[ho];rfl
 have hst3:=hst.later (Below.refl w.heap.size w) (P:=Tryz.prog) (Q:=bH fun v w'=>∃l',v=.bool true/\Keep (ac β 2) w w'/\aH β (aV l') w'/\l'.length=16/\l'.getD 0 0=255/\l'.getD 1 0=255/\∀j,j<4->l'.getD (2+j) 0=((([a,b,c,d]:List UInt8).getD j 0).toNat:Int))
 rw[hn,ho]at hst3
 refine(fV (hk:=DE ⟨(aE a b c d).toArray⟩) (n:=500) (args:=[.str ⟨(aE a b c d).toArray⟩ false,.slc 1 2 4 14 true true]) hst3 ⟨trivial,by simp[SV.ok,SS.n],trivial⟩ ?_).mono ?_
 ·refine ah (Mg ⟨(aE a b c d).toArray⟩ l w (ac β 2)) ?_
  have hTl:(aE a b c d).length<1000:=by
   have l0:=bt a.toNat
   have l1:=bt b.toNat
   have l2:=bt c.toNat
   have l3:=bt d.toNat
   simp only[aE,List.length_append,List.length_cons,List.length_nil]
   omega
  refine lp (w:=w) (bs:=ac β 2) ⟨rfl,Keep.refl _ _,fun b hb=>.inl hb⟩ rfl 2 rfl l7 (lI ⟨(aE a b c d).toArray⟩) (fun z=>aV z.l) (fun z=>(aE a b c d).length-z.i)
   (fun _ z _=>AO (aE a b c d) [a,b,c,d] z) (fun _ o _=>C8 [a,b,c,d] o) (fun _ _ _=>False) (fun _=>ar) 1000
   (by simp) (by simp[l7]) (by simp[l7]) (fun _=>⟨trivial,by simp[SV.ok],trivial,trivial,trivial,trivial,trivial,trivial⟩) (fun _=>aP _) rfl rfl (by simp) (by simp)
   (fun _=>⟨⟨trivial,by simp[SV.ok],trivial,trivial,trivial,trivial⟩,aP _⟩) (fun _=>⟨trivial,aP _⟩) ?_ ?_ ?_ ?_
  ·rintro β2 w2 z w3 g hk12 hI cz hk13 hblk
   exact CM (aE a b c d) [a,b,c,d] rfl hTl β2 w2 w3 z g cz hI
  ·intro β2 w2 hst2 hk12
   refine⟨⟨0,0,0,0,l⟩,rfl,fun i o hi=>hst2.at_ i o hi,hl,h0,h1,[],[],a,[b,c,d],rfl,?_,rfl,Nat.zero_le _,rfl,rfl,fun j hj=>absurd hj (Nat.not_lt_zero j)⟩
   rw[<- MK,kq];rfl
  ·rintro w2 o w3 ⟨e1,e2,e3,hq',hv⟩ hk12 hk13 g bs' hbs'
   refine ae (fun h=>Bool.noConfusion h) (fun _=>?_)
   have q3:u8.wrap (o.val:Int)=(d.toNat:Int):=by rw[hv];exact fL d.toNat_lt
   dsimp only
   rw[q3]
   refine aa (by omega) (aa rfl (aJ ⟨rfl,hk13,fun b hb=>(hbs' b hb).1⟩ fun β' w6 hst6 hk6=>⟨_,rfl,o.l.set 5 (d.toNat:Int),rfl,hk6,hst6.objsAt rfl (aP _).2,by simp[e1],?_,?_,fun j hj=>?_⟩))
   ·rw[cL (by omega),if_neg (by omega)]
    exact e2
   ·rw[cL (by omega),if_neg (by omega)]
    exact e3
   ·rw[cL (by omega)]
    split
    ·have:j=3:=by omega
     subst this
     rfl
    ·exact hq' j (by omega)
  ·rintro w2 o w3 h
   exact h.elim
 ·rintro e w' ⟨v,rfl,l',rfl,h⟩
  exact⟨l',rfl,h⟩
end
section
open Go Go.Rx Go.RowKit
@[reducible] def t8:Hook:={ X:=List Int,out:=fun _ s l=>(.bool true true,aV l) }
def DF(z:P6):Hooks:={ calls:=fun f=>if f=300 then some t8 else if f=351 then some sT else none,loops:=fun _ _=>some (cM z) }
noncomputable abbrev qc:SObj:=(.cells gO 16 188 0 0)
noncomputable abbrev kE(z:P6)(k0_:Int):Int:=(i64.wrap ((↑z.i:Int)+k0_))
noncomputable abbrev rX(z:P6)(x0:(LoopHook.X (cM z)))(w0:World)(b0:List Nat):SS:=(SS.mk [qc,(.ints .u8 ((z.l.set (0+(↑z.i:Int).toNat*1) (u8.wrap ((↑x0.fst.snd:Int).fdiv ((2:Int)^8)))).set (0+(kE z (1:Int)).toNat*1) (u8.wrap (↑x0.fst.snd:Int))) 188 0 0)] [] true w0 b0)
noncomputable abbrev kD(z:P6)(k0_:Int):SV:=(.int .i64 (i64.wrap ((↑z.i:Int)+k0_)) false)
noncomputable abbrev m0(z:P6)(x0:(LoopHook.X (cM z))):Int:=(↑(z.s.extract (↑x0.fst.fst:Int).toNat z.s.size).size:Int)
noncomputable abbrev uU(z:P6)(x0:(LoopHook.X (cM z))):List SV:=[(.str (((z.s.extract (↑x0.fst.fst:Int).toNat z.s.size).extract 1 (z.s.extract (↑x0.fst.fst:Int).toNat z.s.size).size).extract 1 ((z.s.extract (↑x0.fst.fst:Int).toNat z.s.size).extract 1 (z.s.extract (↑x0.fst.fst:Int).toNat z.s.size).size).size) false),(.ptr 0 0),(.bool false true),(.ptr 1 0),(kD z (2:Int)),(kD z (2:Int))]
noncomputable abbrev zT(z:P6)(x0:(LoopHook.X (cM z)))(w0:World)(b0:List Nat):T:=(.need ((0:Int)<=(↑z.i:Int)/\(↑z.i:Int)<(↑(16:Nat):Int)) (.need (0+(↑z.i:Int).toNat*1<z.l.length) (.need (an 0 0 (0+(↑z.i:Int).toNat*1) 1=true) (.need ((0:Int)<=i64.wrap ((↑z.i:Int)+(1:Int))/\i64.wrap ((↑z.i:Int)+(1:Int))<(↑(16:Nat):Int)) (.need (0+(kE z (1:Int)).toNat*1<(z.l.set (0+(↑z.i:Int).toNat*1) (u8.wrap ((↑x0.fst.snd:Int).fdiv ((2:Int)^8)))).length) (.need (an 0 0 (0+(kE z (1:Int)).toNat*1) 1=true) (.need ((0:Int)<=(↑x0.fst.fst:Int)/\(↑x0.fst.fst:Int)<=(↑z.s.size:Int)) (.split ((m0 z x0) == (0:Int)) (.leaf (.exit 0) [(.str (z.s.extract (↑x0.fst.fst:Int).toNat z.s.size) false),(.ptr 0 0),(.bool false true),(.ptr 1 0),(.int .i64 z.e false),(kD z (2:Int))] (rX z x0 w0 b0)) (.need ((0:Int)<=(0:Int)/\(0:Int)<(m0 z x0)) (.split ((↑((#[].extract 0 0++z.s.data.extract (↑x0.fst.fst:Int).toNat ((↑x0.fst.fst:Int).toNat+(z.s.size-(↑x0.fst.fst:Int).toNat))++#[].extract (0+min (z.s.size-(↑x0.fst.fst:Int).toNat) (z.s.data.size-(↑x0.fst.fst:Int).toNat)) 0).toList.getD 0 (0:UInt8)).toNat:Int) != (58:Int)) (.bad "load: cells not tracked") (.split ((m0 z x0) == (1:Int)) (.bad "load: cells not tracked") (.need ((0:Int)<=(1:Int)/\(1:Int)<=(m0 z x0)) (.need ((0:Int)<=(0:Int)/\(0:Int)<(↑((z.s.extract (↑x0.fst.fst:Int).toNat z.s.size).extract 1 (z.s.extract (↑x0.fst.fst:Int).toNat z.s.size).size).size:Int)) (.split ((↑((#[].extract 0 0++(#[].extract 0 0++z.s.data.extract (↑x0.fst.fst:Int).toNat ((↑x0.fst.fst:Int).toNat+(z.s.size-(↑x0.fst.fst:Int).toNat))++#[].extract (0+min (z.s.size-(↑x0.fst.fst:Int).toNat) (z.s.data.size-(↑x0.fst.fst:Int).toNat)) 0).extract 1 (1+((z.s.extract (↑x0.fst.fst:Int).toNat z.s.size).size-1))++#[].extract (0+min ((z.s.extract (↑x0.fst.fst:Int).toNat z.s.size).size-1) ((#[].extract 0 0++z.s.data.extract (↑x0.fst.fst:Int).toNat ((↑x0.fst.fst:Int).toNat+(z.s.size-(↑x0.fst.fst:Int).toNat))++#[].extract (0+min (z.s.size-(↑x0.fst.fst:Int).toNat) (z.s.data.size-(↑x0.fst.fst:Int).toNat)) 0).size-1)) 0).toList.getD 0 (0:UInt8)).toNat:Int) == (58:Int)) (.split (decide (z.e ≥ (0:Int))) (.bad "load: cells not tracked") (.need ((0:Int)<=(1:Int)/\(1:Int)<=(↑((z.s.extract (↑x0.fst.fst:Int).toNat z.s.size).extract 1 (z.s.extract (↑x0.fst.fst:Int).toNat z.s.size).size).size:Int)) (.split ((↑(((z.s.extract (↑x0.fst.fst:Int).toNat z.s.size).extract 1 (z.s.extract (↑x0.fst.fst:Int).toNat z.s.size).size).extract 1 ((z.s.extract (↑x0.fst.fst:Int).toNat z.s.size).extract 1 (z.s.extract (↑x0.fst.fst:Int).toNat z.s.size).size).size).size:Int) == (0:Int)) (.leaf (.exit 0) (uU z x0) (rX z x0 w0 b0)) (.leaf .normal (uU z x0) (rX z x0 w0 b0))))) (.leaf .normal [(.str ((z.s.extract (↑x0.fst.fst:Int).toNat z.s.size).extract 1 (z.s.extract (↑x0.fst.fst:Int).toNat z.s.size).size) false),(.ptr 0 0),(.bool false true),(.ptr 1 0),(.int .i64 z.e false),(kD z (2:Int))] (rX z x0 w0 b0))))))))))))))))
noncomputable abbrev uV(z:P6)(g:Nat->Value):List SV:=[(.str z.s false),(.raw (g 1)),(.ptr 0 0),(.bool false true),(.ptr 1 0),(.int .i64 z.e false),(.int .i64 ((↑z.i:Int)) false),(.int .i64 0 true),(.int .i64 0 true),(.raw (g 9)),(.raw (g 10)),(.raw (g 11)),(.raw (g 12)),(.raw (g 13)),(.raw (g 14)),(.raw (g 15)),(.raw (g 16)),(.raw (g 17)),(.raw (g 18)),(.raw (g 19)),(.raw (g 20)),(.raw (g 21)),(.raw (g 22)),(.raw (g 23)),(.raw (g 24)),(.raw (g 25)),(.raw (g 26)),(.raw (g 27)),(.raw (g 28)),(.raw (g 29)),(.raw (g 30)),(.int .i64 ((↑z.i:Int)) false),(.bool true true),(.raw (g 33)),(.raw (g 34)),(.raw (g 35)),(.raw (g 36)),(.raw (g 37)),(.raw (g 38)),(.raw (g 39)),(.raw (g 40)),(.raw (g 41)),(.raw (g 42)),(.raw (g 43)),(.raw (g 44)),(.raw (g 45)),(.raw (g 46)),(.raw (g 47)),(.raw (g 48)),(.raw (g 49)),(.raw (g 50)),(.raw (g 51)),(.raw (g 52)),(.raw (g 53)),(.raw (g 54)),(.raw (g 55)),(.raw (g 56)),(.raw (g 57)),(.raw (g 58)),(.raw (g 59)),(.raw (g 60)),(.raw (g 61)),(.raw (g 62)),(.raw (g 63)),(.raw (g 64)),(.raw (g 65)),(.raw (g 66)),(.raw (g 67)),(.raw (g 68)),(.raw (g 69)),(.raw (g 70)),(.raw (g 71)),(.raw (g 72)),(.raw (g 73)),(.raw (g 74)),(.raw (g 75)),(.raw (g 76)),(.raw (g 77)),(.raw (g 78)),(.raw (g 79)),(.raw (g 80)),(.raw (g 81)),(.raw (g 82)),(.raw (g 83)),(.raw (g 84)),(.raw (g 85)),(.raw (g 86)),(.raw (g 87)),(.raw (g 88)),(.raw (g 89)),(.raw (g 90)),(.raw (g 91)),(.raw (g 92)),(.raw (g 93)),(.raw (g 94)),(.raw (g 95)),(.raw (g 96)),(.raw (g 97)),(.raw (g 98)),(.raw (g 99)),(.raw (g 100)),(.raw (g 101)),(.raw (g 102)),(.raw (g 103)),(.raw (g 104)),(.raw (g 105)),(.raw (g 106)),(.raw (g 107)),(.raw (g 108)),(.raw (g 109)),(.raw (g 110)),(.raw (g 111)),(.raw (g 112)),(.raw (g 113)),(.raw (g 114)),(.raw (g 115)),(.raw (g 116)),(.raw (g 117)),(.raw (g 118)),(.raw (g 119)),(.raw (g 120)),(.raw (g 121)),(.raw (g 122)),(.raw (g 123)),(.raw (g 124)),(.raw (g 125)),(.raw (g 126)),(.raw (g 127)),(.raw (g 128)),(.raw (g 129)),(.raw (g 130)),(.raw (g 131)),(.raw (g 132)),(.raw (g 133)),(.raw (g 134)),(.raw (g 135)),(.raw (g 136)),(.raw (g 137)),(.raw (g 138)),(.raw (g 139)),(.raw (g 140)),(.raw (g 141)),(.raw (g 142)),(.raw (g 143)),(.raw (g 144)),(.raw (g 145)),(.raw (g 146)),(.raw (g 147)),(.raw (g 148)),(.raw (g 149)),(.raw (g 150)),(.raw (g 151)),(.raw (g 152)),(.raw (g 153)),(.raw (g 154)),(.raw (g 155)),(.raw (g 156)),(.raw (g 157)),(.raw (g 158)),(.raw (g 159)),(.raw (g 160)),(.raw (g 161)),(.raw (g 162)),(.raw (g 163)),(.raw (g 164)),(.raw (g 165)),(.raw (g 166)),(.raw (g 167)),(.raw (g 168)),(.raw (g 169)),(.raw (g 170)),(.raw (g 171))]
noncomputable abbrev j0(z:P6):List SObj:=[qc,(.ints .u8 z.l 188 0 0)]
noncomputable abbrev zU(z:P6):List SV:=[(.str z.s false),(.slc 1 (if 16=(↑z.i:Int).toNat then 0 else 0+(↑z.i:Int).toNat*1) ((kE z (4:Int)).toNat-(↑z.i:Int).toNat) (16-(↑z.i:Int).toNat) false false)]
noncomputable abbrev Fk(x1:(Hook.X (t8))):List SObj:=[qc,(.ints .u8 x1 188 0 0)]
noncomputable abbrev Fl(z:P6):List SV:=[(.str (ByteArray.mk #[]) true),(.ptr 0 0),(.bool false true),(.ptr 1 0),(.int .i64 z.e false),(kD z (4:Int))]
noncomputable abbrev Fm(z:P6):Prop:=((0:Int)<=i64.wrap ((↑z.i:Int)+(4:Int))/\i64.wrap ((↑z.i:Int)+(4:Int))<=(↑(16:Nat):Int))
noncomputable abbrev Fo(z:P6):Prop:=((0:Int)<=(↑z.i:Int)/\(↑z.i:Int)<=(↑(kE z (4:Int)).toNat:Int))
noncomputable abbrev uT(z:P6)(w0:World)(b0:List Nat):T:=(.split (decide (i64.wrap ((↑z.i:Int)+(4:Int)) > (16:Int))) (.bad "load: cells not tracked") (.need (Fm z) (.need (Fo z) (.call 300 (zU z) (SS.mk (j0 z) [] true w0 b0) (Hook.X (t8)) (Hook.out (t8) (zU z) (SS.mk (j0 z) [] true w0 b0)) fun x1 w1 b1=>(.leaf (.exit 0) (Fl z) (SS.mk (Fk x1) [] true w1 b1))))))
theorem EF(z:P6)(w:World)(bs:List Nat)(g:Nat->Value):aO Tryz.prog (DF z) 1000 301 (av Tryz.prog 301 10) (ay ((yL .normal).zip (gD z)) g 172 0) (fun e a s=>.leaf e (fG yL e a) s) (SS.mk (aV z.l) [] true w bs) =
(.split (decide ((↑z.i:Int)<(16:Int))) (.loop 301 (av Tryz.prog 301 12) (uV z g) (SS.mk (j0 z) [] true w bs) (LoopHook.X (cM z)) (LoopHook.out (cM z) (uV z g) (SS.mk (j0 z) [] true w bs)) (fun x0 w0 b0=>(.split ((↑x0.fst.fst:Int) == (0:Int)) (.bad "load: cells not tracked") (.split (decide ((↑x0.fst.fst:Int)<(↑z.s.size:Int))) (.need ((0:Int)<=(↑x0.fst.fst:Int)/\(↑x0.fst.fst:Int)<(↑z.s.size:Int)) (.split ((↑(z.s.data.toList.getD (↑x0.fst.fst:Int).toNat (0:UInt8)).toNat:Int) == (46:Int)) (.split (decide (z.e<(0:Int))) (.split ((↑z.i:Int) != (12:Int)) (.bad "load: cells not tracked") (uT z w0 b0)) (uT z w0 b0)) (zT z x0 w0 b0))) (zT z x0 w0 b0)))) (LoopHook.Y (cM z)) (LoopHook.out' (cM z) (uV z g) (SS.mk (j0 z) [] true w bs)) (fun x0 w0 b0=>(.leaf .ret [] (SS.mk (j0 z) [] true w0 b0)))) (.leaf (.exit 0) [(.str z.s false),(.ptr 0 0),(.bool false true),(.ptr 1 0),(.int .i64 z.e false),(.int .i64 ((↑z.i:Int)) false)] (SS.mk (j0 z) [] true w bs))):=by kernel_rfl
theorem H7(z:P6)(w:World)(bs:List Nat)(g:Nat->Value):(by have h:=EF z w bs g;unfold uT Fo Fm Fl Fk zU j0 uV zT uU m0 kD rX kE qc at h;exact type_of% h):=EF z w bs g
def Dq(x:Nat):List Nat:=(cU x).map fun y=>y.toNat-48
theorem Cj:∀x:Nat,x<256->cU x=(Dq x).map ca/\0<(Dq x).length/\(Dq x).length<=3/\∀d∈Dq x,d<16:=by decide +kernel
theorem GJ{z:P6}{w:World}{β0:Nat->Nat}{bs:List Nat}{Q:SE->List Value->World->Prop}{D:List Nat}{n m:Nat}{c:UInt8}{r:List UInt8}{a a0:List SV}{s s0:SS}{k:(Nat×Nat)×(Nat->Value)->World->List Nat->T}{k':Unit×(Nat->Value)->World->List Nat->T}
  (hf:KFine bs w s) (hgl:s.gl=[]) (hobj:s.objs=aV z.l) (hs:z.s=⟨(D.map ca++c :: r).toArray⟩) (hr:r.length<1000) (hn:D.length=n) (hm:bX D=m) (hDl:D.length<=4) (hD16:∀d∈D,d<16) (hc:ib c = -1) (hN:a.length=172)
  (hsel:∀β:Nat->Nat,gu tH .normal (af β a)=af β (ja z (0,0)))
  (hk:∀w' g bs',Keep bs w w'->(∀b∈bs',b∈bs∨w.heap.size<=b)->(k ((n,m),g) w' bs').holds { P:=Tryz.prog,β0:=β0,n0:=2,Q:=Q }) :
  (T.loop 301 (av Tryz.prog 301 12) a s (LoopHook.X (cM z)) (LoopHook.out (cM z) a0 s0) k (LoopHook.Y (cM z)) (LoopHook.out' (cM z) a0 s0) k').holds { P:=Tryz.prog,β0:=β0,n0:=2,Q:=Q }:=by
 subst hn hm
 have hsize:z.s.size=D.length+1+r.length:=by rw[hs,aC];simp;omega
 have hget:∀j,(z.s.data.toList.getD j 0)=(D.map ca++c :: r).getD j 0:=fun j=>by rw[hs]
 have hdig:∀j (hj:j<D.length),(z.s.data.toList.getD j 0)=ca (D[j]):=fun j hj=>by
  rw[hget,List.getD_eq_getElem?_getD,List.getElem?_append_left (by simpa using hj),List.getElem?_map,List.getElem?_eq_getElem hj]
  rfl
 have hrest0:(z.s.data.toList.getD D.length 0)=c:=by
  rw[hget,List.getD_eq_getElem?_getD,List.getElem?_append_right (by simp)]
  simp
 refine lp (w:=w) (bs:=bs) hf hgl 2 (by show s.objs.length=2;rw[hobj];rfl) tH (ja z) (fun _=>aV z.l) (fun p:Nat×Nat=>5-p.1)
  (fun _ p _=>p.1<=D.length/\p.2=bX (D.take p.1)) (fun _ p _=>p=(D.length,bX D)) (fun _ _ _=>False) (fun _=>Ct z) 1000
  hN (by simp[tH]) (by simp[tH]) (fun _=>⟨trivial,(pG 2 (by omega)).1,trivial,(pG 2 (by omega)).2,trivial,trivial,trivial,trivial,trivial⟩) (fun _=>aP _) rfl rfl (by simp) (by simp)
  (fun _=>⟨⟨trivial,(pG 2 (by omega)).1,trivial,(pG 2 (by omega)).2,trivial,trivial,trivial,trivial,trivial⟩,aP _⟩) (fun _=>⟨trivial,aP _⟩) ?_ ?_ ?_ ?_
 ·rintro β2 w2 ⟨off,acc⟩ w3 g2 hk12 ⟨hoff,hacc⟩ cz hk13 hblk
  dsimp only at hoff hacc
  refine ah (H6 z (off,acc) w3 (ac β2 2) g2) (ak (fun hlt1=>?_) (fun hge=>absurd (by dsimp only;omega) hge))
  have hlt2:off<z.s.size:=by dsimp only at hlt1;omega
  refine aa (by dsimp only;omega) ?_
  dsimp only
  rcases Nat.lt_or_ge off D.length with hin |hout
  ·have hd:=hdig off hin
   have hdl:=hD16 _ (List.getElem_mem hin)
   refine kh (y:=ca (D[off])) ⟨rfl,Keep.refl _ _,fun b hb=>.inl hb⟩ (by rw[Int.toNat_natCast];exact hd) fun w4 bs4 hk4 hbs4=>?_
   rw[iz _ hdl]
   refine ak (fun _=>?_) (fun h=>absurd (by omega) h)
   refine aa (by omega) ?_
   refine kh (y:=ca (D[off])) (w:=w3) (bs:=ac β2 2) ⟨rfl,hk4,hbs4⟩ (by rw[Int.toNat_natCast];exact hd) fun w5 bs5 qR hbs5=>?_
   rw[iz _ hdl]
   refine ak (fun h=>absurd h (by omega)) (fun _=>?_)
   refine aJ ⟨rfl,cz.trans qR,fun b hb=>(hbs5 b hb).imp id (Nat.le_trans cz.size)⟩ fun β' w' hst hk'=>⟨(off+1,bX (D.take (off+1))),by show 5-(off+1)<5-off;omega,?_,hst.objsAt rfl (aP _).2,⟨by show off+1<=_;omega,rfl⟩,hk'⟩
   have hfl:=qO (D.take off) fun d hd=>hD16 d (List.mem_of_mem_take hd)
   have hfl2:bX (D.take off)<65536:=Nat.lt_of_lt_of_le hfl (by
    rw[List.length_take]
    exact Nat.pow_le_pow_right (by omega) (show min off _<=4 by omega))
   have e1:bX (D.take (off+1))=acc*16+D[off]:=by
    rw[List.take_add_one,List.getElem?_eq_getElem hin,hacc]
    exact iC _ _
   have e2:i64.wrap ((acc:Int)*(2:Int)^4)=((acc*16:Nat):Int):=by
    rw[show(acc:Int)*(2:Int)^4=((acc*16:Nat):Int) by rw[Int.natCast_mul];rfl]
    exact aq (by omega) (by omega)
   have e3:i64.wrap (i64.wrap ((acc:Int)*(2:Int)^4)+(D[off]:Int))=((bX (D.take (off+1)):Nat):Int):=by
    rw[e1,e2,aq (by omega) (by omega)];omega
   have e4:i64.wrap ((off:Int)+1)=((off+1:Nat):Int):=by rw[aq (by omega) (by omega)];omega
   have h0:=hst.base 0 (by show 0<2;omega)
   have h1:=hst.base 1 (by show 1<2;omega)
   rw[e3,e4]
   simp only[ja,af,SV.den]
   rw[h0,h1]
  ·have he:off=D.length:=by omega
   refine kh (y:=c) ⟨rfl,Keep.refl _ _,fun b hb=>.inl hb⟩ (by rw[Int.toNat_natCast,he];exact hrest0) fun w4 bs4 hk4 hbs4=>?_
   rw[hc]
   refine ak (fun h=>absurd h (by omega)) (fun _=>?_)
   refine aJ ⟨rfl,cz.trans hk4,fun b hb=>(hbs4 b hb).imp id (Nat.le_trans cz.size)⟩ fun β' w' hst hk'=>⟨.inl ⟨(off,acc),rfl,?_,hst.objsAt rfl (aP _).2,?_⟩,hk'⟩
   ·have h0:=hst.base 0 (by show 0<2;omega)
    have h1:=hst.base 1 (by show 1<2;omega)
    simp only[ja,af,SV.den]
    rw[h0,h1]
   ·rw[hacc,he,List.take_of_length_le (Nat.le_refl _)]
 ·intro β2 w2 hst hk12
  exact⟨(0,0),hsel β2,fun i o hi=>hst.at_ i o (by rw[hobj];exact hi),Nat.zero_le _,rfl⟩
 ·rintro w2 p w3 rfl hk12 hk13 g2 bs3 hbs3
  exact hk w3 g2 bs3 hk13 fun b hb=>(hbs3 b hb).1
 ·rintro w2 p w3 h
  exact h.elim
def IK(T:List UInt8)(z:P6):Prop:=
 z.l.length=16/\z.e=0/\((z.i=0/\z.s=⟨(102 :: 102 :: 102 :: 102 :: 58 :: T).toArray⟩)∨(z.i=2/\z.s=⟨T.toArray⟩/\z.l.getD 0 0=255/\z.l.getD 1 0=255))
def II(os:List UInt8)(o:O6):Prop:=o.s.size=0/\o.i=6/\o.e=0/\o.q 0=255/\o.q 1=255/\∀j,j<4->o.q (2+j)=((os.getD j 0).toNat:Int)
theorem Ck:ib 46 = -1:=by decide
theorem Gm(a b c d:UInt8)(β:Nat->Nat)(w0 w1:World)(z:P6)(g:Nat->Value)(hk01:Keep (ac β 2) w0 w1)(hI:IK (aE a b c d) z) :
  (aO Tryz.prog (DF z) 1000 301 (av Tryz.prog 301 10) (ay ((yL .normal).zip (gD z)) g 172 0) (fun e a s=>.leaf e (fG yL e a) s) (SS.mk (aV z.l) [] true w1 (ac β 2))).holds
   {P:=Tryz.prog,β0:=β,n0:=2,Q:=sH β (ac β 2) gD (fun z=>aV z.l) (fun z=>16-z.i) (fun z _=>IK (aE a b c d) z) (.exit 0) ri (fun o=>bT o.q) (fun o _=>II [a,b,c,d] o) .ret (fun _:Unit=>[]) (fun _=>bT fun _=>0) (fun _ _=>False) w0 z }:=by
 obtain⟨hl,he,hcase⟩:=hI
 have hall:=Cj a.toNat a.toNat_lt
 generalize Dq a.toNat=D at hall
 obtain⟨hD,hD0,hD3,hD16⟩:=hall
 have hT:aE a b c d=D.map ca++46 :: jd [b,c,d]:=by rw[<- MK,kq,hD];rfl
 have hTl:(aE a b c d).length<1000:=by
  have l0:=bt a.toNat
  have l1:=bt b.toNat
  have l2:=bt c.toNat
  have l3:=bt d.toNat
  simp only[aE,List.length_append,List.length_cons,List.length_nil]
  omega
 rcases hcase with⟨hi,hs⟩ |⟨hi,hs,h0,h1⟩
 ·have hsz:z.s.size=5+(aE a b c d).length:=by rw[hs,aC];simp;omega
  have hT1:1<=(aE a b c d).length:=by rw[hT];simp;omega
  obtain⟨d0,t0,hd0,hT0⟩:∃d0 t0,d0<16/\aE a b c d=ca d0 :: t0:=by
   cases D with
   |nil=>simp at hD0
   |cons x D'=>exact⟨x,D'.map ca++46 :: jd [b,c,d],hD16 x (by simp),by rw[hT];rfl⟩
  refine ah (H7 z w1 (ac β 2) g) (ak (fun _=>?_) (fun h=>absurd (by omega) h))
  refine GJ (D:=[15,15,15,15]) (n:=4) (m:=65535) (c:=58) (r:=aE a b c d) ⟨rfl,Keep.refl _ _,fun b hb=>.inl hb⟩ rfl rfl hs hTl rfl rfl (by decide) (by decide) oK (by simp) (fun β=>rfl) ?_
  intro w2 g2 bs2 hk2 hbs2
  have e1:z.s.extract ((4:Nat):Int).toNat z.s.size=⟨(58 :: aE a b c d).toArray⟩:=by rw[hs,jE];rfl
  have hsz1:(z.s.extract ((4:Nat):Int).toNat z.s.size).size=1+(aE a b c d).length:=by rw[e1,aC];simp;omega
  have e2:(z.s.extract ((4:Nat):Int).toNat z.s.size).extract 1 (z.s.extract ((4:Nat):Int).toNat z.s.size).size=⟨(aE a b c d).toArray⟩:=by rw[e1,jE];rfl
  have hsz2:((z.s.extract ((4:Nat):Int).toNat z.s.size).extract 1 (z.s.extract ((4:Nat):Int).toNat z.s.size).size).size=(aE a b c d).length:=by rw[e2,aC]
  have ei1:i64.wrap ((z.i:Int)+1)=1:=by rw[hi];rfl
  dsimp only
  refine ae (fun h=>absurd h (by decide)) (fun _=>ak (fun _=>?_) (fun h=>absurd (by rw[hsz];omega) h))
  refine aa (by omega) (ae (fun h46=>?_) (fun _=>?_))
  ·have:(z.s.data.toList.getD ((4:Nat):Int).toNat 0)=58:=by rw[hs];rfl
   rw[this]at h46
   exact absurd h46 (by decide)
  refine aa (by omega) (aa (by rw[hi];simp;omega) (aa rfl (aa (by omega) (aa (by rw[ei1];simp;omega) (aa rfl (aa (by omega) ?_))))))
  refine ae (fun h=>by rw[hsz1]at h;have:=eq_of_beq h;omega) (fun _=>aa (by rw[hsz1];omega) (ae (fun hne=>?_) (fun _=>ae (fun h1=>by rw[hsz1]at h1;have:=eq_of_beq h1;omega) (fun _=>?_))))
  ·have hne2:(((((z.s.extract ((4:Nat):Int).toNat z.s.size).data.toList.getD 0 0).toNat:Nat):Int) != 58)=true:=hne
   rw[e1]at hne2
   exact absurd hne2 (by simp)
  refine aa (by rw[hsz1];omega) (aa (by rw[hsz2];omega) (ae (fun h58=>?_) (fun _=>?_)))
  ·have h58':((((((z.s.extract ((4:Nat):Int).toNat z.s.size).extract 1 (z.s.extract ((4:Nat):Int).toNat z.s.size).size).data.toList.getD 0 0).toNat:Nat):Int) == 58)=true:=h58
   rw[e2,hT0]at h58'
   have h5:(((ca d0).toNat:Nat):Int)=58:=by simpa using h58'
   have h6:=(pC d0 hd0).1
   exact absurd (UInt8.toNat_inj.1 (by show(ca d0).toNat=58;omega)) h6
  refine aJ ⟨rfl,hk01.trans hk2,fun b hb=>(hbs2 b hb).imp id (Nat.le_trans hk01.size)⟩ fun β' w' hst hk'=>⟨⟨⟨(aE a b c d).toArray⟩,0,2,(z.l.set 0 255).set 1 255⟩,by show 16-2<16-z.i;omega,?_,?_,⟨by simp[hl],rfl,.inr ⟨rfl,rfl,?_,?_⟩⟩,hk'⟩
  ·have h0:=hst.base 0 (by show 0<2;omega)
   have h1:=hst.base 1 (by show 1<2;omega)
   rw[e2,hi,he]
   simp only[gD,af,SV.den]
   rw[h0,h1]
   rfl
  ·have:=hst.objsAt rfl (aP _).2
   rw[ei1,hi]at this
   exact this
  ·rw[fk (by simp;omega),if_neg (by omega),fk (by omega),if_pos rfl]
  ·rw[fk (by simp;omega),if_pos rfl]
 ·have hs':z.s=⟨(D.map ca++46 :: jd [b,c,d]).toArray⟩:=by rw[hs,hT]
  have hsz:z.s.size=D.length+1+(jd [b,c,d]).length:=by rw[hs',aC];simp;omega
  have hjl:(jd [b,c,d]).length<1000:=by
   have:=congrArg List.length hT
   simp at this
   omega
  refine ah (H7 z w1 (ac β 2) g) (ak (fun _=>?_) (fun h=>absurd (by omega) h))
  refine GJ (D:=D) (n:=D.length) (m:=bX D) (c:=46) (r:=jd [b,c,d]) ⟨rfl,Keep.refl _ _,fun b hb=>.inl hb⟩ rfl rfl hs' hjl rfl rfl (by omega) hD16 Ck (by simp) (fun β=>rfl) ?_
  intro w2 g2 bs2 hk2 hbs2
  dsimp only
  have ei4:i64.wrap ((z.i:Int)+4)=6:=by rw[hi];rfl
  refine ae (fun h=>by have:=eq_of_beq h;omega) (fun _=>ak (fun _=>?_) (fun h=>absurd (by rw[hsz];omega) h))
  refine aa (by omega) (ae (fun _=>?_) (fun h46=>?_))
  rotate_left
  ·have:(z.s.data.toList.getD ((D.length:Nat):Int).toNat 0)=46:=by
    rw[hs',Int.toNat_natCast]
    show(D.map ca++46 :: jd [b,c,d]).getD D.length 0=46
    rw[List.getD_eq_getElem?_getD,List.getElem?_append_right (by simp)]
    simp
   rw[this]at h46
   exact absurd h46 (by decide)
  rw[ei4,hi,he]
  refine ak (fun h=>absurd h (by decide)) (fun _=>ak (fun h=>absurd h (by decide)) (fun _=>aa (by decide) (aa (by decide) ?_)))
  refine tT (w:=w1) (bs:=ac β 2) (R:=fun(l':List Int) _ _=>l'.length=16/\l'.getD 0 0=255/\l'.getD 1 0=255/\∀j,j<4->l'.getD (2+j) 0=((([a,b,c,d]:List UInt8).getD j 0).toNat:Int)) ⟨rfl,hk2,hbs2⟩ rfl (fun x=>⟨rfl,(aP _).2,trivial⟩) (fun β2 w3 hst hk3=>?_) ?_
  ·have hc:=y4 a b c d z.l false false false hst rfl hl h0 h1
   rw[hs]
   show Calls Tryz.prog 300 (af β2 [.str ⟨(aE a b c d).toArray⟩ false,.slc 1 2 4 14 false false]).toArray w3 _
   refine hc.mono ?_
   rintro e w' ⟨l',rfl,hk,hat,h⟩
   exact⟨l',rfl,hk,hat,h⟩
  ·rintro l' w3 w4 bs4 ⟨g1,g2',g3,g4⟩ hk4 hbs4
   refine aJ ⟨rfl,hk01.trans hk4,fun b hb=>(hbs4 b hb).imp id (Nat.le_trans hk01.size)⟩ fun β' w' hst hk'=>⟨.inl ⟨⟨⟨#[]⟩,0,6,fun j=>l'.getD j 0⟩,rfl,?_,iE (hst.objsAt rfl (aP _).2) g1,rfl,rfl,rfl,g2',g3,g4⟩,hk'⟩
   have h0:=hst.base 0 (by show 0<2;omega)
   have h1:=hst.base 1 (by show 1<2;omega)
   simp only[ri,af,SV.den]
   rw[h0,h1]
   rfl
def JD(os:List UInt8):List UInt8:=[0,0,0,0,0,0,0,0,0,0,255,255]++os
theorem JC{s s0:SS}{a a0:List SV}{w:World}{x y z u:UInt8}{Q:SE->List Value->World->Prop}{k:O6×(Nat->Value)->World->List Nat->T}{k':Unit×(Nat->Value)->World->List Nat->T}(hf:Fine w s)(hgl:s.gl=[])(hobj:s.objs=[.cells gO 16 188 0 0,.cells gO 16 188 0 0])
  (hN:a.length=172) (hsel:∀β,gu yL .normal (af β a)=af β (gD ⟨⟨(102 :: 102 :: 102 :: 102 :: 58 :: aE x y z u).toArray⟩,0,0,List.replicate 16 0⟩))
  (hk:∀o w' g bs,Below w.heap.size w w'->(∀b∈bs,w.heap.size<=b)->II [x,y,z,u] o->(k (o,g) w' bs).holds (c8 Tryz.prog Q)) :
  (T.loop 301 (av Tryz.prog 301 10) a s (LoopHook.X dX) (LoopHook.out dX a0 s0) k (LoopHook.Y dX) (LoopHook.out' dX a0 s0) k').holds (c8 Tryz.prog Q):=by
 refine jg (w:=w) hf hgl 2 (by show s.objs.length=2;rw[hobj];rfl) yL gD (fun z=>aV z.l) (fun z=>16-z.i) (fun _ v _=>IK (aE x y z u) v) (fun _ o _=>II [x,y,z,u] o) (fun _ _ _=>False) DF 1000
  hN (by simp[yL]) (by simp[yL]) (fun _=>⟨trivial,(pG 2 (by omega)).1,trivial,(pG 2 (by omega)).2,trivial,trivial,trivial⟩) (fun _=>aP _) rfl rfl (by simp) (by simp) (fun _=>⟨⟨trivial,(pG 2 (by omega)).1,trivial,(pG 2 (by omega)).2,trivial,trivial,trivial⟩,dQ _⟩) (fun _=>⟨trivial,dQ _⟩) ?_ ?_ ?_ ?_
 ·rintro β w0 v w1 g hb0 hI hkp hge
  exact Gm x y z u β w0 w1 v g hkp hI
 ·intro β w0 hst hb
  refine⟨_,hsel β,iw (q:=fun _=>0) fun i o hi=>?_,by simp,rfl,.inl ⟨rfl,rfl⟩⟩
  match i,hi with
  |0,hi=>exact hst.at_ 0 o (by rw[hobj];exact hi)
  |1,hi=>
   simp only[bT,List.getElem?_cons_succ,List.getElem?_cons_zero,Option.some.injEq]at hi
   subst hi
   exact hst.at_ 1 (.cells gO 16 188 0 0) (by rw[hobj];rfl)
  |i+2,hi=>simp[bT]at hi
 ·rintro w0 v w' hsh hb0 hb1 g bs hbs
  exact hk v w' g bs hb1 hbs hsh
 ·rintro w0 q' w' h
  exact h.elim
theorem CJ(a b c d:UInt8)(w:World) :
  Calls Tryz.prog 301 #[.string ⟨([58,58,102,102,102,102,58]++aE a b c d).toArray⟩] w (bB (fun v _=>∃q:Nat->Int,(∀j,j<16->q j=(((JD [a,b,c,d]).getD j 0).toNat:Int))/\v=SV.den id (.tup [.agg (cB q),.bool true true])) w):=by
 obtain⟨T,hT⟩:∃T,T=([58,58,102,102,102,102,58]++aE a b c d):=⟨_,rfl⟩
 rw[<- hT]
 refine aF (hk:=qQ) (n:=500) (args:=[.str ⟨T.toArray⟩ false]) ⟨trivial,trivial⟩ ?_
 refine ah (Mh ⟨T.toArray⟩ w) ?_
 have hget:∀j,((⟨T.toArray⟩:ByteArray).data.toList.getD j 0)=T.getD j 0:=fun j=>rfl
 have hl:(⟨T.toArray⟩:ByteArray).size=(aE a b c d).length+7:=by rw[aC,hT];simp
 refine ak (fun _=>?_) (fun h=>absurd (by rw[hl];omega) h)
 refine aa (by rw[hl];omega) (ae (fun _=>?_) (fun h=>by rw[hget,hT]at h;simp at h))
 refine aa (by rw[hl];omega) (ae (fun _=>?_) (fun h=>by rw[hget,hT]at h;simp at h))
 refine aa (by rw[hl];omega) ?_
 have e2:(⟨T.toArray⟩:ByteArray).extract 2 (⟨T.toArray⟩:ByteArray).size=⟨(102 :: 102 :: 102 :: 102 :: 58 :: aE a b c d).toArray⟩:=by
  rw[jE,hT];rfl
 refine ae (fun hz=>by rw[e2,aC]at hz;have:=eq_of_beq hz;simp at this;omega) (fun hz=>?_)
 refine JC (w:=w) (x:=a) (y:=b) (z:=c) (u:=d) (Fine.start w _) rfl rfl rfl (fun β=>?_) ?_
 ·simp only[e2]
  rfl
 intro o w2 g bs2 hw2 hbs2 ⟨hsz,hoi,hoe,hq0,hq1,hqj⟩
 dsimp only
 refine ae (fun h=>by rw[hsz]at h;simp at h) (fun _=>ak (fun hi16=>?_) (fun hi16=>absurd (by rw[hoi];decide) hi16))
 rw[hoe,hoi]
 refine ak (fun h=>absurd h (by decide)) (fun _=>?_)
 have e1:i64.wrap ((16:Int)-((6:Nat):Int))=((16-6:Nat):Int):=by rfl
 have e3:i64.wrap (((6:Nat):Int)-(1:Int))=((6:Nat):Int)-1:=rfl
 rw[e1,e3]
 refine uz (w:=w) (E:=0) (I:=6) (q:=o.q) (Fine.mk' hw2 hbs2) rfl rfl (by omega) (by omega) rfl (fun β=>rfl) ?_
 intro x w3 g3 bs3 hw3 hbs3 hF
 have hxe:=hF.1
 have hxn:=hF.2.1
 dsimp only
 rw[hxe,hxn]
 refine uB (w:=w) (E:=0) (I:=6) (q:=o.q) (q1:=x.q) (Fine.mk' hw3 hbs3) rfl rfl (by omega) (by omega) rfl ⟨rfl,rfl,hF.2.2⟩ (fun β=>rfl) ?_
 intro q' w4 g4 bs4 hw4 hbs4 hq'
 refine aQ (Fine.mk' hw4 hbs4) fun β' w' _ _=>⟨q',fun j hj=>?_,rfl⟩
 rw[hq' j hj,if_neg (by omega)]
 match j,hj with
 |0,_ |1,_ |2,_ |3,_ |4,_ |5,_ |6,_ |7,_ |8,_ |9,_=>rfl
 |10,_=>exact hq0
 |11,_=>exact hq1
 |12,_=>exact hqj 0 (by omega)
 |13,_=>exact hqj 1 (by omega)
 |14,_=>exact hqj 2 (by omega)
 |15,_=>exact hqj 3 (by omega)
 |n+16,h=>exact absurd h (by omega)
end
section
open Go Go.Rx Go.RowKit
theorem pz(l:List UInt8)(a:Nat):∀(n j:Nat),j<2*n->(qx (lA l a (a+n))).getD j 0=((l.getD (2*a+j) 0).toNat:Int)
 |0,j,h=>by omega
 |n+1,j,h=>by
  have hs:lA l a (a+(n+1))=lA l a (a+n)++[aK l (a+n)]:=dw l (Nat.le_add_right a n)
  have hl:(qx (lA l a (a+n))).length=2*n:=by rw[py];simp[lA]
  rw[hs,xA]
  have h1:=(l.getD (2*(a+n)) 0).toNat_lt
  have h2:=(l.getD (2*(a+n)+1) 0).toNat_lt
  rcases Nat.lt_or_ge j (2*n) with hj |hj
  ·rw[<- pz l a n j hj,List.getD_eq_getElem?_getD,List.getD_eq_getElem?_getD,List.getElem?_append_left (by omega)]
  ·rw[List.getD_eq_getElem?_getD,List.getElem?_append_right (by omega),hl]
   rcases(show j=2*n∨j=2*n+1 by omega) with rfl |rfl
   ·rw[Nat.sub_self]
    simp only[List.getElem?_cons_zero,Option.getD_some,aK]
    rw[show 2*a+2*n=2*(a+n) by omega]
    omega
   ·rw[show 2*n+1-2*n=1 by omega]
    simp only[List.getElem?_cons_succ,List.getElem?_cons_zero,Option.getD_some,aK]
    rw[show 2*a+(2*n+1)=2*(a+n)+1 by omega]
    omega
theorem kw(l:List UInt8)(a b:Nat):(lA l a b).length=b-a:=by simp[lA]
theorem uy(l:List UInt8)(a b:Nat):∀g∈lA l a b,g<65536:=by
 intro g hg
 simp only[lA,List.mem_map]at hg
 obtain⟨j,_,rfl⟩:=hg
 exact du l j
def Eu(l:List UInt8)(f:Nat):List Nat:=if f=255 then lA l 0 8 else lA l 0 f
def Ez(l:List UInt8)(f t:Nat):Option (List Nat):=if f=255 then none else some (lA l t 8)
theorem Gs(l:List UInt8)(f t:Nat):gS l f t=jn (Eu l f)++bm (Ez l f t):=by
 unfold gS Eu Ez
 split
 ·simp[bm]
 ·simp[bm]
theorem LG{l:List UInt8}{f t:Nat}(h:e8 l f t):(∀g∈Eu l f++(Ez l f t).getD [],g<65536)/\((Ez l f t=none/\(Eu l f).length=8)∨(∃B,Ez l f t=some B/\(Eu l f).length+B.length<=7)):=by
 constructor
 ·intro g hg
  unfold Eu Ez at hg
  split at hg
  ·simp only[Option.getD_none,List.append_nil]at hg
   exact uy l 0 8 g hg
  ·rcases List.mem_append.1 hg with hg |hg
   ·exact uy l 0 f g hg
   ·exact uy l t 8 g hg
 ·unfold Eu Ez
  rcases h with⟨rfl,rfl⟩ |⟨h1,h2,_⟩
  ·exact .inl ⟨rfl,kw l 0 8⟩
  ·rw[if_neg (by omega),if_neg (by omega)]
   refine .inr ⟨_,rfl,?_⟩
   rw[kw,kw]
   omega
theorem FZ{l:List UInt8}{f t:Nat}(h:e8 l f t)(j:Nat)(hj:j<16):(je (Eu l f) (Ez l f t)).getD j 0=((l.getD j 0).toNat:Int):=by
 unfold Eu Ez
 rcases h with⟨rfl,rfl⟩ |⟨h1,h2,h3⟩
 ·have:=pz l 0 8 j (by omega)
  simpa [je] using this
 ·rw[if_neg (by omega),if_neg (by omega)]
  have lP:(qx (lA l 0 f)).length=2*f:=by rw[py,kw];omega
  simp only[je,kw]
  rw[List.append_assoc,List.getD_eq_getElem?_getD]
  rcases Nat.lt_or_ge j (2*f) with hjf |hjf
  ·rw[List.getElem?_append_left (by omega),<- List.getD_eq_getElem?_getD]
   have:=pz l 0 f j hjf
   simpa using this
  ·rw[List.getElem?_append_right (by omega),lP]
   rcases Nat.lt_or_ge j (2*t) with hjt |hjt
   ·rw[List.getElem?_append_left (by simp;omega),List.getElem?_replicate,if_pos (by omega)]
    have hz:=h3 (j/2) (by omega) (by omega)
    unfold aK at hz
    rcases(show j=2*(j/2)∨j=2*(j/2)+1 by omega) with hh |hh
    ·rw[<- hh]at hz
     show(0:Int)=_
     omega
    ·rw[<- hh]at hz
     show(0:Int)=_
     omega
   ·rw[List.getElem?_append_right (by simp;omega),<- List.getD_eq_getElem?_getD]
    have:=pz l t (8-t) (j-2*t) (by omega)
    rw[show t+(8-t)=8 by omega,show 2*t+(j-2*t)=j by omega]at this
    rw[<- this]
    congr 1
    simp
    omega
theorem jF{g:Nat}{x:UInt8}(h:x∈ax g):x≠46/\x≠58/\x≠37:=by
 rw[cE]at h
 obtain⟨d,hd,rfl⟩:=List.mem_map.1 h
 have:=pC d (mn g d hd)
 exact⟨this.2.1,this.1,this.2.2⟩
theorem zb:∀(G:List Nat) {x:UInt8},x∈jn G->x≠37
 |[],x,h=>by simp[jn]at h
 |[g],x,h=>(jF (g:=g) (by simpa [jn] using h)).2.2
 |g :: y :: r,x,h=>by
  have e:jn (g :: y :: r)=ax g++[58]++jn (y :: r):=by simp[jn]
  rw[e]at h
  rcases List.mem_append.1 h with h |h
  ·rcases List.mem_append.1 h with h |h
   ·exact(jF h).2.2
   ·simp at h;subst h;decide
  ·exact zb (y :: r) h
theorem za:∀(G:List Nat),(∀g∈G,g<65536)->(jn G).length<=5*G.length
 |[],_=>by simp[jn]
 |[g],h=>by
  have:=kl 3 g (by have:=h g (by simp);omega)
  simp[jn,cE]
  omega
 |g :: y :: r,h=>by
  have e:jn (g :: y :: r)=ax g++[58]++jn (y :: r):=by simp[jn]
  have h1:=kl 3 g (by have:=h g (by simp);omega)
  have h2:=za (y :: r) fun x hx=>h x (List.mem_cons_of_mem _ hx)
  rw[e,cE]
  simp only[List.length_append,List.length_cons,List.length_nil,List.length_map]at h2 ⊢
  omega
theorem re{T:List UInt8}{j:Nat}(hj:j<T.length):T.getD j 0∈T:=by
 rw[List.getD_eq_getElem?_getD,List.getElem?_eq_getElem hj]
 exact List.getElem_mem hj
theorem Bu{T:List UInt8}{P:List Nat}{Q:Option (List Nat)}{Res:QV->Prop}(hT:T=jn P++bm Q)(hg:∀g∈P++Q.getD [],g<65536)(hQ:(Q=none/\P.length=8)∨(∃B,Q=some B/\P.length+B.length<=7))(hR:∀q:Nat->Int,(∀j,j<16->q j=(je P Q).getD j 0)->Res ⟨false,q⟩)(w:World) :
  Calls Tryz.prog 301 #[.string ⟨T.toArray⟩] w (bB (fun v _=>∃q:Nat->Int,Res ⟨false,q⟩/\v=SV.den id (.tup [.agg (cB q),.bool true true])) w):=by
 subst hT
 refine(Ev P Q w hg hQ).mono ?_
 rintro e w' ⟨v,he,⟨q,hq,hv⟩,hb⟩
 exact⟨v,he,⟨q,hR q hq,hv⟩,hb⟩
theorem IX{l:List UInt8}{f t:Nat}(h:e8 l f t):∃m,qm (gS l f t) m (fun z=>∀j,j<16->z.q j=((l.getD j 0).toNat:Int)):=by
 obtain⟨hg,hQ⟩:=LG h
 have hfull:=fun(q:Nat->Int) (hq:∀j,j<16->q j=(je (Eu l f) (Ez l f t)).getD j 0) (j:Nat) (hj:j<16)=>(hq j hj).trans (FZ h j hj)
 rw[Gs]
 generalize Eu l f=P at *
 generalize Ez l f t=Q at *
 have h37:∀x∈jn P++bm Q,x≠37:=by
  intro x hx
  rcases List.mem_append.1 hx with hx |hx
  ·exact zb P hx
  ·cases Q with
   |none=>simp[bm]at hx
   |some B=>
    simp only[bm,List.mem_cons]at hx
    rcases hx with rfl |rfl |hx
    ·decide
    ·decide
    ·exact zb B hx
 have hlen:(jn P++bm Q).length<2^40:=by
  have h1:=za P fun g hg'=>hg g (List.mem_append_left _ hg')
  rcases hQ with⟨h2,h3⟩ |⟨B,h2,h3⟩
  ·subst h2
   simp[bm]
   omega
  ·subst h2
   have h4:=za B fun g hg'=>hg g (List.mem_append_right _ hg')
   simp[bm]
   omega
 have hno:∀j,j<(jn P++bm Q).length->(jn P++bm Q).getD j 0≠37:=fun j hj=>h37 _ (re hj)
 cases P with
 |nil=>
  rcases hQ with⟨_,h3⟩ |⟨B,h2,h3⟩
  ·simp at h3
  ·subst h2
   refine⟨0,hlen,by simp[bm];omega,fun j hj=>absurd hj (Nat.not_lt_zero j),.inr ⟨rfl,hno,Bu (Res:=fun z=>∀j,j<16->z.q j=((l.getD j 0).toNat:Int)) rfl hg (.inr ⟨B,rfl,h3⟩) hfull⟩⟩
 |cons g0 R=>
  obtain⟨rest,hrest,hcase⟩:=ES (g:=g0) (R:=R) (tl:=Q)
  obtain⟨r,hr⟩:∃r,rest=58 :: r:=by
   rcases hcase with⟨h1,h2,_⟩ |⟨_,h2⟩ |⟨B,_,_,h2⟩
   ·subst h1 h2
    rcases hQ with⟨_,h3⟩ |⟨B,h3,_⟩
    ·simp at h3
    ·cases h3
   ·exact⟨_,h2⟩
   ·exact⟨_,h2⟩
  subst hr
  refine⟨(ax g0).length,hlen,by rw[hrest];simp,fun j hj=>?_,.inr ⟨?_,hno,Bu (Res:=fun z=>∀j,j<16->z.q j=((l.getD j 0).toNat:Int)) rfl hg hQ hfull⟩⟩
  ·rw[hrest,List.getD_eq_getElem?_getD,List.getElem?_append_left hj,<- List.getD_eq_getElem?_getD]
   exact jF (re hj)
  ·rw[hrest,List.getD_eq_getElem?_getD,List.getElem?_append_right (Nat.le_refl _),Nat.sub_self]
   rfl
theorem IW(a b c d:UInt8):∃m,qm (aE a b c d) m (fun z=>∀j,j<16->z.q j=((([0,0,0,0,0,0,0,0,0,0,255,255,a,b,c,d]:List UInt8).getD j 0).toNat:Int)):=by
 obtain⟨hp,_,hk⟩:=jB a.toNat a.toNat_lt
 have hT:aE a b c d=cU a.toNat++46 :: jd [b,c,d]:=by rw[<- MK,kq];rfl
 have hTl:(aE a b c d).length<2^40:=by
  have l0:=bt a.toNat
  have l1:=bt b.toNat
  have l2:=bt c.toNat
  have l3:=bt d.toNat
  simp only[aE,List.length_append,List.length_cons,List.length_nil]
  omega
 refine⟨(cU a.toNat).length,hTl,by rw[hT];simp,fun j hj=>?_,.inl ⟨?_,a,b,c,d,rfl,fun j hj=>?_⟩⟩
 ·obtain⟨f1,f2,_⟩:=hk j hj
  rw[hT,List.getD_eq_getElem?_getD,List.getElem?_append_left hj,<- List.getD_eq_getElem?_getD]
  refine⟨fun h=>?_,fun h=>?_,fun h=>?_⟩ <;> (rw[h]at f1 f2;simp at f1 f2)
 ·rw[hT,List.getD_eq_getElem?_getD,List.getElem?_append_right (Nat.le_refl _),Nat.sub_self]
  rfl
 ·match j,hj with
  |0,_ |1,_ |2,_ |3,_ |4,_ |5,_ |6,_ |7,_ |8,_ |9,_ |10,_ |11,_ |12,_ |13,_ |14,_ |15,_=>rfl
  |n+16,h=>omega
theorem FN(a b c d:UInt8):∃m,qm ([58,58,102,102,102,102,58]++aE a b c d) m (fun z=>∀j,j<16->z.q j=(((JD [a,b,c,d]).getD j 0).toNat:Int)):=by
 have hTl:(aE a b c d).length<1000:=by
  have l0:=bt a.toNat
  have l1:=bt b.toNat
  have l2:=bt c.toNat
  have l3:=bt d.toNat
  simp only[aE,List.length_append,List.length_cons,List.length_nil]
  omega
 have hd:∀x:UInt8,∀y∈cU x.toNat,y≠37:=fun x y hy=>by
  obtain⟨k,hk,rfl⟩:=List.getElem_of_mem hy
  have:=(jB x.toNat x.toNat_lt).2.2 k hk
  rw[List.getD_eq_getElem?_getD,List.getElem?_eq_getElem hk]at this
  intro h
  rw[Option.getD_some,h]at this
  have h1:=this.1
  simp at h1
 have h37:∀y∈([58,58,102,102,102,102,58]++aE a b c d:List UInt8),y≠37:=by
  intro y hy
  simp only[aE,List.mem_append,List.mem_singleton]at hy
  rcases hy with hy |(((((hy |rfl) |hy) |rfl) |hy) |rfl) |hy
  ·revert y;decide
  all_goals first
   |exact hd _ _ hy
   |decide
 refine⟨0,by simp;omega,by simp,fun j hj=>absurd hj (Nat.not_lt_zero j),.inr ⟨rfl,fun j hj=>h37 _ (re hj),fun w=>?_⟩⟩
 exact CJ a b c d w
end
section
open Go Go.Rx Go.RowKit
@[reducible] def AP:Hook:={ X:=Addr,out:=fun _ s a=>(.xs (some a) 16 16,s.objs) }
def A9:Hooks:={ calls:=fun f=>if f=205 then some AP else if f=206∨f=213 then some bn else none,loops:=fun _ _=>none }
theorem Oz(A:Option Addr)(n c:Nat)(w:World):al Tryz.prog ar 500 213 [.xs A n c] (SS.mk [] [] true w []) =
 (.split ((↑n:Int) == (4:Int))
  (.need ((0:Int)<=(0:Int)/\(0:Int)<(↑n:Int))
  (.need (A.isSome=true)
  (.need (canRead w [] ((A.getD default).add (0:Nat)) [SV.int u8 (aj w (((A.getD default).add (0:Nat)).add (0:Nat))) false])
  (.need ((0:Int)<=(1:Int)/\(1:Int)<(↑n:Int))
  (.need (A.isSome=true)
  (.need (canRead w [] ((A.getD default).add (1:Nat)) [SV.int u8 (aj w (((A.getD default).add (1:Nat)).add (0:Nat))) false])
  (.need ((0:Int)<=(2:Int)/\(2:Int)<(↑n:Int))
  (.need (A.isSome=true)
  (.need (canRead w [] ((A.getD default).add (2:Nat)) [SV.int u8 (aj w (((A.getD default).add (2:Nat)).add (0:Nat))) false])
  (.need ((0:Int)<=(3:Int)/\(3:Int)<(↑n:Int))
  (.need (A.isSome=true)
  (.need (canRead w [] ((A.getD default).add (3:Nat)) [SV.int u8 (aj w (((A.getD default).add (3:Nat)).add (0:Nat))) false])
  (.need (canRead w [] (Addr.mk (10:Nat) (0:Nat) none) [SV.xs (sA w ((Addr.mk (10:Nat) (0:Nat) none).add (0:Nat))) (pt w ((Addr.mk (10:Nat) (0:Nat) none).add (0:Nat))) (xo w ((Addr.mk (10:Nat) (0:Nat) none).add (0:Nat)))])
  (.need (canBytes w [] (sA w ((Addr.mk (10:Nat) (0:Nat) none).add (0:Nat))) (pt w ((Addr.mk (10:Nat) (0:Nat) none).add (0:Nat))))
  (.need (pt w ((Addr.mk (10:Nat) (0:Nat) none).add (0:Nat))<=(16:Nat))
  (.bad "copy: not tracked"))))))))))))))))
  (.split ((↑n:Int) == (16:Int))
  (.leaf .ret [(.xs A n c)] (SS.mk [] [] true w []))
  (.leaf .ret [(.one (.slice none 0 0) rfl)] (SS.mk [] [] true w [])))):=by kernel_rfl
noncomputable abbrev wC(s:ByteArray)(w:World)(k0_:Nat)(k1_:ByteArray):T:=(.hc 205 [(.str s false)] (SS.mk [] [] true w []) (AP) fun x0 w0 b0=>(.call k0_ [(.xs (some x0) 16 16)] (SS.mk [] [] true w0 b0) (Hook.X (bn)) (Hook.out (bn) [(.xs (some x0) 16 16)] (SS.mk [] [] true w0 b0)) fun x1 w1 b1=>(.split x1.A.isNone (.leaf .ret [(.tup [(.one (.slice none 0 0) rfl),(.ifc 105 (.ptr 0 0))])] (SS.mk [(.cells [(.str k1_ true)] 1 107 0 0)] [] true w1 b1)) (.leaf .ret [(.tup [(.xs x1.A x1.k x1.c),(.one .nilIface rfl)])] (SS.mk [] [] true w1 b1)))))
theorem Ii(s:ByteArray)(w:World):al Tryz.prog A9 500 163 [.str s false] (SS.mk [] [] true w []) =
(wC s w 206 (ByteArray.mk #[102,97,105,108,101,100,32,116,111,32,112,97,114,115,101,32,105,112,52,32,97,100,100,114,58])):=by kernel_rfl
theorem Ok(s:ByteArray)(w:World):(by have h:=Ii s w;unfold wC at h;exact type_of% h):=Ii s w
theorem Ij(s:ByteArray)(w:World):al Tryz.prog A9 500 170 [.str s false] (SS.mk [] [] true w []) =
(wC s w 213 (ByteArray.mk #[102,97,105,108,101,100,32,116,111,32,112,97,114,115,101,32,105,112,54,32,97,100,100,114,58])):=by kernel_rfl
theorem Ol(s:ByteArray)(w:World):(by have h:=Ij s w;unfold wC at h;exact type_of% h):=Ij s w
theorem bd{w w':World}{bs:List Nat}{a:Addr}{n:Nat}{l:List UInt8}(h:Bts w w.heap.size (some a) n l)(hk:Keep bs w w')(hn:a.block ∉ bs):Bts w' w'.heap.size (some a) n l:=by
 refine⟨h.1,fun h0=>?_⟩
 obtain⟨a',ha,hb,hx⟩:=h.2 h0
 cases ha
 refine⟨a,rfl,Nat.lt_of_lt_of_le hb hk.size,fun i x hi=>?_⟩
 have:=hx i x hi
 have hbl:(a.add (i*1)).block=a.block:=aL _ _
 simp only[World.cell?]at this ⊢
 rw[hbl]at this ⊢
 rw[hk.block a.block hb hn]
 exact this
theorem JN(A:Option Addr)(n c:Nat)(w:World)(h4:n≠4) :
  Calls Tryz.prog 213 #[.slice A n c] w (bB (fun v _=>(n=16/\v=.slice A n c)∨(n≠16/\v=.slice none 0 0)) w):=by
 refine aF (hk:=ar) (n:=500) (args:=[.xs A n c]) ⟨trivial,trivial⟩ ?_
 refine ah (Oz A n c w) (ae (fun h=>by have:=eq_of_beq h;omega) (fun _=>ae (fun h=>?_) (fun h=>?_)))
 ·have h16:n=16:=by have:=eq_of_beq h;omega
  exact aQ (Fine.start w _) fun β w' _ _=>.inl ⟨h16,rfl⟩
 ·have h16:n≠16:=fun he=>by rw[he]at h;simp at h
  exact aQ (Fine.start w _) fun β w' _ _=>.inr ⟨h16,rfl⟩
end
section
open Go Go.Rx Go.RowKit
def IE(w:World)(k:Nat)(lb:List UInt8):Prop:=∃q:Nat->Int,(∀j,j<16->q j=((lb.getD j 0).toNat:Int))/\w.heap[k]?=some (.cells (af id (cB q)).toArray 188 (0,0))
theorem jx{w w':World}{bs:List Nat}{k:Nat}{lb:List UInt8}(h:IE w k lb)(hk:Keep bs w w')(hlt:k<w.heap.size)(hn:k ∉ bs):IE w' k lb:=by
 obtain⟨q,h1,h2⟩:=h
 exact⟨q,h1,by rw[hk.block k hlt hn];exact h2⟩
theorem pw{w:World}{k B:Nat}{lb:List UInt8}(hlb:lb.length=16)(h:IE w k lb)(hB:k<B):Bts w B (some ⟨k,0,none⟩) 16 lb:=by
 obtain⟨q,hz,h1⟩:=h
 have hL:af id (cB q)=(lb.map fun x=>(x.toNat:Int)).map (Value.int .u8):=by
  have e:lb.map (fun x=>(x.toNat:Int))=[q 0,q 1,q 2,q 3,q 4,q 5,q 6,q 7,q 8,q 9,q 10,q 11,q 12,q 13,q 14,q 15]:=by
   apply List.ext_getElem
   ·simp[hlb]
   ·intro i h1 h2
    have hi:i<16:=by simpa [hlb] using h1
    have e1:(lb.map fun x=>(x.toNat:Int))[i]=q i:=by
     rw[hz i hi]
     simp[List.getD,hlb,hi]
    rw[e1]
    clear e1 h1
    match i,hi,h2 with
    |0,_,_ |1,_,_ |2,_,_ |3,_,_ |4,_,_ |5,_,_ |6,_,_ |7,_,_ |8,_,_ |9,_,_ |10,_,_ |11,_,_ |12,_,_ |13,_,_ |14,_,_ |15,_,_=>rfl
    |n+16,h,_=>exact absurd h (by omega)
  rw[e]
  rfl
 rw[hL]at h1
 have hb16:=da (k:=16) h1 (by
  intro v hv
  obtain⟨x,_,rfl⟩:=List.mem_map.1 hv
  have:=x.toNat_lt
  omega) (by simp[hlb]) hB
 have e2:(((lb.map fun x=>(x.toNat:Int)).take 16).map fun v=>UInt8.ofNat v.toNat)=lb:=by
  rw[List.take_of_length_le (by simp[hlb]),List.map_map]
  refine(List.map_congr_left (g:=id) fun x _=>?_).trans (List.map_id lb)
  simp
 rw[e2]at hb16
 exact hb16
theorem td(T lb:List UInt8)(m:Nat)(hA:qm T m (fun z=>∀j,j<16->z.q j=((lb.getD j 0).toNat:Int)))(w:World) :
  Calls Tryz.prog 205 #[.string ⟨T.toArray⟩] w (bB (fun v w'=>∃k,v=.slice (some ⟨k,0,none⟩) 16 16/\IE w' k lb/\w.heap.size<=k/\k<w'.heap.size) w):=by
 refine aF (hk:=GP) (n:=500) (args:=[.str ⟨T.toArray⟩ false]) ⟨trivial,trivial⟩ ?_
 refine ah (Oo ⟨T.toArray⟩ w) ?_
 refine ff (R:=fun(z:QV) _ _=>∀j,j<16->z.q j=((lb.getD j 0).toNat:Int)) (Fine.start w _) (fun z=>⟨rfl,⟨iM _ _,trivial,trivial,trivial⟩⟩) (fun β wc hst o hb=>?_) ?_
 ·refine(xY T m _ hA wc).mono ?_
  rintro e w' ⟨v,rfl,⟨z,hz,rfl⟩,hb'⟩
  exact⟨z,rfl,hb',hz⟩
 ·rintro z wc w1 b1 hwc hz hb1 hw1 hbs1
  refine aQ (Fine.mk' hw1 hbs1) fun β w' hst hb=>?_
  obtain⟨rest,h1,h2⟩:=hst.at_ 0 _ rfl
  have hr:rest=[]:=List.eq_nil_of_length_eq_zero (by have h2':16+rest.length=16:=h2;omega)
  subst hr
  have hlt:=hst.lt 0 (by simp[SS.n])
  have hfr:=(Fine.mk' hw1 hbs1).new (hst.old rfl) 0 (by simp[SS.n])
  rw[List.append_nil]at h1
  exact⟨β 0,rfl,⟨z.q,hz,h1⟩,hfr,hlt⟩
def MU(w:World)(off n:Nat)(lb:List UInt8)(v:Value)(w':World):Prop:=∃k,v=.tuple #[.slice (some ⟨k,off,none⟩) n n,.nilIface]/\IE w' k lb/\w.heap.size<=k/\k<w'.heap.size
theorem DK(a b c d:UInt8)(w:World):Calls Tryz.prog 163 #[.string ⟨(aE a b c d).toArray⟩] w (bB (MU w 12 4 [0,0,0,0,0,0,0,0,0,0,255,255,a,b,c,d]) w):=by
 refine aF (hk:=A9) (n:=500) (args:=[.str ⟨(aE a b c d).toArray⟩ false]) ⟨trivial,trivial⟩ ?_
 refine ah (Ok ⟨(aE a b c d).toArray⟩ w) ?_
 obtain⟨m,hA⟩:=IW a b c d
 refine c7 (R:=fun(p:Addr) wc w'=>∃k,p=⟨k,0,none⟩/\IE w' k [0,0,0,0,0,0,0,0,0,0,255,255,a,b,c,d]/\wc.heap.size<=k/\k<w'.heap.size) (Fine.start w _) (fun x=>⟨rfl,trivial⟩) (fun β wc hst o hb=>?_) ?_
 ·refine(td _ _ m hA wc).mono ?_
  rintro e w' ⟨v,rfl,⟨k,rfl,h1,h2,h3⟩,hb'⟩
  exact⟨⟨k,0,none⟩,rfl,hb',k,rfl,h1,h2,h3⟩
 rintro p wc w1 bs hb0 ⟨k,rfl,hblk,hfr,hlt⟩ hb1 hw1 hbs
 have hn:k ∉ bs:=fun hm=>by have:=(hbs _ hm).2;omega
 refine cj (w:=w1) (bs:=bs) (R:=fun(x:UV) _ _=>x=⟨some (Addr.add ⟨k,0,none⟩ 12),4,4⟩) ⟨rfl,Keep.refl _ _,fun b hb=>.inl hb⟩ (fun x=>⟨rfl,trivial⟩) (fun β w2 hst o hk=>?_) ?_
 ·have hbt:=pw rfl (jx hblk hk hlt hn) (Nat.lt_of_lt_of_le hlt hk.size)
  refine(uC (some ⟨k,0,none⟩) 16 16 _ w2.heap.size w2 hbt (Nat.le_refl _) (Nat.le_refl _)).mono ?_
  rintro e w' ⟨v,rfl,hv,hb'⟩
  rcases hv with⟨h,_⟩ |⟨_,_,q,hq,rfl⟩ |⟨_,h,_⟩
  ·omega
  ·cases hq
   exact⟨⟨some (Addr.add ⟨k,0,none⟩ 12),4,4⟩,rfl,hb',rfl⟩
  ·exact absurd (show cD [0,0,0,0,0,0,0,0,0,0,255,255,a,b,c,d] from rfl) (h rfl)
 rintro x w2 w3 bs3 hk12 rfl hb23 hk13 hbs3
 refine ae (fun h=>by simp at h) (fun _=>?_)
 have hge:∀b∈bs3,w.heap.size<=b:=fun b hb=>by
  have:=hw1.size
  rcases hbs3 b hb with h |h
  ·exact(hbs b h).1
  ·omega
 have hn3:k ∉ bs3:=fun hm=>by
  rcases hbs3 _ hm with h |h
  ·exact hn h
  ·omega
 have hw3:Below w.heap.size w w3:=hk13.below hw1 (Nat.le_refl _) fun b hb=>(hbs b hb).1
 refine aJ (w:=w3) (bs:=bs3) ⟨rfl,Keep.refl _ _,fun b hb=>.inl hb⟩ fun β' w4 hst hk34=>⟨_,rfl,⟨k,rfl,?_,?_,?_⟩,hk34.below hw3 (Nat.le_refl _) hge⟩
 ·exact jx (jx hblk hk13 hlt hn) hk34 (Nat.lt_of_lt_of_le hlt hk13.size) hn3
 ·have:=hb0.size
  omega
 ·exact Nat.lt_of_lt_of_le hlt (Nat.le_trans hk13.size hk34.size)
theorem xK{l:List UInt8}(hl:l.length=16){T:List UInt8}{m:Nat}(hA:qm T m (fun z=>∀j,j<16->z.q j=((l.getD j 0).toNat:Int)))(w:World):Calls Tryz.prog 170 #[.string ⟨T.toArray⟩] w (bB (MU w 0 16 l) w):=by
 refine aF (hk:=A9) (n:=500) (args:=[.str ⟨T.toArray⟩ false]) ⟨trivial,trivial⟩ ?_
 refine ah (Ol ⟨T.toArray⟩ w) ?_
 refine c7 (R:=fun(p:Addr) wc w'=>∃k,p=⟨k,0,none⟩/\IE w' k l/\wc.heap.size<=k/\k<w'.heap.size) (Fine.start w _) (fun x=>⟨rfl,trivial⟩) (fun β wc hst o hb=>?_) ?_
 ·refine(td _ _ m hA wc).mono ?_
  rintro e w' ⟨v,rfl,⟨k,rfl,h1,h2,h3⟩,hb'⟩
  exact⟨⟨k,0,none⟩,rfl,hb',k,rfl,h1,h2,h3⟩
 rintro p wc w1 bs hb0 ⟨k,rfl,hblk,hfr,hlt⟩ hb1 hw1 hbs
 have hn:k ∉ bs:=fun hm=>by have:=(hbs _ hm).2;omega
 refine cj (w:=w1) (bs:=bs) (R:=fun(x:UV) _ _=>x=⟨some ⟨k,0,none⟩,16,16⟩) ⟨rfl,Keep.refl _ _,fun b hb=>.inl hb⟩ (fun x=>⟨rfl,trivial⟩) (fun β w2 hst o hk=>?_) ?_
 ·refine(JN (some ⟨k,0,none⟩) 16 16 w2 (by omega)).mono ?_
  rintro e w' ⟨v,rfl,hv,hb'⟩
  rcases hv with⟨_,rfl⟩ |⟨h,_⟩
  ·exact⟨⟨some ⟨k,0,none⟩,16,16⟩,rfl,hb',rfl⟩
  ·exact absurd rfl h
 rintro x w2 w3 bs3 hk12 rfl hb23 hk13 hbs3
 refine ae (fun h=>by simp at h) (fun _=>?_)
 have hge:∀b∈bs3,w.heap.size<=b:=fun b hb=>by
  have:=hw1.size
  rcases hbs3 b hb with h |h
  ·exact(hbs b h).1
  ·omega
 have hn3:k ∉ bs3:=fun hm=>by
  rcases hbs3 _ hm with h |h
  ·exact hn h
  ·omega
 have hw3:Below w.heap.size w w3:=hk13.below hw1 (Nat.le_refl _) fun b hb=>(hbs b hb).1
 refine aJ (w:=w3) (bs:=bs3) ⟨rfl,Keep.refl _ _,fun b hb=>.inl hb⟩ fun β' w4 hst hk34=>⟨_,rfl,⟨k,rfl,?_,?_,?_⟩,hk34.below hw3 (Nat.le_refl _) hge⟩
 ·exact jx (jx hblk hk13 hlt hn) hk34 (Nat.lt_of_lt_of_le hlt hk13.size) hn3
 ·have:=hb0.size
  omega
 ·exact Nat.lt_of_lt_of_le hlt (Nat.le_trans hk13.size hk34.size)
theorem DM{l:List UInt8}(hl:l.length=16){f t:Nat}(hg:e8 l f t)(w:World):Calls Tryz.prog 170 #[.string ⟨(gS l f t).toArray⟩] w (bB (MU w 0 16 l) w):=by
 obtain⟨m,hA⟩:=IX hg
 exact xK hl hA w
end
section
open Go Go.Rx Go.RowKit
theorem DI(A:Option Addr)(n c:Nat)(p0 p1 p2 p3:UInt8)(B:Nat)(w:World)(h:Bts w B A n [p0,p1,p2,p3])(hc:n<=c)(hB:B<=w.heap.size)(ht:Tens w):Calls Tryz.prog 164 #[.slice A n c] w (bB (BQ (aE p0 p1 p2 p3)) w):=by
 have hn:n=4:=h.1
 refine aF (hk:=Ba) (n:=500) (args:=[.xs A n c]) ⟨trivial,trivial⟩ ?_
 refine ah (t164 A n c w) ?_
 refine hO (R:=fun(s:ByteArray) _ _=>s=⟨(aE p0 p1 p2 p3).toArray⟩) (fun x=>⟨rfl,trivial⟩) (fun β wc hb=>?_) ?_
 ·refine(sU A n c _ p0 p1 p2 p3 B wc (h.below (hb.mono hB) (Nat.le_refl _)) hc (Nat.le_trans hB hb.size) (ht.below hb ht.lt) (.inl ⟨hn,rfl⟩)).mono ?_
  rintro e w' ⟨v,rfl,rfl,hb'⟩
  exact⟨_,rfl,hb',rfl⟩
 ·rintro s wc w1 hwc rfl hb
  exact aQ (Fine.mk' (hwc.trans (hb.mono hwc.size)) (by simp)) fun β w' _ _=>rfl
def pK(l:List UInt8):List UInt8:=if cD l then[58,58,102,102,102,102,58]++aE (l.getD 12 0) (l.getD 13 0) (l.getD 14 0) (l.getD 15 0) else jw l
theorem kz(a b c d:UInt8):(aE a b c d).length<=15:=by
 have h1:=bt a.toNat
 have h2:=bt b.toNat
 have h3:=bt c.toNat
 have h4:=bt d.toNat
 simp only[aE,List.length_append,List.length_cons,List.length_nil]
 omega
theorem DZ{l:List UInt8}(hl:l.length=16):l.drop 12=[l.getD 12 0,l.getD 13 0,l.getD 14 0,l.getD 15 0]:=by
 match l,hl with
 |[a0,a1,a2,a3,a4,a5,a6,a7,a8,a9,a10,a11,a12,a13,a14,a15],_=>rfl
theorem DL(A:Option Addr)(n c:Nat)(l:List UInt8)(B:Nat)(w:World)(h:Bts w B A n l)(hl:l.length=16)(hc:n<=c)(hB:B<=w.heap.size)(ht:Tens w):Calls Tryz.prog 171 #[.slice A n c] w (bB (BQ (pK l)) w):=by
 have hn:n=16:=by have:=h.1;omega
 subst hn
 refine aF (hk:=Ba) (n:=500) (args:=[.xs A 16 c]) ⟨trivial,trivial⟩ ?_
 refine ah (Om A 16 c w) ?_
 refine hO (R:=fun(x:UV) _ _=>(cD l/\∃a,A=some a/\x=⟨some (a.add 12),4,c-12⟩)∨(¬cD l/\x.A.isNone=true)) (fun x=>⟨rfl,trivial⟩) (fun β wc hb=>?_) ?_
 ·refine(uC A 16 c l B wc (h.below (hb.mono hB) (Nat.le_refl _)) hc (Nat.le_trans hB hb.size)).mono ?_
  rintro e w' ⟨v,rfl,hv,hb'⟩
  rcases hv with⟨h1,_⟩ |⟨_,h2,a,ha,rfl⟩ |⟨_,h2,rfl⟩
  ·omega
  ·exact⟨⟨some (a.add 12),4,c-12⟩,rfl,hb',.inl ⟨h2,a,ha,rfl⟩⟩
  ·exact⟨⟨none,0,0⟩,rfl,hb',.inr ⟨h2 rfl,rfl⟩⟩
 rintro x wc w0 hwc hx hb0
 have hw0:Below w.heap.size w w0:=hwc.trans (hb0.mono hwc.size)
 rcases hx with⟨hm,a,rfl,rfl⟩ |⟨hm,hx⟩
 ·refine ae (fun _=>?_) (fun hs=>by cases hs)
  refine hO (R:=fun(s:ByteArray) _ _=>s=⟨(aE (l.getD 12 0) (l.getD 13 0) (l.getD 14 0) (l.getD 15 0)).toArray⟩) (fun x=>⟨rfl,trivial⟩) (fun β wc hb=>?_) ?_
  ·have hw:=hw0.trans (hb.mono hw0.size)
   have hd:=l9 (h.below (hw.mono hB) (Nat.le_refl _)) (show 12<=16 by omega)
   rw[DZ hl]at hd
   refine(sU (some (a.add 12)) 4 (c-12) _ _ _ _ _ B wc hd (by omega) (Nat.le_trans hB hw.size) (ht.below hw ht.lt) (.inl ⟨rfl,rfl⟩)).mono ?_
   rintro e w' ⟨v,rfl,rfl,hb'⟩
   exact⟨_,rfl,hb',rfl⟩
  ·rintro s wc1 w1 hwc1 rfl hb
   have hw1:=hw0.trans ((hwc1.trans (hb.mono hwc1.size)).mono hw0.size)
   refine aa ?_ (aQ (Fine.mk' hw1 (by simp)) fun β w' _ _=>?_)
   ·rw[aC,bj]
    have:=kz (l.getD 12 0) (l.getD 13 0) (l.getD 14 0) (l.getD 15 0)
    omega
   ·unfold BQ pK
    rw[if_pos hm]
    show Value.tuple #[.string ((⟨[58,58,102,102,102,102,58].toArray⟩:ByteArray)++⟨(aE (l.getD 12 0) (l.getD 13 0) (l.getD 14 0) (l.getD 15 0)).toArray⟩),.nilIface]=_
    rw[dt]
 ·refine ae (fun hs=>by rw[hx]at hs;cases hs) (fun _=>?_)
  refine hO (R:=fun(s:ByteArray) _ _=>s=⟨(jw l).toArray⟩) (fun x=>⟨rfl,trivial⟩) (fun β wc hb=>?_) ?_
  ·have hw:=hw0.trans (hb.mono hw0.size)
   refine(Cu A c l B wc (h.below (hw.mono hB) (Nat.le_refl _)) hc (Nat.le_trans hB hw.size) hm).mono ?_
   rintro e w' ⟨v,rfl,rfl,hb'⟩
   exact⟨_,rfl,hb',rfl⟩
  ·rintro s wc1 w1 hwc1 rfl hb
   refine aQ (Fine.mk' (hw0.trans ((hwc1.trans (hb.mono hwc1.size)).mono hw0.size)) (by simp)) fun β w' _ _=>?_
   unfold BQ pK
   rw[if_neg hm]
   rfl
theorem DJ(a b c d:UInt8)(w:World):Calls Tryz.prog 163 #[.string ⟨(aE a b c d).toArray⟩] w (bB (SQ [a,b,c,d] w) w):=by
 refine(DK a b c d w).mono ?_
 rintro e w' ⟨v,rfl,⟨k,rfl,h1,h2,h3⟩,hb⟩
 have:=l9 (pw rfl h1 h3) (show 12<=16 by omega)
 rw[Rx.add_plain]at this
 exact⟨_,rfl,⟨k,12,4,rfl,Nat.le_refl _,this,h2⟩,hb⟩
theorem qu(l:List UInt8):e8 l (bM l 8).1 (bM l 8).2:=fe l 8 (Nat.le_refl _)
theorem Jn{l:List UInt8}(hl:l.length=16)(hm:¬cD l)(w:World):Calls Tryz.prog 170 #[.string ⟨(pK l).toArray⟩] w (bB (SQ l w) w):=by
 unfold pK
 rw[if_neg hm]
 refine(DM hl (qu l) w).mono ?_
 rintro e w' ⟨v,rfl,⟨k,rfl,h1,h2,h3⟩,hb⟩
 have:=pw hl h1 h3
 rw[<- hl]at this
 exact⟨_,rfl,⟨k,0,16,by rw[hl],by omega,this,h2⟩,hb⟩
theorem xU{l:List UInt8}(hl:l.length=16)(hm:cD l):l=JD [l.getD 12 0,l.getD 13 0,l.getD 14 0,l.getD 15 0]:=by
 have h:=List.take_append_drop 12 l
 rw[DZ hl,show l.take 12=Bx from hm]at h
 exact h.symm
theorem xJ{l:List UInt8}(hl:l.length=16)(w:World):Calls Tryz.prog 170 #[.string ⟨(pK l).toArray⟩] w (bB (SQ l w) w):=by
 by_cases hm:cD l
 ·obtain⟨m,hA⟩:=FN (l.getD 12 0) (l.getD 13 0) (l.getD 14 0) (l.getD 15 0)
  rw[<- xU hl hm]at hA
  unfold pK
  rw[if_pos hm]
  refine(xK hl hA w).mono ?_
  rintro e w' ⟨v,rfl,⟨k,rfl,h1,h2,h3⟩,hb⟩
  have:=pw hl h1 h3
  rw[<- hl]at this
  exact⟨_,rfl,⟨k,0,16,by rw[hl],by omega,this,h2⟩,hb⟩
 ·exact Jn hl hm w
end
end Go.Proofs.YtnklanajebphpaaGreatDoor
